import PyProof.Rows.All
import Wide.All
import OpenK.AllK
import Wide.FinOn
import Lean
import PySem.Challenge.RW_xc0027_01
set_option Elab.async false
set_option maxRecDepth 100000
set_option linter.unusedVariables false
set_option bootstrap.genMatcherCode false
set_option compiler.extract_closed false
set_option genSizeOf false

section
open PySem PySem.W PySem.Calls PyProof.Rows
namespace Mine

inductive AV where
  | none | bool (b : Bool) | int (i : Int) | str (x : Str) | raw (v : Value) | obj (l : Nat)
  | tup (xs : List AV) | list (xs : List AV) | attrs (es : List (Str × AV)) | dict (es : List (Str × AV))
  | inst (c : Addr) (es : List (Str × AV)) | range (a b c : Int) | bnd (self : AV) (id : String) | cell (x : AV)
  deriving Inhabited

inductive GC where
  | base (o : Obj) | val (av : AV) | loc (l : Nat)

noncomputable abbrev Gh := Addr → Option GC

noncomputable def VR (G : Gh) (v : Value) : AV → Prop
  | .none => v = .none
  | .bool b => v = .bool b
  | .int i => ∃ t, v = .int i t
  | .str x => ∃ t, v = .str x t
  | .raw u => v = u
  | .obj l => ∃ a, v = .ref a ∧ G a = some (.loc l)
  | .tup xs => ∃ a, v = .ref a ∧ G a = some (.val (.tup xs))
  | .list xs => ∃ a, v = .ref a ∧ G a = some (.val (.list xs))
  | .attrs xs => ∃ a, v = .ref a ∧ G a = some (.val (.attrs xs))
  | .dict xs => ∃ a, v = .ref a ∧ G a = some (.val (.dict xs))
  | .inst c xs => ∃ a, v = .ref a ∧ G a = some (.val (.inst c xs))
  | .range x y z => ∃ a, v = .ref a ∧ G a = some (.val (.range x y z))
  | .bnd x y => ∃ a, v = .ref a ∧ G a = some (.val (.bnd x y))
  | .cell x => ∃ a, v = .ref a ∧ G a = some (.val (.cell x))

noncomputable def VRs (G : Gh) : List Value → List AV → Prop
  | [], [] => True
  | v :: vs, x :: xs => VR G v x ∧ VRs G vs xs
  | _, _ => False

noncomputable def Grow (G G' : Gh) : Prop := ∀ a g, G a = some g → G' a = some g
theorem Grow.refl (G : Gh) : Grow G G := fun _ _ e => e
theorem Grow.trans {G G' G'' : Gh} (x : Grow G G') (y : Grow G' G'') : Grow G G'' := fun a g e => y a g (x a g e)

theorem VR.mono {G G' : Gh} (hg : Grow G G') {v : Value} : ∀ {av : AV}, VR G v av → VR G' v av
  | .none, h => h
  | .bool _, h => h
  | .int _, h => h
  | .str _, h => h
  | .raw _, h => h
  | .obj _, ⟨a, e, h⟩ => ⟨a, e, hg a _ h⟩
  | .tup _, ⟨a, e, h⟩ => ⟨a, e, hg a _ h⟩
  | .list _, ⟨a, e, h⟩ => ⟨a, e, hg a _ h⟩
  | .attrs _, ⟨a, e, h⟩ => ⟨a, e, hg a _ h⟩
  | .dict _, ⟨a, e, h⟩ => ⟨a, e, hg a _ h⟩
  | .inst _ _, ⟨a, e, h⟩ => ⟨a, e, hg a _ h⟩
  | .range _ _ _, ⟨a, e, h⟩ => ⟨a, e, hg a _ h⟩
  | .bnd _ _, ⟨a, e, h⟩ => ⟨a, e, hg a _ h⟩
  | .cell _, ⟨a, e, h⟩ => ⟨a, e, hg a _ h⟩

theorem VRs.mono {G G' : Gh} (hg : Grow G G') : ∀ {vs : List Value} {xs : List AV}, VRs G vs xs → VRs G' vs xs
  | [], [], _ => trivial
  | _ :: _, _ :: _, ⟨h, r⟩ => ⟨h.mono hg, r.mono hg⟩
  | [], _ :: _, h => h.elim
  | _ :: _, [], h => h.elim
theorem VRs.inv {G : Gh} {us : List Value} {a : AV} {as : List AV} (h : VRs G us (a :: as)) : ∃ u us', us = u :: us' ∧ VR G u a ∧ VRs G us' as := by
  cases us with
  | nil => exact h.elim
  | cons u us' => exact ⟨u, us', rfl, h.1, h.2⟩
theorem VRs.inv0 {G : Gh} {us : List Value} (h : VRs G us []) : us = [] := by
  cases us with
  | nil => rfl
  | cons u us' => exact h.elim
theorem VRs.length {G : Gh} : ∀ {vs : List Value} {xs : List AV}, VRs G vs xs → vs.length = xs.length
  | [], [], _ => rfl
  | _ :: _, _ :: _, ⟨_, r⟩ => by simp [r.length]
  | [], _ :: _, h => h.elim
  | _ :: _, [], h => h.elim
theorem VRs.append {G : Gh} : ∀ {vs : List Value} {xs : List AV} {us ys}, VRs G vs xs → VRs G us ys → VRs G (vs ++ us) (xs ++ ys)
  | [], [], _, _, _, h => h
  | _ :: _, _ :: _, _, _, ⟨h, r⟩, h' => ⟨h, r.append h'⟩
  | [], _ :: _, _, _, h, _ => h.elim
  | _ :: _, [], _, _, h, _ => h.elim
theorem VRs.get {G : Gh} : ∀ {vs : List Value} {xs : List AV} {i : Nat} {x : AV}, VRs G vs xs → xs[i]? = some x → ∃ v, vs[i]? = some v ∧ VR G v x
  | [], [], _, _, _, e => by simp at e
  | v :: _, _ :: _, 0, _, ⟨h, _⟩, e => by simp at e; subst e; exact ⟨v, rfl, h⟩
  | _ :: _, _ :: _, i+1, _, ⟨_, r⟩, e => by
      simp at e
      obtain ⟨v, e1, e2⟩ := r.get e
      exact ⟨v, by simpa using e1, e2⟩
  | [], _ :: _, _, _, h, _ => h.elim
  | _ :: _, [], _, _, h, _ => h.elim
theorem VRs.set {G : Gh} : ∀ {vs : List Value} {xs : List AV} {i : Nat} {v : Value} {x : AV}, VRs G vs xs → VR G v x → VRs G (vs.set i v) (xs.set i x)
  | [], [], _, _, _, _, _ => trivial
  | _ :: _, _ :: _, 0, _, _, ⟨_, r⟩, h' => ⟨h', r⟩
  | _ :: _, _ :: _, i+1, _, _, ⟨h, r⟩, h' => ⟨h, r.set h'⟩
  | [], _ :: _, _, _, _, h, _ => h.elim
  | _ :: _, [], _, _, _, h, _ => h.elim

/-- objects that change -/
inductive AObj where
  | list (xs : List AV)
  | attrs (es : List (Str × AV))
  | dict (es : List (Str × AV))
  | func (fd : FuncData) (d : Option Nat)
  | lam (fd : FuncData) (cl : List (Str × AV))
  | inst (c : Addr) (d : Nat)
  | iattrs (es : List (Str × AV))
  | tab (es : List (Int × Int × Str))
  | lit (src : AV) (i : Nat)
  | tit (src : AV) (i : Nat)
  | rit (x left step : Int)
  | other

noncomputable abbrev Hp := Nat → Option AObj
noncomputable def Hp.put (h : Hp) (l : Nat) (o : AObj) : Hp := fun k => if k = l then some o else h k
@[simp] theorem Hp.put_self (h : Hp) (l : Nat) (o : AObj) : h.put l o l = some o := by simp [Hp.put]
theorem Hp.put_ne (h : Hp) {l k : Nat} (o : AObj) (hk : k ≠ l) : h.put l o k = h k := by simp [Hp.put, hk]
theorem Hp.put_put (h : Hp) (l : Nat) (o o' : AObj) : (h.put l o).put l o' = h.put l o' := by
  funext k; simp only [Hp.put]; split <;> rfl
theorem Hp.put_eq (h : Hp) {l : Nat} {o : AObj} (e : h l = some o) : h.put l o = h := by
  funext k; simp only [Hp.put]; split
  · rename_i q; rw [q, e]
  · rfl

/-- the contents of an attribute dictionary -/
noncomputable def AttrsO (G : Gh) (o : Obj) (es : List (Str × AV)) : Prop :=
  ∃ xs ep, o.data = .dict xs ep ∧ StrKeys xs ∧ UniqKeys xs ∧ (∀ x, match es.lookup x with | some av => ∃ v, nsFind xs x = some v ∧ VR G v av | none => nsFind xs x = none)

noncomputable def DictO (prog : Program) (w : World) (G : Gh) (o : Obj) (es : List (Str × AV)) : Prop :=
  ∃ kvs : List (Str × Value), o.IsDictOf (strKind prog w) kvs ∧ kvs.map (·.1) = es.map (·.1) ∧ VRs G (kvs.map (·.2)) (es.map (·.2))

structure Bse where
  prog : Program
  w : World
  B : Addr → Option Obj
  T : Addr → Option Nat
  mg : Str → Option Value
  mb : Str → Option Value
  glob : ∃ (o : Obj) (xs : Array DictEntry) (ep : Nat), B mainGlobals = some o ∧ o.data = .dict xs ep ∧ StrKeys xs ∧ ∀ x, nsFind xs x = mg x
  blt : ∃ (o : Obj) (xs : Array DictEntry) (ep : Nat), B builtinsNs = some o ∧ o.data = .dict xs ep ∧ StrKeys xs ∧ ∀ x, nsFind xs x = mb x
  sysm : ∃ (o : Obj), B sysModules = some o
  stat : ∃ (o : Obj) (xs : Array DictEntry) (ep : Nat), B cStatics = some o ∧ o.data = .dict xs ep ∧ StrKeys xs ∧ nsFind xs "sys.recursionlimit" = none

noncomputable abbrev Bse.M (K : Bse) : Model := model K.prog K.w

noncomputable def OV (K : Bse) (G : Gh) (o : Obj) : AV → Prop
  | .tup xs => ∃ vs n, o = { cls := .type "tuple", data := .seq vs n } ∧ VRs G vs.toList xs
  | .list xs => ∃ vs n, o = { cls := .type "list", data := .seq vs n } ∧ VRs G vs.toList xs
  | .attrs es => AttrsO G o es
  | .dict es => DictO K.prog K.w G o es
  | .inst c es => ∃ d, o.cls = .ref c ∧ (∀ q, o.data ≠ .cls q) ∧ o.dict = some d ∧ G d = some (.val (.attrs es))
  | .range a b c => ∃ t u v, o = { cls := .type "range", data := .fields #[.int a t, .int b u, .int c v] }
  | .bnd self id => ∃ a, VR G (.ref a) self ∧ o = { cls := .type "builtin_function_or_method", data := .fields #[.builtin id, .ref a] }
  | .cell x => ∃ v, VR G v x ∧ o.data = .cell (some v)
  | _ => False

noncomputable def tabFlat (G : Gh) : List Value → List (Int × Int × Str) → Prop
  | [], [] => True
  | x :: y :: z :: r, (a, b, q) :: es => x = rawInt a ∧ y = rawInt b ∧ (∃ c o vs t, z = .ref c ∧ G c = some (.base o) ∧ o.data = .fields vs ∧ vs[1]? = some (.str q t)) ∧ tabFlat G r es
  | _, _ => False

/-- the code object of a function -/
noncomputable def CodeG (G : Gh) (fd : FuncData) : Prop := ∃ c o vs t, fd.code = .ref c ∧ G c = some (.base o) ∧ o.data = .fields vs ∧ vs[1]? = some (.str fd.qualname t)
noncomputable def CellsG (G : Gh) (clos : List (Str × Addr)) (cl : List (Str × AV)) : Prop := ∀ x av, cl.lookup x = some av → ∃ k, clos.lookup x = some k ∧ G k = some (.val (.cell av))

noncomputable def OL (K : Bse) (G : Gh) (o : Obj) : AObj → Prop
  | .list xs => ∃ vs n, o = { cls := .type "list", data := .seq vs n } ∧ VRs G vs.toList xs
  | .attrs es => AttrsO G o es
  | .iattrs es => AttrsO G o es
  | .dict es => DictO K.prog K.w G o es
  | .func fd d => o.cls = .type "function" ∧ o.data = .func fd ∧ o.slots = #[] ∧ match d with | none => o.dict = none | some l => ∃ a, o.dict = some a ∧ G a = some (.loc l)
  | .lam fd cl => o = { cls := .type "function", data := .func fd } ∧ CodeG G fd ∧ CellsG G fd.closure cl
  | .inst c d => o.cls = .ref c ∧ (∀ q, o.data ≠ .cls q) ∧ ∃ a, o.dict = some a ∧ G a = some (.loc d)
  | .tab es => ∃ ps, o = W.tabObj ps ∧ tabFlat G ps.toList es
  | .lit src i => ∃ l, VR G (.ref l) src ∧ o.cls = .type "list_iterator" ∧ o.data = .fields #[.ref l, .int i 0]
  | .tit src i => ∃ l, VR G (.ref l) src ∧ o.cls = .type "tuple_iterator" ∧ o.data = .fields #[.ref l, .int i 0]
  | .rit x left step => IsRangeIterO o x left step
  | .other => True
where IsRangeIterO (o : Obj) (x left step : Int) : Prop := o = { cls := .type "range_iterator", data := .fields #[rawInt x, rawInt left, rawInt step] }

end Mine
end

section
open PySem PySem.W PySem.Calls PyProof.Rows
namespace Mine

theorem AttrsO.mono {G G' : Gh} (hg : Grow G G') {o : Obj} {es} (h : AttrsO G o es) : AttrsO G' o es := by
  obtain ⟨xs, ep, h1, h3, h4, h5⟩ := h
  refine ⟨xs, ep, h1, h3, h4, fun x => ?_⟩
  have := h5 x
  split at this
  · obtain ⟨v, a, b⟩ := this; exact ⟨v, a, b.mono hg⟩
  · exact this
theorem DictO.mono {p w} {G G' : Gh} (hg : Grow G G') {o : Obj} {es} (h : DictO p w G o es) : DictO p w G' o es :=
  let ⟨kvs, a, b, c⟩ := h; ⟨kvs, a, b, c.mono hg⟩
theorem tabFlat.mono {G G' : Gh} (hg : Grow G G') : ∀ {ps : List Value} {es}, tabFlat G ps es → tabFlat G' ps es
  | [], [], _ => trivial
  | x :: y :: z :: r, (a, b, q) :: es, ⟨h1, h2, ⟨c, o, vs, t, h3, h4, h5⟩, h6⟩ => ⟨h1, h2, ⟨c, o, vs, t, h3, hg _ _ h4, h5⟩, h6.mono hg⟩
  | [], _ :: _, h => h.elim
  | [_], _, h => by cases ‹List (Int × Int × Str)› <;> exact h.elim
  | [_, _], _, h => by cases ‹List (Int × Int × Str)› <;> exact h.elim
  | _ :: _ :: _ :: _, [], h => h.elim
theorem OV.mono {K : Bse} {G G' : Gh} (hg : Grow G G') {o : Obj} : ∀ {av : AV}, OV K G o av → OV K G' o av
  | .tup _, ⟨vs, n, a, b⟩ => ⟨vs, n, a, b.mono hg⟩
  | .list _, ⟨vs, n, a, b⟩ => ⟨vs, n, a, b.mono hg⟩
  | .attrs _, h => AttrsO.mono hg h
  | .dict _, h => DictO.mono hg h
  | .inst _ _, ⟨d, a, b, c, e⟩ => ⟨d, a, b, c, hg _ _ e⟩
  | .range _ _ _, h => h
  | .bnd _ _, ⟨a, b, c⟩ => ⟨a, b.mono hg, c⟩
  | .cell _, ⟨a, b, c⟩ => ⟨a, b.mono hg, c⟩
  | .none, h => h | .bool _, h => h | .int _, h => h | .str _, h => h | .raw _, h => h | .obj _, h => h
theorem OL.mono {K : Bse} {G G' : Gh} (hg : Grow G G') {o : Obj} : ∀ {av : AObj}, OL K G o av → OL K G' o av
  | .list _, ⟨vs, n, a, b⟩ => ⟨vs, n, a, b.mono hg⟩
  | .attrs _, h => AttrsO.mono hg h
  | .dict _, h => DictO.mono hg h
  | .func _ none, h => h
  | .func _ (some _), ⟨a, b, c, d, e, f⟩ => ⟨a, b, c, d, e, hg _ _ f⟩
  | .iattrs _, h => AttrsO.mono hg h
  | .inst _ _, ⟨a, b, d, e, f⟩ => ⟨a, b, d, e, hg _ _ f⟩
  | .lam _ _, ⟨a, ⟨c, o, vs, t, e1, e2, e3, e4⟩, f⟩ => ⟨a, ⟨c, o, vs, t, e1, hg _ _ e2, e3, e4⟩, fun x av e => let ⟨k, g1, g2⟩ := f x av e; ⟨k, g1, hg _ _ g2⟩⟩
  | .tab _, ⟨ps, a, b⟩ => ⟨ps, a, b.mono hg⟩
  | .lit _ _, ⟨l, a, b⟩ => ⟨l, a.mono hg, b⟩
  | .tit _ _, ⟨l, a, b⟩ => ⟨l, a.mono hg, b⟩
  | .rit _ _ _, h => h
  | .other, h => h

structure Cx where
  d : Nat
  env : Env
  wr : Bool
  L : List (Str × AV)
noncomputable def Cx.own (c : Cx) : List Addr := c.env.locals :: if c.wr then (c.env.cells.filter fun p => c.env.cells.lookup p.1 == some p.2).map (·.2) else []
theorem Cx.own0 (c : Cx) : c.env.locals ∈ c.own := List.mem_cons_self ..
theorem Cx.ownC {c : Cx} (hw : c.wr = true) {x : Str} {k : Addr} (e : c.env.cells.lookup x = some k) : k ∈ c.own := by
  unfold Cx.own; rw [hw]; exact List.mem_cons_of_mem _ (List.mem_map.mpr ⟨(x, k), List.mem_filter.mpr ⟨mem_of_lookup e, by simp [e]⟩, rfl⟩)
theorem Cx.own_cases {c : Cx} {a : Addr} (h : a ∈ c.own) : a = c.env.locals ∨ ∃ x, c.env.cells.lookup x = some a := by
  rcases List.mem_cons.mp h with e | h
  · exact .inl e
  · split at h
    · obtain ⟨⟨n, k⟩, hm, rfl⟩ := List.mem_map.mp h
      exact .inr ⟨n, by simpa using (List.mem_filter.mp hm).2⟩
    · cases h

noncomputable def OkA (d : Nat) (A : Around) : Prop := A.handled = none ∧ A.depth + d < recursionLimit ∧ A.units + 16 * d + 16 ≤ cLine
theorem OkA.in1 {d A} (h : OkA (d+1) A) : OkA d A.in1 := ⟨h.1, by have := h.2.1; simp only [Around.in1_depth]; omega, by have := h.2.2; simp only [Around.in1_units]; omega⟩
theorem OkA.mono {d e A} (h : OkA d A) (hde : e ≤ d) : OkA e A := ⟨h.1, by have := h.2.1; omega, by have := h.2.2; omega⟩
theorem OkA.room {d A} (h : OkA d A) : A.depth < recursionLimit := by have := h.2.1; omega
theorem OkA.units {d A} (h : OkA d A) : A.in1.units < cLine := by have := h.2.2; simp only [Around.in1_units]; omega
theorem OkA.deeper {d A} {env : Env} (h : OkA (d+1) A) : OkA d (A.deeper env) :=
  ⟨h.1, by have := h.2.1; simp only [Around.deeper]; omega, by have := h.2.2; simp only [Around.deeper]; omega⟩

noncomputable def Sat (K : Bse) (G : Gh) (h : Hp) : GC → Obj → Prop
  | .base o', o => o = o'
  | .val av, o => OV K G o av
  | .loc l, o => match h l with | none => True | some ao => OL K G o ao

theorem Sat.mono {K G G' h} (hg : Grow G G') {g : GC} {o : Obj} (x : Sat K G h g o) : Sat K G' h g o := by
  cases g with
  | base _ => exact x
  | val _ => exact OV.mono hg x
  | loc l =>
    simp only [Sat] at x ⊢
    split
    · trivial
    · rename_i ao e; rw [e] at x; exact OL.mono hg x

noncomputable def Has (env : Env) (G : Gh) (hp : Heap) (m : Str → Option Value) (x : Str) (av : AV) : Prop :=
  ∃ v, VR G v av ∧ ((env.kindOf x = some .local ∧ m x = some v) ∨
    ((env.kindOf x = some .cell ∨ env.kindOf x = some .free) ∧ ∃ k, env.cells.lookup x = some k ∧ hp.IsCell k (some v)))

/-- a cell: not tracked, or frozen -/
noncomputable def CellG (G : Gh) (k : Addr) : Prop := G k = none ∨ ∃ av, G k = some (.val (.cell av))

structure Rel (K : Bse) (c : Cx) (h : Hp) (G : Gh) (hp : Heap) : Prop where
  cells : ∀ a g, G a = some g → ∃ o, hp.get? a = some o ∧ Sat K G h g o
  bound : ∃ n, ∀ a l, G a = some (.loc l) → l < n
  inj : ∀ a b l, G a = some (.loc l) → G b = some (.loc l) → a = b
  live : ∀ l o, h l = some o → ∃ a, G a = some (.loc l)
  base : ∀ a o, K.B a = some o → G a = some (.base o)
  tabs : ∀ a l, K.T a = some l → G a = some (.loc l)
  kind : c.env.scope.kind = .function
  glob : c.env.globals = mainGlobals ∧ c.env.builtins = builtinsNs
  ns : ∃ m, hp.Ns c.env.locals m ∧ ∀ x av, c.L.lookup x = some av → Has c.env G hp m x av
  own1 : ∀ a ∈ c.own, G a = none ∧ a < hp.objs.size
  cell : ∀ x k, c.env.cells.lookup x = some k → k ≠ c.env.locals ∧ CellG G k ∧ ∃ w, hp.IsCell k w
  cellInj : c.env.cells.Pairwise fun x y => x.2 ≠ y.2

structure Stp (own : List Addr) (G G' : Gh) (s s' : Shared) : Prop where
  grow : Grow G G'
  new : ∀ a, G a = none → a < s.heap.objs.size → G' a = none
  size : s.heap.objs.size ≤ s'.heap.objs.size
  keep : ∀ a o, G a = none → a ∉ own → s.heap.get? a = some o → s'.heap.get? a = some o
  keepV : ∀ a av o, G a = some (.val av) → s.heap.get? a = some o → s'.heap.get? a = some o
  os : s'.os = s.os
  gens : s'.gens = s.gens

theorem Stp.refl (own G s) : Stp own G G s s := ⟨Grow.refl _, fun _ h _ => h, Nat.le_refl _, fun _ _ _ _ e => e, fun _ _ _ _ e => e, rfl, rfl⟩
theorem Stp.trans {own G G' G'' s s' s''} (x : Stp own G G' s s') (y : Stp own G' G'' s' s'') : Stp own G G'' s s'' :=
  ⟨x.grow.trans y.grow, fun a h hl => y.new a (x.new a h hl) (Nat.lt_of_lt_of_le hl x.size), Nat.le_trans x.size y.size,
   fun a o h ho e => y.keep a o (x.new a h (Heap.lt_size e)) ho (x.keep a o h ho e), fun a av o h e => y.keepV a av o (x.grow _ _ h) (x.keepV a av o h e), y.os.trans x.os, y.gens.trans x.gens⟩
theorem Stp.sub {own own' G G' s s'} (x : Stp own G G' s s') (h : ∀ a ∈ own, a ∈ own') : Stp own' G G' s s' :=
  ⟨x.grow, x.new, x.size, fun a o g ho e => x.keep a o g (fun q => ho (h a q)) e, x.keepV, x.os, x.gens⟩
theorem Stp.toks {own G G' s s'} {t : Nat} (x : Stp own G G' s s') : Stp own G G' s { s' with toks := t } := ⟨x.grow, x.new, x.size, x.keep, x.keepV, x.os, x.gens⟩
theorem Stp.toksL {own G G' s s'} {t : Nat} (x : Stp own G G' { s with toks := t } s') : Stp own G G' s s' := ⟨x.grow, x.new, x.size, x.keep, x.keepV, x.os, x.gens⟩
theorem Stp.heap {own : List Addr} {G : Gh} {s : Shared} {hp : Heap} {t : Nat} (hk : ∀ b o, s.heap.get? b = some o → hp.get? b = some o) (hsz : s.heap.objs.size ≤ hp.objs.size) :
    Stp own G G s { s with heap := hp, toks := t } := ⟨Grow.refl _, fun _ h _ => h, hsz, fun a o _ _ e => hk a o e, fun a _ o _ e => hk a o e, rfl, rfl⟩

/-- a change inside own -/
theorem Stp.inOwn {own : List Addr} {G : Gh} {s : Shared} {hp : Heap} {t : Nat} {a : Addr} (ha : a ∈ own) (hn : G a = none) (hs : Heap.SameBut a s.heap hp) :
    Stp own G G s { s with heap := hp, toks := t } :=
  ⟨Grow.refl _, fun _ h _ => h, Nat.le_of_eq hs.1.symm, fun b o _ hb e => (hs.2 b (fun q => hb (q ▸ ha))).trans e,
   fun b _ o hb e => (hs.2 b (fun q => by rw [q, hn] at hb; cases hb)).trans e, rfl, rfl⟩
/-- a change at a loc -/
theorem Stp.atLoc {own : List Addr} {G : Gh} {s : Shared} {hp : Heap} {t : Nat} {a : Addr} {l : Nat} (ha : G a = some (.loc l)) (hs : Heap.SameBut a s.heap hp) :
    Stp own G G s { s with heap := hp, toks := t } :=
  ⟨Grow.refl _, fun _ h _ => h, Nat.le_of_eq hs.1.symm, fun b o hb _ e => (hs.2 b (fun q => by rw [q, ha] at hb; cases hb)).trans e,
   fun b _ o hb e => (hs.2 b (fun q => by rw [q, ha] at hb; cases hb)).trans e, rfl, rfl⟩

noncomputable def Gput (G : Gh) (a : Addr) (g : GC) : Gh := fun b => if b = a then some g else G b
@[simp] theorem Gput_self (G : Gh) (a g) : Gput G a g a = some g := by simp [Gput]
theorem Gput_ne (G : Gh) {a b : Addr} (g) (h : b ≠ a) : Gput G a g b = G b := by simp [Gput, h]
theorem Gput_grow {G : Gh} {a : Addr} {g : GC} (h : G a = none) : Grow G (Gput G a g) := fun b g' e => by
  rw [Gput_ne]; exact e
  rintro rfl; rw [h] at e; cases e

theorem CellG.noLoc {G : Gh} {k a : Addr} {l : Nat} (h : CellG G k) (ha : G a = some (.loc l)) : k ≠ a := fun q => by
  rcases h with h | ⟨av, h⟩ <;> (rw [q, ha] at h; cases h)
theorem CellG.put {G : Gh} {k a : Addr} {g : GC} (h : CellG G k) (hne : k ≠ a) : CellG (Gput G a g) k := by
  unfold CellG; rw [Gput_ne _ _ hne]; exact h
theorem Stp.cellG {own G G' s s'} (st : Stp own G G' s s') {k : Addr} (h : CellG G k) (hl : k < s.heap.objs.size) : CellG G' k := by
  rcases h with h | ⟨av, h⟩
  · exact .inl (st.new k h hl)
  · exact .inr ⟨av, st.grow _ _ h⟩
theorem Stp.cellKeep {own G G' s s'} (st : Stp own G G' s s') {k : Addr} {o : Obj} (h : CellG G k) (ho : k ∉ own) (e : s.heap.get? k = some o) : s'.heap.get? k = some o := by
  rcases h with h | ⟨av, h⟩
  · exact st.keep k o h ho e
  · exact st.keepV k _ o h e

section
variable {K : Bse} {c : Cx} {h : Hp} {G : Gh} {hp hp' : Heap}

theorem Has.keep {env : Env} {m : Str → Option Value} {x av} (H : Has env G hp m x av) (hk : ∀ b o, hp.get? b = some o → hp'.get? b = some o) : Has env G hp' m x av := by
  obtain ⟨v, hv, h1 | ⟨h2, k, hk', hc⟩⟩ := H
  · exact ⟨v, hv, .inl h1⟩
  · exact ⟨v, hv, .inr ⟨h2, k, hk', hc.keeps hk⟩⟩
theorem Has.mono {G' : Gh} {env : Env} {m : Str → Option Value} {x av} (H : Has env G hp m x av) (hg : Grow G G') : Has env G' hp m x av := by
  obtain ⟨v, hv, r⟩ := H
  exact ⟨v, hv.mono hg, r⟩

theorem Rel.cell_lt (R : Rel K c h G hp) {x : Str} {k : Addr} (e : c.env.cells.lookup x = some k) : k < hp.objs.size := (R.cell x k e).2.2.elim fun _ r => r.lt
theorem Rel.none_of_ge (R : Rel K c h G hp) {a : Addr} (ha : hp.objs.size ≤ a) : G a = none := by
  cases e : G a with
  | none => rfl
  | some g => obtain ⟨o, ho, _⟩ := R.cells a g e; exact absurd (Heap.lt_size ho) (Nat.not_lt.mpr ha)
theorem Rel.lt (R : Rel K c h G hp) {a : Addr} {g : GC} (e : G a = some g) : a < hp.objs.size := by
  obtain ⟨o, ho, _⟩ := R.cells a g e; exact Heap.lt_size ho

theorem Rel.keep (R : Rel K c h G hp) (hk : ∀ b o, hp.get? b = some o → hp'.get? b = some o) (hsz : hp.objs.size ≤ hp'.objs.size) : Rel K c h G hp' where
  cells a g e := let ⟨o, ho, x⟩ := R.cells a g e; ⟨o, hk _ _ ho, x⟩
  bound := R.bound
  inj := R.inj
  live := R.live
  base := R.base
  tabs := R.tabs
  kind := R.kind
  glob := R.glob
  ns := let ⟨m, hn, hb⟩ := R.ns; ⟨m, hn.keeps hk, fun x av e => (hb x av e).keep hk⟩
  own1 a ha := ⟨(R.own1 a ha).1, Nat.lt_of_lt_of_le (R.own1 a ha).2 hsz⟩
  cell x k e := let ⟨p, q, w, r⟩ := R.cell x k e; ⟨p, q, w, r.keeps hk⟩
  cellInj := R.cellInj

/-- changes only at addresses that are tracked nowhere -/
theorem Rel.keepT (R : Rel K c h G hp) (hk : ∀ b o, (G b ≠ none ∨ b = c.env.locals ∨ ∃ x, c.env.cells.lookup x = some b) → hp.get? b = some o → hp'.get? b = some o) (hsz : hp.objs.size ≤ hp'.objs.size) : Rel K c h G hp' where
  cells a g e := let ⟨o, ho, x⟩ := R.cells a g e; ⟨o, hk _ _ (.inl (by rw [e]; simp)) ho, x⟩
  bound := R.bound
  inj := R.inj
  live := R.live
  base := R.base
  tabs := R.tabs
  kind := R.kind
  glob := R.glob
  ns := by
    obtain ⟨m, hn, hb⟩ := R.ns
    refine ⟨m, hn.at' (hk _ · (.inr (.inl rfl))), fun x av e => ?_⟩
    obtain ⟨v, hv, h1 | ⟨h2, k, hk', o, ho, hd⟩⟩ := hb x av e
    · exact ⟨v, hv, .inl h1⟩
    · exact ⟨v, hv, .inr ⟨h2, k, hk', o, hk _ _ (.inr (.inr ⟨x, hk'⟩)) ho, hd⟩⟩
  own1 a ha := ⟨(R.own1 a ha).1, Nat.lt_of_lt_of_le (R.own1 a ha).2 hsz⟩
  cell x k e := let ⟨p, q, w, o, ho, hd⟩ := R.cell x k e; ⟨p, q, w, o, hk _ _ (.inr (.inr ⟨x, e⟩)) ho, hd⟩
  cellInj := R.cellInj

theorem Rel.put (R : Rel K c h G hp) {a : Addr} {g : GC} (ha : G a = none) (hao : a ∉ c.own) (hac : ∀ x k, c.env.cells.lookup x = some k → k ≠ a) {o : Obj} (hga : hp.get? a = some o) {h' : Hp}
    (hg : Sat K (Gput G a g) h' g o) (hh : ∀ l, g ≠ .loc l → True)
    (hother : ∀ b g', b ≠ a → G b = some g' → ∀ o, Sat K (Gput G a g) h g' o → Sat K (Gput G a g) h' g' o)
    (hb : ∃ n, ∀ b l, Gput G a g b = some (.loc l) → l < n) (hi : ∀ b b' l, Gput G a g b = some (.loc l) → Gput G a g b' = some (.loc l) → b = b')
    (hl : ∀ l o, h' l = some o → ∃ b, Gput G a g b = some (.loc l)) : Rel K c h' (Gput G a g) hp where
  cells b g' e := by
    by_cases hba : b = a
    · subst hba; rw [Gput_self] at e; cases e; exact ⟨o, hga, hg⟩
    · rw [Gput_ne _ _ hba] at e
      obtain ⟨o', ho', x⟩ := R.cells b g' e
      exact ⟨o', ho', hother b g' hba e o' (x.mono (Gput_grow ha))⟩
  bound := hb
  inj := hi
  live := hl
  base b o' e := Gput_grow ha _ _ (R.base b o' e)
  tabs b l e := Gput_grow ha _ _ (R.tabs b l e)
  kind := R.kind
  glob := R.glob
  ns := let ⟨m, hn, hb⟩ := R.ns; ⟨m, hn, fun x av e => (hb x av e).mono (Gput_grow ha)⟩
  own1 b hb := ⟨by
    have q : b ≠ a := fun q => hao (by rw [← q]; exact hb)
    rw [Gput_ne _ _ q]; exact (R.own1 b hb).1, (R.own1 b hb).2⟩
  cell x k e := by
    obtain ⟨p, q, r⟩ := R.cell x k e
    exact ⟨p, q.put (hac x k e), r⟩
  cellInj := R.cellInj

/-- a fresh frozen object -/
theorem Rel.val (R : Rel K c h G hp) (hk : ∀ b o, hp.get? b = some o → hp'.get? b = some o) (hsz : hp.objs.size ≤ hp'.objs.size) {a : Addr} (ha : hp.objs.size ≤ a) {o : Obj} (hga : hp'.get? a = some o)
    {av : AV} (hv : OV K G o av) : Rel K c h (Gput G a (.val av)) hp' := by
  have R' := R.keep hk hsz
  have hn := R.none_of_ge ha
  refine R'.put hn (fun q => absurd (R.own1 a q).2 (Nat.not_lt.mpr ha)) (fun x k e q => absurd (R.cell_lt e) (by rw [q]; exact Nat.not_lt.mpr ha)) hga (OV.mono (Gput_grow hn) hv) (fun _ _ => trivial)
    (fun _ _ _ _ _ x => x) ?_ ?_ ?_
  · obtain ⟨n, hb⟩ := R.bound
    refine ⟨n, fun b l e => ?_⟩
    by_cases q : b = a
    · subst q; rw [Gput_self] at e; cases e
    · rw [Gput_ne _ _ q] at e; exact hb b l e
  · intro b b' l e e'
    by_cases q : b = a
    · subst q; rw [Gput_self] at e; cases e
    · by_cases q' : b' = a
      · subst q'; rw [Gput_self] at e'; cases e'
      · rw [Gput_ne _ _ q] at e; rw [Gput_ne _ _ q'] at e'; exact R.inj b b' l e e'
  · intro l o e
    obtain ⟨b, hb⟩ := R.live l o e
    exact ⟨b, Gput_grow hn _ _ hb⟩

/-- a fresh object that may change -/
theorem Rel.loc (R : Rel K c h G hp) (hk : ∀ b o, hp.get? b = some o → hp'.get? b = some o) (hsz : hp.objs.size ≤ hp'.objs.size) {a : Addr} (ha : hp.objs.size ≤ a) {o : Obj} (hga : hp'.get? a = some o)
    {ao : AObj} (hv : OL K G o ao) : ∃ l, h l = none ∧ Rel K c (h.put l ao) (Gput G a (.loc l)) hp' := by
  have R' := R.keep hk hsz
  have hn := R.none_of_ge ha
  obtain ⟨n, hb⟩ := R.bound
  have hnone : h n = none := by
    cases e : h n with
    | none => rfl
    | some o => obtain ⟨b, q⟩ := R.live n o e; exact absurd (hb b n q) (Nat.lt_irrefl _)
  refine ⟨n, hnone, ?_⟩
  refine R'.put hn (fun q => absurd (R.own1 a q).2 (Nat.not_lt.mpr ha)) (fun x k e q => absurd (R.cell_lt e) (by rw [q]; exact Nat.not_lt.mpr ha)) hga ?_ (fun _ _ => trivial) ?_ ?_ ?_ ?_
  · show match (h.put n ao) n with | none => True | some ao => OL K _ o ao
    rw [Hp.put_self]; exact OL.mono (Gput_grow hn) hv
  · intro b g' hba e o' x
    cases g' with
    | base _ => exact x
    | val _ => exact x
    | loc l =>
      have : l ≠ n := fun q => by subst q; exact absurd (hb b l e) (Nat.lt_irrefl _)
      simp only [Sat] at x ⊢
      rw [Hp.put_ne _ _ this]; exact x
  · refine ⟨n + 1, fun b l e => ?_⟩
    by_cases q : b = a
    · subst q; rw [Gput_self] at e; cases e; omega
    · rw [Gput_ne _ _ q] at e; have := hb b l e; omega
  · intro b b' l e e'
    by_cases q : b = a
    · subst q; rw [Gput_self] at e; cases e
      by_cases q' : b' = b
      · exact q'.symm
      · rw [Gput_ne _ _ q'] at e'; exact absurd (hb _ _ e') (Nat.lt_irrefl _)
    · rw [Gput_ne _ _ q] at e
      by_cases q' : b' = a
      · subst q'; rw [Gput_self] at e'; cases e'; exact absurd (hb _ _ e) (Nat.lt_irrefl _)
      · rw [Gput_ne _ _ q'] at e'; exact R.inj b b' l e e'
  · intro l o e
    by_cases q : l = n
    · subst q; exact ⟨a, Gput_self ..⟩
    · rw [Hp.put_ne _ _ q] at e
      obtain ⟨b, hb⟩ := R.live l o e
      exact ⟨b, Gput_grow hn _ _ hb⟩

theorem Stp.put {own : List Addr} {s : Shared} {hp' : Heap} {t : Nat} {a : Addr} {g : GC} (hn : G a = none) (ha : s.heap.objs.size ≤ a) (hk : ∀ b o, s.heap.get? b = some o → hp'.get? b = some o) (hsz : s.heap.objs.size ≤ hp'.objs.size) :
    Stp own G (Gput G a g) s { s with heap := hp', toks := t } :=
  ⟨Gput_grow hn, fun b hb hl => by rw [Gput_ne]; exact hb; rintro rfl; exact absurd hl (Nat.not_lt.mpr ha), hsz, fun b o _ _ e => hk b o e, fun b _ o _ e => hk b o e, rfl, rfl⟩

/-- a change at a loc -/
theorem Rel.upd (R : Rel K c h G hp) {a : Addr} {l : Nat} (ha : G a = some (.loc l)) (hs : Heap.SameBut a hp hp') {o : Obj} (ho : hp'.get? a = some o) {ao : AObj} (hv : OL K G o ao) : Rel K c (h.put l ao) G hp' where
  cells b g e := by
    by_cases q : b = a
    · subst q; rw [ha] at e; cases e
      refine ⟨o, ho, ?_⟩
      show match (h.put l ao) l with | none => True | some ao => OL K _ o ao
      rw [Hp.put_self]; exact hv
    · obtain ⟨o', ho', x⟩ := R.cells b g e
      refine ⟨o', (hs.2 b q).trans ho', ?_⟩
      cases g with
      | base _ => exact x
      | val _ => exact x
      | loc l' =>
        have : l' ≠ l := fun w => q (R.inj b a l (w ▸ e) ha)
        simp only [Sat] at x ⊢
        rw [Hp.put_ne _ _ this]; exact x
  bound := R.bound
  inj := R.inj
  live l' o' e := by
    by_cases q : l' = l
    · subst q; exact ⟨a, ha⟩
    · rw [Hp.put_ne _ _ q] at e; exact R.live l' o' e
  base := R.base
  tabs := R.tabs
  kind := R.kind
  glob := R.glob
  ns := by
    obtain ⟨m, hn, hb⟩ := R.ns
    have hla : c.env.locals ≠ a := fun q => by have := (R.own1 _ c.own0).1; rw [q, ha] at this; cases this
    refine ⟨m, hn.sameBut hs hla, fun x av e => ?_⟩
    obtain ⟨v, hv, h1 | ⟨h2, k, hk', hc⟩⟩ := hb x av e
    · exact ⟨v, hv, .inl h1⟩
    · exact ⟨v, hv, .inr ⟨h2, k, hk', hc.sameBut hs ((R.cell x k hk').2.1.noLoc ha)⟩⟩
  own1 b hb := ⟨(R.own1 b hb).1, by rw [hs.1]; exact (R.own1 b hb).2⟩
  cell x k e := let ⟨p, q, w, r⟩ := R.cell x k e; ⟨p, q, w, r.sameBut hs (q.noLoc ha)⟩
  cellInj := R.cellInj

theorem Rel.drop (R : Rel K c h G hp) {h' : Hp} (hh : ∀ l o, h' l = some o → h l = some o) : Rel K c h' G hp :=
  { R with
    cells := fun a g e => by
      obtain ⟨o, ho, x⟩ := R.cells a g e
      refine ⟨o, ho, ?_⟩
      cases g with
      | base _ => exact x
      | val _ => exact x
      | loc l =>
        simp only [Sat] at x ⊢
        split
        · trivial
        · rename_i ao q; rw [hh _ _ q] at x; exact x
    live := fun l o e => R.live l o (hh l o e) }

theorem Rel.sub (R : Rel K c h G hp) {L : List (Str × AV)} (hL : ∀ x av, L.lookup x = some av → c.L.lookup x = some av) : Rel K { c with L := L } h G hp :=
  { R with ns := let ⟨m, hn, hb⟩ := R.ns; ⟨m, hn, fun x av e => hb x av (hL x av e)⟩ }

end

noncomputable def setL : List (Str × AV) → Str → AV → List (Str × AV)
  | [], x, v => [(x, v)]
  | (y, u) :: r, x, v => if y = x then (x, v) :: r else (y, u) :: setL r x v
theorem lookup_setL (L : List (Str × AV)) (x : Str) (v : AV) (y : Str) : (setL L x v).lookup y = if y = x then some v else L.lookup y := by
  induction L with
  | nil =>
    simp only [setL, List.lookup_cons, List.lookup_nil]
    by_cases q : y = x
    · simp [q]
    · have : (y == x) = false := by simpa using q
      simp [q, this]
  | cons p r ih =>
    obtain ⟨z, u⟩ := p
    simp only [setL]
    by_cases q : z = x
    · subst q; rw [if_pos rfl]; simp only [List.lookup_cons]
      by_cases q' : y = z
      · simp [q']
      · have : (y == z) = false := by simpa using q'
        simp [q', this]
    · rw [if_neg q]; simp only [List.lookup_cons, ih]
      by_cases q' : y = z
      · subst q'; simp [q]
      · have : (y == z) = false := by simpa using q'
        rw [this]

section
variable {K : Bse} {c : Cx} {h : Hp} {G : Gh} {hp hp' : Heap}

theorem Rel.setLocal (R : Rel K c h G hp) {x : Str} {v : Value} {av : AV} {m : Str → Option Value} (hl : c.env.kindOf x = some .local) (hv : VR G v av)
    (hm : ∀ y a, c.L.lookup y = some a → Has c.env G hp m y a)
    (hn : hp'.Ns c.env.locals (fun y => if y = x then some v else m y)) (hs : Heap.SameBut c.env.locals hp hp') : Rel K { c with L := setL c.L x av } h G hp' where
  cells a g e := by
    obtain ⟨o, ho, q⟩ := R.cells a g e
    exact ⟨o, (hs.2 a (fun w => by have := (R.own1 _ c.own0).1; rw [← w, e] at this; cases this)).trans ho, q⟩
  bound := R.bound
  inj := R.inj
  live := R.live
  base := R.base
  tabs := R.tabs
  kind := R.kind
  glob := R.glob
  ns := by
    refine ⟨_, hn, fun y a e => ?_⟩
    rw [lookup_setL] at e
    by_cases q : y = x
    · subst q; rw [if_pos rfl] at e; cases e
      exact ⟨v, hv, .inl ⟨hl, by simp⟩⟩
    · rw [if_neg q] at e
      obtain ⟨u, hu, ⟨h1, h1'⟩ | ⟨h2, k, hk', hc⟩⟩ := hm y a e
      · exact ⟨u, hu, .inl ⟨h1, by simpa [q] using h1'⟩⟩
      · exact ⟨u, hu, .inr ⟨h2, k, hk', hc.sameBut hs (R.cell y k hk').1⟩⟩
  own1 b hb := ⟨(R.own1 b hb).1, by rw [hs.1]; exact (R.own1 b hb).2⟩
  cell x k e := let ⟨p, q, w, r⟩ := R.cell x k e; ⟨p, q, w, r.sameBut hs p⟩
  cellInj := R.cellInj

theorem Rel.setCell (R : Rel K c h G hp) {x : Str} {v : Value} {av : AV} {k : Addr} (hk0 : G k = none) (hl : c.env.kindOf x = some .cell) (hc : c.env.cells.lookup x = some k) (hv : VR G v av)
    (hn : hp'.IsCell k (some v)) (hs : Heap.SameBut k hp hp') : Rel K { c with L := setL c.L x av } h G hp' where
  cells a g e := by
    obtain ⟨o, ho, q⟩ := R.cells a g e
    exact ⟨o, (hs.2 a (fun w => by rw [← w, e] at hk0; cases hk0)).trans ho, q⟩
  bound := R.bound
  inj := R.inj
  live := R.live
  base := R.base
  tabs := R.tabs
  kind := R.kind
  glob := R.glob
  ns := by
    obtain ⟨m, hm, hb⟩ := R.ns
    refine ⟨m, hm.sameBut hs (Ne.symm (R.cell x k hc).1), fun y a e => ?_⟩
    rw [lookup_setL] at e
    by_cases q : y = x
    · subst q; rw [if_pos rfl] at e; cases e
      exact ⟨v, hv, .inr ⟨.inl hl, k, hc, hn⟩⟩
    · rw [if_neg q] at e
      obtain ⟨u, hu, h1 | ⟨h2, k', hk', hc'⟩⟩ := hb y a e
      · exact ⟨u, hu, .inl h1⟩
      · exact ⟨u, hu, .inr ⟨h2, k', hk', hc'.sameBut hs (fun w => q (name_of_addr R.cellInj (mem_of_lookup hk') (w ▸ mem_of_lookup hc)))⟩⟩
  own1 b hb := ⟨(R.own1 b hb).1, by rw [hs.1]; exact (R.own1 b hb).2⟩
  cell y k' e := by
    obtain ⟨p, q, w, r⟩ := R.cell y k' e
    by_cases z : k' = k
    · exact ⟨p, q, _, z ▸ hn⟩
    · exact ⟨p, q, w, r.sameBut hs z⟩
  cellInj := R.cellInj

end

/-! what comes of a step -/
section
variable (own : List Addr) (G : Gh) (s : Shared) (s' : Shared)
inductive PE {α : Type} (Rl : Hp → Gh → Heap → Prop) (V : Gh → α → Prop) (Q : α → Hp → Prop) : Prop
  | mk (G' : Gh) (a : α) (h' : Hp) (st : Stp own G G' s s') (rel : Rl h' G' s'.heap) (v : V G' a) (q : Q a h')
inductive PB (Rl : Hp → Gh → Heap → Prop) (Q : Hp → Prop) : Prop
  | mk (G' : Gh) (h' : Hp) (st : Stp own G G' s s') (rel : Rl h' G' s'.heap) (q : Q h')
inductive PL {β : Type} (Rl : β → Hp → Gh → Heap → Prop) (Q : β → Hp → Prop) : Prop
  | mk (G' : Gh) (L' : β) (h' : Hp) (st : Stp own G G' s s') (rel : Rl L' h' G' s'.heap) (q : Q L' h')
inductive PX {α β : Type} (Rl : β → Hp → Gh → Heap → Prop) (V : Gh → α → Prop) (Q : α → β → Hp → Prop) : Prop
  | mk (G' : Gh) (fl : α) (L' : β) (h' : Hp) (st : Stp own G G' s s') (rel : Rl L' h' G' s'.heap) (v : V G' fl) (q : Q fl L' h')
inductive PC {α β : Type} (Rl : β → Hp → Gh → Heap → Prop) (V : Gh → Heap → α → Prop) (Q : β → Hp → α → Prop) : Prop
  | mk (G' : Gh) (L' : β) (h' : Hp) (ys : α) (st : Stp own G G' s s') (rel : Rl L' h' G' s'.heap) (v : V G' s'.heap ys) (q : Q L' h' ys)
inductive PT {β : Type} (Rl : β → Hp → Gh → Heap → Prop) (St : Gh → Heap → Prop) (Lo : Gh → Prop) (Q : β → Hp → Prop) : Prop
  | mk (G' : Gh) (L' : β) (h' : Hp) (st : Stp own G G' s s') (rel : Rl L' h' G' s'.heap) (t : St G' s'.heap) (lo : Lo G') (q : Q L' h')
variable {own : List Addr} {G : Gh} {s s' : Shared} {P : Prop}
theorem PE.use {α : Type} {Rl : Hp → Gh → Heap → Prop} {V : Gh → α → Prop} {Q : α → Hp → Prop} (p : PE own G s s' Rl V Q) (f : ∀ G' a h', Stp own G G' s s' → Rl h' G' s'.heap → V G' a → Q a h' → P) : P := let ⟨a, b, c, d, e, g, h⟩ := p; f a b c d e g h
theorem PB.use {Rl : Hp → Gh → Heap → Prop} {Q : Hp → Prop} (p : PB own G s s' Rl Q) (f : ∀ G' h', Stp own G G' s s' → Rl h' G' s'.heap → Q h' → P) : P := let ⟨a, b, c, d, e⟩ := p; f a b c d e
theorem PL.use {β : Type} {Rl : β → Hp → Gh → Heap → Prop} {Q : β → Hp → Prop} (p : PL own G s s' Rl Q) (f : ∀ G' L' h', Stp own G G' s s' → Rl L' h' G' s'.heap → Q L' h' → P) : P := let ⟨a, b, c, d, e, g⟩ := p; f a b c d e g
theorem PX.use {α β : Type} {Rl : β → Hp → Gh → Heap → Prop} {V : Gh → α → Prop} {Q : α → β → Hp → Prop} (p : PX own G s s' Rl V Q) (f : ∀ G' fl L' h', Stp own G G' s s' → Rl L' h' G' s'.heap → V G' fl → Q fl L' h' → P) : P := let ⟨a, b, c, d, e, g, h, k⟩ := p; f a b c d e g h k
end
end Mine
end

section
open PySem PySem.W PySem.Calls PyProof.Rows
namespace Mine
noncomputable abbrev sz (s : Shared) : Nat := s.heap.objs.size
theorem runs_sz {M : Model} {Γ : Ctx} {p : Pos} {t : Sem Fin} {fs : List Frame} {s s' : Shared} {e : End} (h : Runs M Γ p t fs s e s') : sz s ≤ sz s' := by
  induction h <;> (try simp only [Shared.setGen, sz, Heap.size_push, Heap.size_after_update] at *) <;> omega
theorem returns_sz {M : Model} {Γ : Ctx} {p : Pos} {s s' : Shared} {r : Result} (h : Returns M Γ p s r s') : sz s ≤ sz s' := runs_sz h
theorem wakes_sz {M : Model} {Γ : Ctx} {p : Pos} {g : Nat} {r : Resume} {s s' : Shared} {res : GenResult} (h : Wakes M Γ p g r s res s') : sz s ≤ sz s' := by
  unfold Wakes at h
  split at h
  · exact h.elim
  · split at h
    · obtain ⟨e₁, s₁, hr, _, _, rfl⟩ := h; exact (runs_sz hr : sz (s.setGen g .running) ≤ sz s₁)
    · rw [h.2]; exact Nat.le_refl _
    · rw [h.2]; exact Nat.le_refl _
  · obtain ⟨e₁, s₁, hr, _, _, rfl⟩ := h; exact (runs_sz hr : sz (s.setGen g .running) ≤ sz s₁)
  · rw [h.2]; exact Nat.le_refl _
  · rw [h.2]; exact Nat.le_refl _

theorem wp_sz {α : Type} (M : Model) (Γ : Ctx) (n : Nat) (t : Sem α) : ∀ (Q : α → Pos → Shared → Prop) (E : Value → Pos → Shared → Prop) (p : Pos) (s : Shared), n ≤ sz s → Sem.wp M Γ t Q E p s →
    Sem.wp M Γ t (fun a p' s' => n ≤ sz s' ∧ Q a p' s') (fun e p' s' => n ≤ sz s' ∧ E e p' s') p s := by
  induction t with
  | pure a => intro Q E p s hn h; exact ⟨hn, h⟩
  | raise e => intro Q E p s hn h; exact ⟨hn, h⟩
  | unsupported _ => intro Q E p s _ h; exact h
  | finish _ => intro Q E p s _ h; exact h
  | rule _ k ih => intro Q E p s hn h; exact ih () Q E p s hn h
  | «at» p' k ih => intro Q E p s hn h; exact ih () Q E p' s hn h
  | load a _ k ih => intro Q E p s hn h; obtain ⟨o, ho, h⟩ := h; exact ⟨o, ho, ih o Q E p s hn h⟩
  | update a _ f k ih => intro Q E p s hn h; exact ⟨h.1, ih () Q E p _ (by simpa [sz] using hn) h.2⟩
  | loadIfAlive a k ih => intro Q E p s hn h; exact ih _ Q E p s hn h
  | point _ k ih => intro Q E p s hn h; exact ih () Q E p s hn h
  | register _ _ => intro Q E p s _ h; exact h
  | alloc o k ih => intro Q E p s hn h; exact ih _ Q E p _ (by simp only [sz, Heap.size_push] at hn ⊢; omega) h
  | fresh k ih => intro Q E p s hn h; exact ih _ Q E p _ hn h
  | ask k ih => intro Q E p s hn h; exact ih _ Q E p s hn h
  | choose src m k ih => intro Q E p s hn h; exact ⟨h.1, ih _ Q E p _ hn h.2⟩
  | os q _ k ih => intro Q E p s hn h; exact ih _ Q E p _ hn h
  | call c hd _ _ k ih => intro Q E p s hn h; obtain ⟨r, s', hr, h⟩ := h; exact ⟨r, s', hr, ih r Q E p s' (Nat.le_trans hn (returns_sz hr)) h⟩
  | handled own k ih => intro Q E p s hn h; exact ih _ Q E p s hn h
  | genState g k ih => intro Q E p s hn h; obtain ⟨st, hs, h⟩ := h; exact ⟨st, hs, ih _ Q E p s hn h⟩
  | newGen c k ih => intro Q E p s hn h; exact ih _ Q E p _ hn h
  | resume g r _ k ih => intro Q E p s hn h; obtain ⟨res, s', hw, h⟩ := h; exact ⟨res, s', hw, ih res Q E p s' (Nat.le_trans hn (wakes_sz hw)) h⟩
  | yield _ _ _ _ => intro Q E p s _ h; exact h
  | stack k ih => intro Q E p s hn h; exact ih _ Q E p s hn h
  | fork _ _ => intro Q E p s _ h; exact h
  | thread k ih => intro Q E p s hn h; exact ih _ Q E p s hn h
  | await _ _ _ _ _ => intro Q E p s _ h; exact h

/-- the heap only grows -/
theorem wpAny_sz {α : Type} {M : Model} {A : Around} {s : Shared} {t : Sem α} {Q : α → Shared → Prop} {E : Value → Shared → Prop}
    (h : wpAny M A t (fun a s' => s.heap.objs.size ≤ s'.heap.objs.size → Q a s') E s) : wpAny M A t Q E s := fun Γ p hΓ =>
  Sem.wp_mono M Γ t (fun a _ s' x => x.2 x.1) (fun e _ s' x => x.2) p s (wp_sz M Γ (sz s) t _ _ p s (Nat.le_refl _) (h Γ p hΓ))
end Mine
end

section
open PySem PySem.W PySem.Calls PyProof.Rows
namespace Mine

noncomputable abbrev NoE : Value → Shared → Prop := fun _ _ => False

noncomputable def PostE (K : Bse) (c : Cx) (G : Gh) (s : Shared) (Q : AV → Hp → Prop) (v : Value) (s' : Shared) : Prop :=
  PE c.own G s s' (Rel K c) (fun G' a => VR G' v a) Q

noncomputable def Ev (K : Bse) (c : Cx) (e : Expr) (h : Hp) (Q : AV → Hp → Prop) : Prop :=
  ∀ A G s, OkA c.d A → Rel K c h G s.heap → wpAny K.M A (eval e c.env) (PostE K c G s Q) NoE s
noncomputable def PostB (K : Bse) (c : Cx) (G : Gh) (s : Shared) (Q : Bool → Hp → Prop) (b : Bool) (s' : Shared) : Prop :=
  PB c.own G s s' (Rel K c) (Q b)
noncomputable def It (K : Bse) (c : Cx) (e : Expr) (h : Hp) (Q : Bool → Hp → Prop) : Prop :=
  ∀ A G s, OkA c.d A → Rel K c h G s.heap → wpAny K.M A (isTrue e c.env (eval e c.env)) (PostB K c G s Q) NoE s
noncomputable def AllT (K : Bse) (c : Cx) (op : BoolOp) (es : List Expr) (h : Hp) (Q : Bool → Hp → Prop) : Prop :=
  ∀ A G s, OkA c.d A → Rel K c h G s.heap → wpAny K.M A (allTrue op es c.env) (PostB K c G s Q) NoE s
noncomputable def Op1 (K : Bse) (c : Cx) (f : Value → Sem Value) (a : AV) (h : Hp) (Q : AV → Hp → Prop) : Prop :=
  ∀ A G s u, OkA c.d A → Rel K c h G s.heap → VR G u a → wpAny K.M A (f u) (PostE K c G s Q) NoE s
noncomputable def Op2 (K : Bse) (c : Cx) (f : Value → Value → Sem Value) (a b : AV) (h : Hp) (Q : AV → Hp → Prop) : Prop :=
  ∀ A G s u v, OkA c.d A → Rel K c h G s.heap → VR G u a → VR G v b → wpAny K.M A (f u v) (PostE K c G s Q) NoE s
noncomputable def Tru (K : Bse) (c : Cx) (a : AV) (h : Hp) (Q : Bool → Hp → Prop) : Prop :=
  ∀ A G s u, OkA c.d A → Rel K c h G s.heap → VR G u a → wpAny K.M A (truthy u) (PostB K c G s Q) NoE s
noncomputable def PostS (K : Bse) (c : Cx) (G : Gh) (s : Shared) (Q : List AV → Hp → Prop) (vs : List Value) (s' : Shared) : Prop :=
  PE c.own G s s' (Rel K c) (fun G' a => VRs G' vs a) Q
/-- plain lists of expressions (no star) -/
noncomputable def Es (K : Bse) (c : Cx) (es : List Expr) (h : Hp) (Q : List AV → Hp → Prop) : Prop :=
  ∀ A G s pos, OkA c.d A → Rel K c h G s.heap → wpAny K.M A (spliced (backTo pos (starEach es c.env))) (PostS K c G s Q) NoE s

section
variable {K : Bse} {c : Cx} {h : Hp} {G G' : Gh} {s s' : Shared} {A : Around} {Q : AV → Hp → Prop}

theorem PostE.trans {v : Value} {s''} (x : Stp c.own G G' s s') (y : PostE K c G' s' Q v s'') : PostE K c G s Q v s'' :=
  let ⟨G2, av, h', a, b, e, q⟩ := y; ⟨G2, av, h', x.trans a, b, e, q⟩
theorem PostB.trans {Q : Bool → Hp → Prop} {v : Bool} {s''} (x : Stp c.own G G' s s') (y : PostB K c G' s' Q v s'') : PostB K c G s Q v s'' :=
  let ⟨G2, h', a, b, q⟩ := y; ⟨G2, h', x.trans a, b, q⟩
theorem PostS.trans {Q : List AV → Hp → Prop} {v : List Value} {s''} (x : Stp c.own G G' s s') (y : PostS K c G' s' Q v s'') : PostS K c G s Q v s'' :=
  let ⟨G2, av, h', a, b, e, q⟩ := y; ⟨G2, av, h', x.trans a, b, e, q⟩

theorem Ev.mono {e} {Q' : AV → Hp → Prop} (x : Ev K c e h Q) (hQ : ∀ a h, Q a h → Q' a h) : Ev K c e h Q' := fun A G s hA R =>
  wpAny_mono (x A G s hA R) (fun v s' zp => PE.use zp fun G' av h' a b d q => ⟨G', av, h', a, b, d, hQ _ _ q⟩) fun _ _ z => z

/-- a value that needs no change of the ghost -/
theorem PostE.now {v : Value} {av : AV} {t : Nat} (R : Rel K c h G s.heap) (hv : VR G v av) (hQ : Q av h) : PostE K c G s Q v { s with toks := t } :=
  ⟨G, av, h, (Stp.refl _ _ _).toks, R, hv, hQ⟩
theorem PostE.now' {v : Value} {av : AV} (R : Rel K c h G s.heap) (hv : VR G v av) (hQ : Q av h) : PostE K c G s Q v s :=
  ⟨G, av, h, Stp.refl _ _ _, R, hv, hQ⟩
theorem PostB.now {Q : Bool → Hp → Prop} {b : Bool} {t : Nat} (R : Rel K c h G s.heap) (hQ : Q b h) : PostB K c G s Q b { s with toks := t } :=
  ⟨G, h, (Stp.refl _ _ _).toks, R, hQ⟩
theorem PostB.now' {Q : Bool → Hp → Prop} {b : Bool} (R : Rel K c h G s.heap) (hQ : Q b h) : PostB K c G s Q b s :=
  ⟨G, h, Stp.refl _ _ _, R, hQ⟩

theorem Ev.int {i k pos} (hQ : Q (.int i) h) : Ev K c (.Constant (.int i) k pos) h Q := fun A G s hA R =>
  wpAny_Constant_int (PostE.now (av := .int i) R ⟨_, rfl⟩ hQ)
theorem Ev.str {x : Str} {k pos} (hQ : Q (.str x) h) : Ev K c (.Constant (.str x) k pos) h Q := fun A G s hA R =>
  wpAny_Constant_str (PostE.now (av := .str x) R ⟨_, rfl⟩ hQ)
theorem Ev.cbool {b k pos} (hQ : Q (.bool b) h) : Ev K c (.Constant (.bool b) k pos) h Q := fun A G s hA R =>
  wpAny_Constant_bool (PostE.now' (av := .bool b) R rfl hQ)
theorem Ev.cnone {k pos} (hQ : Q .none h) : Ev K c (.Constant .none k pos) h Q := fun A G s hA R =>
  wpAny_Constant_none (PostE.now' (av := .none) R rfl hQ)

theorem wpAny_has {m : Str → Option Value} {x : Str} {av : AV} {Q : Value → Shared → Prop} {E : Value → Shared → Prop} (R : Rel K c h G s.heap) (hn : s.heap.Ns c.env.locals m) (H : Has c.env G s.heap m x av)
    (hd : (x == ("__classdict__" : Str)) = false) (hQ : ∀ v, VR G v av → Q v s) : wpAny K.M A (loadName c.env x) Q E s := by
  obtain ⟨v, hv, ⟨h1, h2⟩ | ⟨h1 | h1, k, hk, hc⟩⟩ := H
  · exact wpAny_loadName_local R.kind h1 hn h2 (hQ v hv)
  · exact wpAny_loadName_cell R.kind h1 hk hc (hQ v hv)
  · exact wpAny_loadName_free R.kind h1 hk hc (hQ v hv) hd

theorem Ev.name {x pos} {av : AV} (hx : c.L.lookup x = some av) (hQ : Q av h) (hd : (x == ("__debug__" : Str)) = false := by kernel_rfl) (hd' : (x == ("__classdict__" : Str)) = false := by kernel_rfl) : Ev K c (.Name x pos) h Q := fun A G s hA R => by
  obtain ⟨m, hn, hb⟩ := R.ns
  exact wpAny_Name (wpAny_has R hn (hb x av hx) hd' fun v hv => PostE.now' R hv hQ) hd

theorem Rel.globNs (R : Rel K c h G s.heap) : s.heap.Ns c.env.globals K.mg ∧ s.heap.Ns c.env.builtins K.mb := by
  obtain ⟨o, xs, ep, e, d, k, f⟩ := K.glob
  obtain ⟨o2, xs2, ep2, e2, d2, k2, f2⟩ := K.blt
  obtain ⟨o', g, q⟩ := R.cells _ _ (R.base _ _ e)
  obtain ⟨o2', g2, q2⟩ := R.cells _ _ (R.base _ _ e2)
  cases q; cases q2
  rw [R.glob.1, R.glob.2]
  exact ⟨⟨o, xs, ep, g, d, k, f⟩, ⟨o2, xs2, ep2, g2, d2, k2, f2⟩⟩
theorem Rel.noLimit (R : Rel K c h G s.heap) : s.heap.NoLimit := by
  obtain ⟨o, xs, ep, e, d, k, f⟩ := K.stat
  obtain ⟨o', g, q⟩ := R.cells _ _ (R.base _ _ e)
  cases q
  exact ⟨_, ⟨o, xs, ep, g, d, k, fun _ => rfl⟩, f⟩
theorem Rel.baseAt (R : Rel K c h G s.heap) {a : Addr} {o : Obj} (e : K.B a = some o) : s.heap.get? a = some o := by
  obtain ⟨o', g, q⟩ := R.cells _ _ (R.base _ _ e)
  cases q; exact g

theorem Ev.glob {x pos} {v : Value} (hk : c.env.kindOf x = some .globalImplicit) (hv : K.mg x = some v) (hQ : Q (.raw v) h) (hd : (x == ("__debug__" : Str)) = false := by kernel_rfl) : Ev K c (.Name x pos) h Q := fun A G s hA R =>
  Name_function_global R.kind hk (loadGlobal_global R.globNs.1 hv (PostE.now' (av := .raw v) R rfl hQ)) hd
theorem Ev.blt {x pos} {v : Value} (hk : c.env.kindOf x = some .globalImplicit) (hm : K.mg x = none) (hv : K.mb x = some v) (hQ : Q (.raw v) h) (hd : (x == ("__debug__" : Str)) = false := by kernel_rfl) : Ev K c (.Name x pos) h Q := fun A G s hA R =>
  Name_function_global R.kind hk (loadGlobal_builtin R.globNs.1 hm R.globNs.2 hv (PostE.now' (av := .raw v) R rfl hQ)) hd

theorem Ev.binop {l op r pos} (x : Ev K c l h fun a h1 => Ev K c r h1 fun b h2 => Op2 K c (binaryOp op) a b h2 Q) : Ev K c (.BinOp l op r pos) h Q := fun A G s hA R => by
  refine wpAny_BinOp (wpAny_mono (x A G s hA R) (fun u s1 zp => PE.use zp fun G1 a h1 x1 R1 v1 q1 => wpAny_mono (q1 A G1 s1 hA R1) (fun v s2 zp => PE.use zp fun G2 b h2 x2 R2 v2 q2 => ?_) fun _ _ z => z) fun _ _ z => z)
  exact wpAny_mono (q2 A G2 s2 u v hA R2 (v1.mono x2.grow) v2) (fun w s3 p => (p.trans x2).trans x1) fun _ _ z => z
theorem Ev.compare {l op r pos} (x : Ev K c l h fun a h1 => Ev K c r h1 fun b h2 => Op2 K c (compareOp op) a b h2 Q)
    (hm : behindInMarks op r = false := by with_unfolding_all rfl) : Ev K c (.Compare l [op] [r] pos) h Q := fun A G s hA R => by
  refine wpAny_Compare1 (wpAny_mono (x A G s hA R) (fun u s1 zp => PE.use zp fun G1 a h1 x1 R1 v1 q1 => wpAny_mono (q1 A G1 s1 hA R1) (fun v s2 zp => PE.use zp fun G2 b h2 x2 R2 v2 q2 => ?_) fun _ _ z => z) fun _ _ z => z) hm
  exact wpAny_mono (q2 A G2 s2 u v hA R2 (v1.mono x2.grow) v2) (fun w s3 p => (p.trans x2).trans x1) fun _ _ z => z
theorem Ev.neg {e pos} {op : UnaryOp} (x : Ev K c e h fun a h1 => Op1 K c (unaryOp op) a h1 Q) : Ev K c (.UnaryOp op e pos) h Q := fun A G s hA R => by
  rw [arm_eval_UnaryOp]
  refine wpAny_bind (wpAny_mono (x A G s hA R) (fun u s1 zp => PE.use zp fun G1 a h1 x1 R1 v1 q1 => wpAny_bind (wpAny_standAt (wpAny_holding ?_))) fun _ _ z => z)
  exact wpAny_mono (q1 A G1 s1 u hA R1 v1) (fun w s3 p => p.trans x1) fun _ _ z => z
theorem Ev.ifexp {t b o pos} (x : It K c t h fun v h1 => if v then Ev K c b h1 Q else Ev K c o h1 Q) : Ev K c (.IfExp t b o pos) h Q := fun A G s hA R => by
  rw [arm_eval_IfExp]
  refine wpAny_bind (wpAny_mono (x A G s hA R) (fun b s1 zp => PB.use zp fun G1 h1 x1 R1 q1 => ?_) fun _ _ z => z)
  cases b
  · exact wpAny_mono (q1 A G1 s1 hA R1) (fun w s3 p => p.trans x1) fun _ _ z => z
  · exact wpAny_mono (q1 A G1 s1 hA R1) (fun w s3 p => p.trans x1) fun _ _ z => z

section
variable {Q : Bool → Hp → Prop}
theorem It.val {e} (x : Ev K c e h fun a h1 => Tru K c a h1 Q) (he : ∀ whole, isTrue e c.env whole = (do let v ← whole; standAt e.pos; holding [v] (truthy v)) := by intro _; kernel_rfl) : It K c e h Q := fun A G s hA R => by
  refine wpAny_isTrue_value (wpAny_mono (x A G s hA R) (fun u s1 zp => PE.use zp fun G1 a h1 x1 R1 v1 q1 => ?_) fun _ _ z => z) (he _)
  exact wpAny_mono (q1 A G1 s1 u hA R1 v1) (fun w s3 p => p.trans x1) fun _ _ z => z
theorem It.compare {l op r pos} (x : Ev K c l h fun a h1 => Ev K c r h1 fun b h2 => Op2 K c (compareOp op) a b h2 fun v h3 => Tru K c v h3 Q)
    (hm : behindInMarks op r = false := by with_unfolding_all rfl) : It K c (.Compare l [op] [r] pos) h Q := fun A G s hA R => by
  refine wpAny_isTrue_Compare1 (wpAny_mono (x A G s hA R) (fun u s1 zp => PE.use zp fun G1 a h1 x1 R1 v1 q1 => wpAny_mono (q1 A G1 s1 hA R1) (fun v s2 zp => PE.use zp fun G2 b h2 x2 R2 v2 q2 => ?_) fun _ _ z => z) fun _ _ z => z) hm
  refine wpAny_mono (q2 A G2 s2 u v hA R2 (v1.mono x2.grow) v2) (fun w s3 zp => PE.use zp fun G3 b3 h3 x3 R3 v3 q3 => ?_) fun _ _ z => z
  exact wpAny_mono (q3 A G3 s3 w hA R3 v3) (fun w s3 p => ((p.trans x3).trans x2).trans x1) fun _ _ z => z
theorem It.not {e pos} (x : It K c e h fun b h1 => Q (!b) h1) : It K c (.UnaryOp .Not e pos) h Q := fun A G s hA R => by
  refine wpAny_isTrue_Not (wpAny_mono (x A G s hA R) (fun b s1 zp => PB.use zp fun G1 h1 x1 R1 q1 => ⟨G1, h1, x1, R1, q1⟩) fun _ _ z => z)
theorem It.boolop {op es pos} (x : AllT K c op es h Q) : It K c (.BoolOp op es pos) h Q := fun A G s hA R => wpAny_isTrue_BoolOp (x A G s hA R)
theorem AllT.or_nil (hQ : Q false h) : AllT K c .Or [] h Q := fun A G s hA R => wpAny_allTrue_Or_nil (PostB.now' R hQ)
theorem AllT.and_nil (hQ : Q true h) : AllT K c .And [] h Q := fun A G s hA R => wpAny_allTrue_And_nil (PostB.now' R hQ)
theorem AllT.or_cons {x rest} (hx : It K c x h fun b h1 => if b then Q true h1 else AllT K c .Or rest h1 Q) : AllT K c .Or (x :: rest) h Q := fun A G s hA R => by
  refine wpAny_allTrue_Or_cons (wpAny_mono (hx A G s hA R) (fun b s1 zp => PB.use zp fun G1 h1 x1 R1 q1 => ?_) fun _ _ z => z)
  cases b
  · exact wpAny_mono (q1 A G1 s1 hA R1) (fun w s3 p => p.trans x1) fun _ _ z => z
  · exact ⟨G1, h1, x1, R1, q1⟩
theorem AllT.and_cons {x rest} (hx : It K c x h fun b h1 => if b then AllT K c .And rest h1 Q else Q false h1) : AllT K c .And (x :: rest) h Q := fun A G s hA R => by
  refine wpAny_allTrue_And_cons (wpAny_mono (hx A G s hA R) (fun b s1 zp => PB.use zp fun G1 h1 x1 R1 q1 => ?_) fun _ _ z => z)
  cases b
  · exact ⟨G1, h1, x1, R1, q1⟩
  · exact wpAny_mono (q1 A G1 s1 hA R1) (fun w s3 p => p.trans x1) fun _ _ z => z
theorem Tru.bool {b : Bool} (hQ : Q b h) : Tru K c (.bool b) h Q := fun A G s u hA R e => by
  cases e; exact wpAny_truthy_bool (PostB.now' R hQ)
theorem Tru.none (hQ : Q false h) : Tru K c .none h Q := fun A G s u hA R e => by
  cases e; exact wpAny_pure (PostB.now' R hQ)
theorem Tru.int {i : Int} (hQ : Q (i != 0) h) : Tru K c (.int i) h Q := fun A G s u hA R e => by
  obtain ⟨t, rfl⟩ := e; exact P.truthy_int (PostB.now' R hQ)
theorem Tru.str {x : Str} (hl : x.length < 2^62) (hQ : Q ((x.length : Int) != 0) h) : Tru K c (.str x) h Q := fun A G s u hA R e => by
  obtain ⟨t, rfl⟩ := e; exact P.truthy_str (by omega) (PostB.now R hQ)
end

theorem Es.nil {Q : List AV → Hp → Prop} (hQ : Q [] h) : Es K c [] h Q := fun A G s pos hA R => wpAny_items_nil ⟨G, [], h, Stp.refl _ _ _, R, trivial, hQ⟩
theorem Es.cons {e rest} {Q : List AV → Hp → Prop} (x : Ev K c e h fun a h1 => Es K c rest h1 fun as h2 => Q (a :: as) h2) (he : starEach (e :: rest) c.env = (false, eval e c.env) :: starEach rest c.env := by kernel_rfl) : Es K c (e :: rest) h Q := fun A G s pos hA R => by
  refine wpAny_items_cons (wpAny_mono (x A G s hA R) (fun u s1 zp => PE.use zp fun G1 a h1 x1 R1 v1 q1 => wpAny_mono (q1 A G1 s1 pos hA R1) (fun vs s2 zp => PE.use zp fun G2 as h2 x2 R2 v2 q2 => ?_) fun _ _ z => z) fun _ _ z => z) he
  exact ⟨G2, a :: as, h2, x1.trans x2, R2, ⟨v1.mono x2.grow, v2⟩, q2⟩

theorem PostE.fresh {av : AV} {o : Obj} {v : Value} (R : Rel K c h G s.heap) (ho : o.isFreed = false) (hv : OV K G o av) (hr : v = .ref s.heap.objs.size) (hav : ∀ G' a, G' a = some (.val av) → VR G' (.ref a) av) (hQ : Q av h) :
    PostE K c G s Q v { s with heap := s.heap.push o } := by
  subst hr
  have hk : ∀ b o', s.heap.get? b = some o' → (s.heap.push o).get? b = some o' := fun b o' e => Heap.get?_push_of_some _ e
  have hsz : s.heap.objs.size ≤ (s.heap.push o).objs.size := by rw [Heap.size_push]; omega
  exact ⟨_, av, h, (Stp.put (s := s) (t := s.toks) (R.none_of_ge (Nat.le_refl _)) (Nat.le_refl _) hk hsz), R.val hk hsz (Nat.le_refl _) (Heap.get?_push_size _ ho) hv, hav _ _ (Gput_self ..), hQ⟩

theorem PostE.freshLoc {o : Obj} {v : Value} {ao : AObj} (R : Rel K c h G s.heap) (ho : o.isFreed = false) (hv : OL K G o ao) (hr : v = .ref s.heap.objs.size) (hQ : ∀ l, h l = Option.none → Q (.obj l) (h.put l ao)) :
    PostE K c G s Q v { s with heap := s.heap.push o } := by
  subst hr
  have hk : ∀ b o', s.heap.get? b = some o' → (s.heap.push o).get? b = some o' := fun b o' e => Heap.get?_push_of_some _ e
  have hsz : s.heap.objs.size ≤ (s.heap.push o).objs.size := by rw [Heap.size_push]; omega
  obtain ⟨l, hl, R'⟩ := R.loc hk hsz (Nat.le_refl _) (Heap.get?_push_size _ ho) hv
  exact ⟨_, .obj l, h.put l ao, (Stp.put (s := s) (t := s.toks) (R.none_of_ge (Nat.le_refl _)) (Nat.le_refl _) hk hsz), R', ⟨_, rfl, Gput_self ..⟩, hQ l hl⟩

theorem Ev.tuple {es k pos} (x : Es K c es h fun as h1 => as.length ≤ sizeLine ∧ Q (.tup as) h1) : Ev K c (.Tuple es k pos) h Q := fun A G s hA R => by
  refine wpAny_Tuple (wpAny_mono (x A G s pos hA R) (fun vs s1 ⟨G1, as, h1, x1, R1, v1, q1, q2⟩ => ⟨by rw [v1.length]; exact q1, ?_⟩) fun _ _ z => z)
  exact PostE.trans x1 (PostE.fresh (av := .tup as) R1 rfl ⟨_, _, rfl, by simpa using v1⟩ rfl (fun _ a e => ⟨a, rfl, e⟩) q2)
/-- a list display, frozen -/
theorem Ev.list {es pos} (x : Es K c es h fun as h1 => as.length ≤ sizeLine ∧ Q (.list as) h1) : Ev K c (.List es pos) h Q := fun A G s hA R => by
  refine wpAny_List (wpAny_mono (x A G s pos hA R) (fun vs s1 ⟨G1, as, h1, x1, R1, v1, q1, q2⟩ => ⟨by rw [v1.length]; exact q1, ?_⟩) fun _ _ z => z)
  exact PostE.trans x1 (PostE.fresh (av := .list as) R1 rfl ⟨_, _, rfl, by simpa using v1⟩ rfl (fun _ a e => ⟨a, rfl, e⟩) q2)
/-- a list display that will change -/
theorem Ev.listM {es pos} (x : Es K c es h fun as h1 => as.length ≤ sizeLine ∧ ∀ l, h1 l = Option.none → Q (.obj l) (h1.put l (.list as))) : Ev K c (.List es pos) h Q := fun A G s hA R => by
  refine wpAny_List (wpAny_mono (x A G s pos hA R) (fun vs s1 ⟨G1, as, h1, x1, R1, v1, q1, q2⟩ => ⟨by rw [v1.length]; exact q1, ?_⟩) fun _ _ z => z)
  exact PostE.trans x1 (PostE.freshLoc (ao := .list as) R1 rfl ⟨_, _, rfl, by simpa using v1⟩ rfl q2)

end

/-! int operations -/
section
variable {K : Bse} {c : Cx} {h : Hp} {Q : AV → Hp → Prop} {i j : Int}
theorem Op2.int {f : Value → Value → Sem Value} {r : Int} (hf : ∀ A s t u (P : Value → Shared → Prop), P (.int r s.toks) { s with toks := s.toks + 1 } → wpAny K.M A (f (.int i t) (.int j u)) P NoE s) (hQ : Q (.int r) h) : Op2 K c f (.int i) (.int j) h Q := fun A G s u v hA R hu hv => by
  obtain ⟨t, rfl⟩ := hu; obtain ⟨t', rfl⟩ := hv
  exact hf A s t t' _ (PostE.now (av := .int r) R ⟨_, rfl⟩ hQ)
theorem Op2.intB {f : Value → Value → Sem Value} {r : Bool} (hf : ∀ A s t u (P : Value → Shared → Prop), P (.bool r) s → wpAny K.M A (f (.int i t) (.int j u)) P NoE s) (hQ : Q (.bool r) h) : Op2 K c f (.int i) (.int j) h Q := fun A G s u v hA R hu hv => by
  obtain ⟨t, rfl⟩ := hu; obtain ⟨t', rfl⟩ := hv
  exact hf A s t t' _ (PostE.now' (av := .bool r) R rfl hQ)
theorem Op2.add (hQ : Q (.int (i + j)) h) : Op2 K c (binaryOp .Add) (.int i) (.int j) h Q := Op2.int (fun _ _ _ _ _ p => P.add_int p) hQ
theorem Op2.sub (hQ : Q (.int (i - j)) h) : Op2 K c (binaryOp .Sub) (.int i) (.int j) h Q := Op2.int (fun _ _ _ _ _ p => P.sub_int p) hQ
theorem Op2.mul (hQ : Q (.int (i * j)) h) (hm : IntMulOk i j := by mul_fits) : Op2 K c (binaryOp .Mult) (.int i) (.int j) h Q := Op2.int (fun _ _ _ _ _ p => P.mul_int p hm) hQ
theorem Op2.mod (hj : j ≠ 0) (hQ : Q (.int (i.fmod j)) h) : Op2 K c (binaryOp .Mod) (.int i) (.int j) h Q := Op2.int (fun _ _ _ _ _ p => mod_int hj p) hQ
theorem Op2.floordiv (hj : j ≠ 0) (hp : Builtin.divisionGoesByPylong i j = false) (hQ : Q (.int (i.fdiv j)) h) : Op2 K c (binaryOp .FloorDiv) (.int i) (.int j) h Q :=
  Op2.int (fun _ _ _ _ _ p => AutoIntOps.floordiv_1 (by simpa using hj) (by rw [hp]; simp) p) hQ
theorem Op2.and (hQ : Q (.int (Builtin.bitAnd i j)) h) : Op2 K c (binaryOp .BitAnd) (.int i) (.int j) h Q := Op2.int (fun _ _ _ _ _ p => and_int p) hQ
theorem Op2.or (hQ : Q (.int (Builtin.bitOr i j)) h) : Op2 K c (binaryOp .BitOr) (.int i) (.int j) h Q := Op2.int (fun _ _ _ _ _ p => or_int p) hQ
theorem Op2.ixor (hQ : Q (.int (Builtin.bitXor i j)) h) : Op2 K c (inplaceOp .BitXor) (.int i) (.int j) h Q := Op2.int (fun _ _ _ _ _ p => ixor_int p) hQ
theorem Op2.lshift (hj : 0 ≤ j) (hs : (Builtin.Int.intBits i : Int) + j ≤ 2 ^ 27) (hQ : Q (.int (i * 2 ^ j.toNat)) h) : Op2 K c (binaryOp .LShift) (.int i) (.int j) h Q := Op2.int (fun _ _ _ _ _ p => lshift_int hj hs p) hQ
theorem Op2.rshift (hj : 0 ≤ j) (hQ : Q (.int (i.fdiv (2 ^ j.toNat))) h) : Op2 K c (binaryOp .RShift) (.int i) (.int j) h Q := Op2.int (fun _ _ _ _ _ p => rshift_int hj p) hQ
theorem Op2.pow (hj : 0 ≤ j) (hs : (Builtin.Int.intBits i : Int) * j ≤ 2 ^ 27) (hQ : Q (.int (i ^ j.toNat)) h) : Op2 K c (binaryOp .Pow) (.int i) (.int j) h Q := Op2.int (fun _ _ _ _ _ p => pow_int hj hs p) hQ
theorem Op2.eq (hQ : Q (.bool (i == j)) h) : Op2 K c (compareOp .Eq) (.int i) (.int j) h Q := Op2.intB (fun _ _ _ _ _ p => P.eq_int p) hQ
theorem Op2.ne (hQ : Q (.bool (i != j)) h) : Op2 K c (compareOp .NotEq) (.int i) (.int j) h Q := Op2.intB (fun _ _ _ _ _ p => P.ne_int p) hQ
theorem Op2.lt (hQ : Q (.bool (decide (i < j))) h) : Op2 K c (compareOp .Lt) (.int i) (.int j) h Q := Op2.intB (fun _ _ _ _ _ p => P.lt_int p) hQ
theorem Op2.le (hQ : Q (.bool (decide (i ≤ j))) h) : Op2 K c (compareOp .LtE) (.int i) (.int j) h Q := Op2.intB (fun _ _ _ _ _ p => P.le_int p) hQ
theorem Op2.gt (hQ : Q (.bool (decide (i > j))) h) : Op2 K c (compareOp .Gt) (.int i) (.int j) h Q := Op2.intB (fun _ _ _ _ _ p => P.gt_int p) hQ
theorem Op2.ge (hQ : Q (.bool (decide (i ≥ j))) h) : Op2 K c (compareOp .GtE) (.int i) (.int j) h Q := Op2.intB (fun _ _ _ _ _ p => P.ge_int p) hQ
theorem Op1.neg (hQ : Q (.int (-i)) h) : Op1 K c (unaryOp .USub) (.int i) h Q := fun A G s u hA R hu => by
  obtain ⟨t, rfl⟩ := hu; exact P.neg_int (PostE.now (av := .int (-i)) R ⟨_, rfl⟩ hQ)
theorem Op1.not {b : Bool} (hQ : Q (.bool (!b)) h) : Op1 K c (unaryOp .Not) (.bool b) h Q := fun A G s u hA R hu => by
  cases hu; exact not_value (wpAny_truthy_bool (PostE.now' (av := .bool (!b)) R rfl hQ))
/-- «is» of two bools -/
theorem Op2.isB {a b : Bool} (hQ : Q (.bool (a == b)) h) : Op2 K c (compareOp .Is) (.bool a) (.bool b) h Q := fun A G s u v hA R hu hv => by
  cases hu; cases hv
  exact wpAny_is_plain (by cases a <;> cases b <;> rfl) (PostE.now' (av := .bool (a == b)) R (by cases a <;> cases b <;> rfl) hQ)
theorem Op2.isNotB {a b : Bool} (hQ : Q (.bool (a != b)) h) : Op2 K c (compareOp .IsNot) (.bool a) (.bool b) h Q := fun A G s u v hA R hu hv => by
  cases hu; cases hv
  exact wpAny_isNot_plain (by cases a <;> cases b <;> rfl) (PostE.now' (av := .bool (a != b)) R (by cases a <;> cases b <;> rfl) hQ)
end
end Mine
end

section
open PySem PySem.W PySem.Calls PyProof.Rows
namespace Mine

inductive Fl where
  | next | brk | cont | ret (av : AV)

noncomputable abbrev Lc := List (Str × AV)
@[reducible] def Cx.at (c : Cx) (L : Lc) : Cx := { c with L := L }

noncomputable def FR (G : Gh) : Flow → Fl → Prop
  | .next, .next => True
  | .brk, .brk => True
  | .cont, .cont => True
  | .ret v, .ret av => VR G v av
  | _, _ => False
theorem FR.mono {G G' : Gh} (hg : Grow G G') {f fl} (h : FR G f fl) : FR G' f fl := by
  cases f <;> cases fl <;> first | exact h | exact VR.mono hg h

noncomputable def PostL (K : Bse) (c : Cx) (G : Gh) (s : Shared) (Q : Lc → Hp → Prop) (s' : Shared) : Prop :=
  PL c.own G s s' (fun L' => Rel K (c.at L')) Q
noncomputable def PostX (K : Bse) (c : Cx) (G : Gh) (s : Shared) (Q : Fl → Lc → Hp → Prop) (f : Flow) (s' : Shared) : Prop :=
  PX c.own G s s' (fun L' => Rel K (c.at L')) (fun G' fl => FR G' f fl) Q
noncomputable def As (K : Bse) (c : Cx) (t : Expr) (a : AV) (h : Hp) (Q : Lc → Hp → Prop) : Prop :=
  ∀ A G s u, OkA c.d A → Rel K c h G s.heap → VR G u a → wpAny K.M A (assign t c.env u) (fun _ s' => PostL K c G s Q s') NoE s
/-- assignment to several targets, in order -/
noncomputable def Ass (K : Bse) (c : Cx) (ts : List (Value → Sem Unit)) (as : List AV) (h : Hp) (Q : Lc → Hp → Prop) : Prop :=
  ∀ A G s us, OkA c.d A → Rel K c h G s.heap → VRs G us as → wpAny K.M A (assignInOrder ts us) (fun _ s' => PostL K c G s Q s') NoE s
noncomputable def Ex (K : Bse) (c : Cx) (st : Stmt) (h : Hp) (Q : Fl → Lc → Hp → Prop) : Prop :=
  ∀ A G s, OkA c.d A → Rel K c h G s.heap → wpAny K.M A (exec st c.env) (PostX K c G s Q) NoE s
noncomputable def Exs (K : Bse) (c : Cx) (sts : List Stmt) (h : Hp) (Q : Fl → Lc → Hp → Prop) : Prop :=
  ∀ A G s, OkA c.d A → Rel K c h G s.heap → wpAny K.M A (execs sts c.env) (PostX K c G s Q) NoE s

section
variable {K : Bse} {c : Cx} {h : Hp} {G G' : Gh} {s s' s'' : Shared} {A : Around}

theorem PostL.trans {Q} (x : Stp c.own G G' s s') (y : PostL K c G' s' Q s'') : PostL K c G s Q s'' :=
  let ⟨G2, L2, h', a, b, q⟩ := y; ⟨G2, L2, h', x.trans a, b, q⟩
theorem PostX.trans {Q f} (x : Stp c.own G G' s s') (y : PostX K c G' s' Q f s'') : PostX K c G s Q f s'' :=
  let ⟨G2, f2, L2, h', a, b, e, q⟩ := y; ⟨G2, f2, L2, h', x.trans a, b, e, q⟩
theorem PostX.at {Q f L} (y : PostX K (c.at L) G s Q f s') : PostX K c G s Q f s' := y
theorem PostL.at {Q L} (y : PostL K (c.at L) G s Q s') : PostL K c G s Q s' := y

theorem Exs.nil {Q} (hQ : Q .next c.L h) : Exs K c [] h Q := fun A G s hA R => wpAny_execs_nil ⟨G, .next, c.L, h, Stp.refl _ _ _, R, trivial, hQ⟩
theorem Exs.cons {st rest Q} (x : Ex K c st h fun f L h1 => match f with | .next => Exs K (c.at L) rest h1 Q | f => Q f L h1) : Exs K c (st :: rest) h Q := fun A G s hA R => by
  refine wpAny_execs_cons (wpAny_mono (x A G s hA R) (fun f s1 zp => PX.use zp fun G1 f1 L1 h1 x1 R1 v1 q1 => ?_) fun _ _ z => z)
  cases f <;> cases f1 <;> try exact v1.elim
  · exact wpAny_mono (q1 A G1 s1 hA R1) (fun _ _ p => PostX.trans x1 p) fun _ _ z => z
  · exact ⟨G1, .brk, L1, h1, x1, R1, v1, q1⟩
  · exact ⟨G1, .cont, L1, h1, x1, R1, v1, q1⟩
  · exact ⟨G1, .ret _, L1, h1, x1, R1, v1, q1⟩
theorem Exs.mono {sts Q Q'} (x : Exs K c sts h Q) (hQ : ∀ f L h1, Q f L h1 → Q' f L h1) : Exs K c sts h Q' := fun A G s hA R =>
  wpAny_mono (x A G s hA R) (fun f s1 zp => PX.use zp fun G1 f1 L1 h1 x1 R1 v1 q1 => ⟨G1, f1, L1, h1, x1, R1, v1, hQ _ _ _ q1⟩) fun _ _ z => z
theorem Ex.mono {st Q Q'} (x : Ex K c st h Q) (hQ : ∀ f L h1, Q f L h1 → Q' f L h1) : Ex K c st h Q' := fun A G s hA R =>
  wpAny_mono (x A G s hA R) (fun f s1 zp => PX.use zp fun G1 f1 L1 h1 x1 R1 v1 q1 => ⟨G1, f1, L1, h1, x1, R1, v1, hQ _ _ _ q1⟩) fun _ _ z => z

/-- other names for the same store -/
theorem Exs.locals {sts Q} {L : Lc} (hL : ∀ x av, L.lookup x = some av → c.L.lookup x = some av) (x : Exs K (c.at L) sts h Q) : Exs K c sts h Q := fun A G s hA R => x A G s hA (R.sub hL)
theorem Exs.drop {sts Q} {h' : Hp} (hh : ∀ l o, h' l = some o → h l = some o) (x : Exs K c sts h' Q) : Exs K c sts h Q := fun A G s hA R => x A G s hA (R.drop hh)

theorem wpAny_store {x : Str} {v : Value} {av : AV} {Q : Lc → Hp → Prop} (R : Rel K c h G s.heap) (hv : VR G v av) (hk : c.env.kindOf x = some .local ∨ (c.wr = true ∧ c.env.kindOf x = some .cell ∧ (c.env.cells.lookup x).isSome = true))
    (hQ : Q (setL c.L x av) h) : wpAny K.M A (storeName c.env x v) (fun _ s' => PostL K c G s Q s') NoE s := by
  obtain ⟨m, hn, hb⟩ := R.ns
  have hp : (c.env.scope.kind == .class || (c.env.scope.kind == .module && c.env.locals != c.env.globals)) = false := by rw [R.kind]; rfl
  rcases hk with hl | ⟨hw, hl, hc⟩
  · refine wpAny_storeName_local hl hn (fun h' hn' hs' => ?_) hp
    exact ⟨G, _, h, Stp.inOwn c.own0 (R.own1 _ c.own0).1 hs', R.setLocal hl hv hb hn' hs', hQ⟩
  · obtain ⟨k, hk⟩ := Option.isSome_iff_exists.mp hc
    obtain ⟨_, _, w, hw'⟩ := R.cell x k hk
    refine wpAny_storeName_cell R.kind hl hk hw' (fun h' hc' hs' => ?_)
    exact ⟨G, _, h, Stp.inOwn (c.ownC hw hk) (R.own1 _ (c.ownC hw hk)).1 hs', R.setCell (R.own1 _ (c.ownC hw hk)).1 hl hk hv hc' hs', hQ⟩

theorem As.name {x pos a Q} (hk : c.env.kindOf x = some .local ∨ (c.wr = true ∧ c.env.kindOf x = some .cell ∧ (c.env.cells.lookup x).isSome = true)) (hQ : Q (setL c.L x a) h) : As K c (.Name x pos) a h Q := fun A G s u hA R hv =>
  wpAny_assign_Name (wpAny_store R hv hk hQ)
theorem Ass.nil {Q} (hQ : Q c.L h) : Ass K c [] [] h Q := fun A G s us hA R hv => by
  cases us with
  | nil => exact wpAny_pure ⟨G, c.L, h, Stp.refl _ _ _, R, hQ⟩
  | cons _ _ => exact hv.elim
theorem Ass.cons' {t ts a as Q} (x : ∀ A G s u, OkA c.d A → Rel K c h G s.heap → VR G u a → wpAny K.M A (t u) (fun _ s' => PostL K c G s (fun L h1 => Ass K (c.at L) ts as h1 Q) s') NoE s) : Ass K c (t :: ts) (a :: as) h Q := fun A G s us hA R hv => by
  cases us with
  | nil => exact hv.elim
  | cons u us =>
    show wpAny _ _ (do holding us (t u); assignInOrder ts us) _ _ s
    refine wpAny_bind (wpAny_holding (wpAny_mono (x A G s u hA R hv.1) (fun _ s1 zp => PL.use zp fun G1 L1 h1 x1 R1 q1 => ?_) fun _ _ z => z))
    exact wpAny_mono (q1 A G1 s1 us hA R1 (hv.2.mono x1.grow)) (fun _ _ p => PostL.trans x1 p) fun _ _ z => z
theorem Ass.cons {e ts a as Q} (x : As K c e a h fun L h1 => Ass K (c.at L) ts as h1 Q) : Ass K c (assign e c.env :: ts) (a :: as) h Q := Ass.cons' fun A G s u hA R hv => x A G s u hA R hv
theorem Ass.consB {n ts a as Q} (hk : c.env.kindOf n = some .local ∨ (c.wr = true ∧ c.env.kindOf n = some .cell ∧ (c.env.cells.lookup n).isSome = true)) (x : Ass K (c.at (setL c.L n a)) ts as h Q) : Ass K c ((fun v => bindName c.env n v) :: ts) (a :: as) h Q := Ass.cons' fun A G s u hA R hv =>
  wpAny_bindName (wpAny_store (Q := fun L h1 => Ass K (c.at L) ts as h1 Q) R hv hk x)

inductive SeqR (G : Gh) (hp : Heap) (cl : Value) (xs : List AV) : Value → Prop
  | mk (a vs n) (ho : hp.get? a = some { cls := cl, data := .seq vs n }) (hx : VRs G vs.toList xs) : SeqR G hp cl xs (.ref a)
theorem SeqR.inv {G : Gh} {hp : Heap} {cl : Value} {xs : List AV} {v : Value} : SeqR G hp cl xs v → ∃ a vs n, v = .ref a ∧ hp.get? a = some { cls := cl, data := .seq vs n } ∧ VRs G vs.toList xs
  | .mk a vs n ho hx => ⟨a, vs, n, rfl, ho, hx⟩
theorem Rel.tupAt {xs : List AV} {v : Value} (R : Rel K c h G s.heap) (hv : VR G v (.tup xs)) : SeqR G s.heap (.type "tuple") xs v := by
  obtain ⟨a, rfl, hg⟩ := hv
  obtain ⟨o, ho, vs, n, rfl, hx⟩ := R.cells _ _ hg
  exact ⟨a, vs, n, ho, hx⟩
theorem Rel.tupAt' {hp : Heap} {xs : List AV} {v : Value} (R : Rel K c h G hp) (hv : VR G v (.tup xs)) : SeqR G hp (.type "tuple") xs v := by
  obtain ⟨a, rfl, hg⟩ := hv
  obtain ⟨o, ho, vs, n, rfl, hx⟩ := R.cells _ _ hg
  exact ⟨a, vs, n, ho, hx⟩
theorem Rel.ext {hp' : Heap} (R : Rel K c h G s.heap) (hx : Heap.ExtBut s.heap.objs.size s.heap hp') (hsz : s.heap.objs.size ≤ hp'.objs.size) : Rel K c h G hp' :=
  R.keep (fun b o e => hx b o (Nat.ne_of_lt (Heap.lt_size e)) e) hsz
theorem Stp.ext {own : List Addr} {hp' : Heap} {t : Nat} (hx : Heap.ExtBut s.heap.objs.size s.heap hp') (hsz : s.heap.objs.size ≤ hp'.objs.size) : Stp own G G s { s with heap := hp', toks := t } :=
  Stp.heap (fun b o e => hx b o (Nat.ne_of_lt (Heap.lt_size e)) e) hsz

/-- taking a tuple apart -/
theorem wpAny_unpackT {xs : List AV} {v : Value} {n : Nat} (hA : OkA c.d A) (R : Rel K c h G s.heap) (hv : VR G v (.tup xs)) (hn : n = xs.length) {Q : List Value → Shared → Prop}
    (hQ : ∀ us hp', VRs G us xs → Stp c.own G G s { s with heap := hp' } → Rel K c h G hp' → Q us { s with heap := hp' }) : wpAny K.M A (unpackItems v n none) Q NoE s := by
  obtain ⟨a, vs, k, ho, hx⟩ := R.tupAt hv
  have hl := hx.length
  have e : n = vs.size := by rw [hn, ← hl]; simp
  subst e
  exact wpAny_sz (wpAny_unpackItems_tuple hA.1 ⟨_, ho, rfl, _, rfl⟩ fun h' hx' hsz => hQ _ _ hx (Stp.ext (t := s.toks) hx' hsz) (R.ext hx' hsz))

theorem As.tupleT {elts k pos as Q} (hn : (assignEach elts c.env).length = as.length) (hstar : (assignEach elts c.env).findIdx? (·.1) = none) (x : Ass K c ((assignEach elts c.env).map (·.2)) as h Q) : As K c (.Tuple elts k pos) (.tup as) h Q := fun A G s u hA R hv => by
  rw [arm_assign_Tuple]
  refine wpAny_bind (wpAny_standAt ?_)
  unfold unpack
  rw [hstar]
  refine wpAny_bind (wpAny_holding (wpAny_unpackT hA R hv hn fun us hp' hu hs R' => ?_))
  exact wpAny_mono (x A G { s with heap := hp' } us hA R' hu) (fun _ _ p => PostL.trans hs p) fun _ _ z => z

theorem Ex.asg {t value pos Q} (x : Ev K c value h fun a h1 => As K c t a h1 fun L h2 => Q .next L h2) (hs : swapsWithSole [t] value pos.line c.env = pure false := by kernel_rfl)
    (hw : swappedStores [t] value c.env = pure none := by kernel_rfl) (he : (assignEach [t] c.env).map (·.2) = [assign t c.env] := by kernel_rfl) : Ex K c (.Assign [t] value pos) h Q := fun A G s hA R => by
  refine wpAny_Assign_stores (wpAny_mono (x A G s hA R) (fun u s1 zp => PE.use zp fun G1 a h1 x1 R1 v1 q1 => ?_) fun _ _ z => z) hs hw
  rw [he]
  exact wpAny_mono (q1 A G1 s1 u hA R1 v1) (fun _ _ p => let ⟨G2, L2, h2, x2, R2, q2⟩ := PostL.trans x1 p; ⟨G2, .next, L2, h2, x2, R2, trivial, q2⟩) fun _ _ z => z
theorem Ex.asg3 {t₁ t₂ t₃ value pos Q} (x : Ev K c value h fun a h1 => As K c t₁ a h1 fun L h2 => As K (c.at L) t₂ a h2 fun L h3 => As K (c.at L) t₃ a h3 fun L h4 => Q .next L h4)
    (he : (assignEach [t₁, t₂, t₃] c.env).map (·.2) = [assign t₁ c.env, assign t₂ c.env, assign t₃ c.env] := by kernel_rfl)
    (hw : swappedStores [t₁, t₂, t₃] value c.env = pure none := by kernel_rfl) : Ex K c (.Assign [t₁, t₂, t₃] value pos) h Q := fun A G s hA R => by
  refine wpAny_Assign_three (wpAny_mono (x A G s hA R) (fun u s1 zp => PE.use zp fun G1 a h1 x1 R1 v1 q1 => ?_) fun _ _ z => z) he hw
  refine wpAny_mono (q1 A G1 s1 u hA R1 v1) (fun _ s2 zp => PL.use zp fun G2 L2 h2 x2 R2 q2 => ?_) fun _ _ z => z
  refine wpAny_mono (q2 A G2 s2 u hA R2 (v1.mono x2.grow)) (fun _ s3 zp => PL.use zp fun G3 L3 h3 x3 R3 q3 => ?_) fun _ _ z => z
  exact wpAny_mono (q3 A G3 s3 u hA R3 ((v1.mono x2.grow).mono x3.grow)) (fun _ _ zp => PL.use zp fun G4 L4 h4 x4 R4 q4 => ⟨G4, .next, L4, h4, ((x1.trans x2).trans x3).trans x4, R4, trivial, q4⟩) fun _ _ z => z
/-- a, b = (x, y): the stores come in the other order -/
theorem Ex.asgSwap {t value pos names Q} (x : Ev K c value h fun a h1 => ∃ as, a = .tup as ∧ names.length = as.length ∧ Ass K c (names.reverse.map fun n => fun v => bindName c.env n v) as.reverse h1 fun L h2 => Q .next L h2) (hs : swapsWithSole [t] value pos.line c.env = pure false := by kernel_rfl)
    (hw : swappedStores [t] value c.env = pure (some names) := by kernel_rfl) : Ex K c (.Assign [t] value pos) h Q := fun A G s hA R => by
  rw [exec_Assign_arm]
  refine wpAny_bind (wpAny_standAt ?_)
  rw [hs]
  refine wpAny_bind (wpAny_pure ?_)
  rw [if_neg (by decide)]
  refine wpAny_bind (wpAny_mono (x A G s hA R) (fun u s1 ⟨G1, a, h1, x1, R1, v1, as, ea, hl, q1⟩ => ?_) fun _ _ z => z)
  subst ea
  rw [hw]
  refine wpAny_bind (wpAny_pure ?_)
  unfold assignStores
  refine wpAny_bind (wpAny_rule (wpAny_bind (wpAny_unpackT hA R1 v1 hl fun us hp' hu hs R' => ?_)))
  refine wpAny_bind (wpAny_mono (q1 A G1 { s1 with heap := hp' } us.reverse hA R' ?_) (fun _ s2 zp => PL.use zp fun G2 L2 h2 x2 R2 q2 => wpAny_pure ⟨G2, .next, L2, h2, (x1.trans hs).trans x2, R2, trivial, q2⟩) fun _ _ z => z)
  clear q1 hl v1
  induction us generalizing as with
  | nil => cases as with | nil => exact trivial | cons _ _ => exact hu.elim
  | cons u us ih => cases as with
    | nil => exact hu.elim
    | cons a as => simp only [List.reverse_cons]; exact (ih as hu.2).append ⟨hu.1, trivial⟩

theorem wpAny_dropValue {e : Expr} {pos : Pos} {v : Value} {Q : Flow → Shared → Prop} {E : Value → Shared → Prop} (hQ : Q .next s) : wpAny K.M A (dropValue e pos v) Q E s := by
  unfold dropValue
  split
  · exact wpAny_pure hQ
  · exact wpAny_bind (wpAny_standAt (wpAny_bind (wpAny_runValue (codeAny_builtin entry_let_go (show wpAny _ _ (ret .none) _ _ s from wpAny_pure (wpAny_pure hQ))))))
  · exact wpAny_pure hQ
theorem Ex.expr {e pos Q} (x : Ev K c e h fun a h1 => Q .next c.L h1) (hi : interactive c.env = false := by kernel_rfl) (hs : swapsWith e none pos.line c.env = pure false := by kernel_rfl) : Ex K c (.Expr e pos) h Q := fun A G s hA R => by
  rw [exec_Expr c.env e pos hi hs]
  exact wpAny_bind (wpAny_standAt (wpAny_bind (wpAny_mono (x A G s hA R) (fun u s1 zp => PE.use zp fun G1 a h1 x1 R1 v1 q1 => wpAny_dropValue ⟨G1, .next, c.L, h1, x1, R1, trivial, q1⟩) fun _ _ z => z)))
theorem Ex.ifs {t b o pos Q} (x : It K c t h fun v h1 => if v then Exs K c b h1 Q else Exs K c o h1 Q) : Ex K c (.If t b o pos) h Q := fun A G s hA R => by
  refine wpAny_If (wpAny_mono (x A G s hA R) (fun v s1 zp => PB.use zp fun G1 h1 x1 R1 q1 => ?_) fun _ _ z => z)
  cases v
  · exact wpAny_mono (q1 A G1 s1 hA R1) (fun _ _ p => PostX.trans x1 p) fun _ _ z => z
  · exact wpAny_mono (q1 A G1 s1 hA R1) (fun _ _ p => PostX.trans x1 p) fun _ _ z => z
theorem Ex.ret {e pos Q} (x : Ev K c e h fun a h1 => Q (.ret a) c.L h1) : Ex K c (.Return (some e) pos) h Q := fun A G s hA R =>
  wpAny_Return_some (wpAny_mono (x A G s hA R) (fun u s1 zp => PE.use zp fun G1 a h1 x1 R1 v1 q1 => ⟨G1, .ret a, c.L, h1, x1, R1, v1, q1⟩) fun _ _ z => z)
theorem Ex.brk {pos Q} (hQ : Q .brk c.L h) : Ex K c (.Break pos) h Q := fun A G s hA R => wpAny_Break ⟨G, .brk, c.L, h, Stp.refl _ _ _, R, trivial, hQ⟩
theorem Ex.aug {x pos' op value pos Q} {a : AV} (hx : c.L.lookup x = some a) (y : Ev K c value h fun b h1 => Op2 K c (inplaceOp op) a b h1 fun r h2 => Q .next (setL c.L x r) h2)
    (hk : c.env.kindOf x = some .local ∨ (c.wr = true ∧ c.env.kindOf x = some .cell ∧ (c.env.cells.lookup x).isSome = true)) (hd' : (x == ("__classdict__" : Str)) = false := by kernel_rfl) : Ex K c (.AugAssign (.Name x pos') op value pos) h Q := fun A G s hA R => by
  obtain ⟨m, hn, hb⟩ := R.ns
  refine wpAny_AugAssign_Name (wpAny_has R hn (hb x a hx) hd' fun v hv => ?_)
  refine wpAny_mono (y A G s hA R) (fun u s1 zp => PE.use zp fun G1 b h1 x1 R1 v1 q1 => ?_) fun _ _ z => z
  refine wpAny_mono (q1 A G1 s1 v u hA R1 (hv.mono x1.grow) v1) (fun w s2 ⟨G2, r, h2, x2, R2, v2, q2⟩ => ?_) fun _ _ z => z
  exact wpAny_mono (wpAny_store (Q := fun L h3 => Q .next L h3) R2 v2 hk q2) (fun _ _ p => let ⟨G3, L3, h3, x3, R3, q3⟩ := PostL.trans (x1.trans x2) p; ⟨G3, .next, L3, h3, x3, R3, trivial, q3⟩) fun _ _ z => z

/-- while: one turn -/
noncomputable def Wh (K : Bse) (c : Cx) (test : Expr) (body orelse : List Stmt) (h : Hp) (Q : Fl → Lc → Hp → Prop) : Prop :=
  ∀ A G s, OkA c.d A → Rel K c h G s.heap → codeAny K.M A (.whileLoop test body orelse c.env) (fun r s' => match r with | .ok f => PostX K c G s Q f s' | .error _ => False) s
theorem Ex.whl {test body orelse pos Q} (x : Wh K c test body orelse h Q) : Ex K c (.While test body orelse pos) h Q := fun A G s hA R => by
  refine wpAny_While (codeAny_mono (x A G s hA R) fun r s' p => ?_)
  cases r with
  | ok f => exact p
  | error e => exact p.elim
theorem Wh.turn {test body orelse Q} (x : It K c test h fun b h1 => if b then Exs K c body h1 (fun f L h2 => match f with
      | .next | .cont => Wh K (c.at L) test body orelse h2 Q
      | .brk => Q .next L h2
      | .ret a => Q (.ret a) L h2) else Exs K c orelse h1 Q) : Wh K c test body orelse h Q := fun A G s hA R => by
  refine codeAny_of_tree ?_
  show wpAny _ A ((whileTurn test body orelse c.env).onRaise (fun x => do noteFrame x c.env; theTreesLotGoes x)) _ _ s
  refine wpAny_noted ?_
  simp only [whileTurn]
  refine wpAny_bind (wpAny_mono (x A G s hA R) (fun b s1 zp => PB.use zp fun G1 h1 x1 R1 q1 => ?_) fun _ _ z => z.elim)
  cases b with
  | false =>
    simp only [Bool.false_eq_true, if_false] at q1 ⊢
    exact wpAny_bind (wpAny_mono (q1 A G1 s1 hA R1) (fun f s3 p => wpAny_pure (PostX.trans x1 p)) fun _ _ z => z.elim)
  | true =>
    simp only [if_true] at q1 ⊢
    refine wpAny_bind (wpAny_mono (q1 A G1 s1 hA R1) (fun f s3 zp => PX.use zp fun G3 f3 L3 h3 x3 R3 v3 q3 => ?_) fun _ _ z => z.elim)
    have again : Wh K (c.at L3) test body orelse h3 Q → codeAny K.M A (.whileLoop test body orelse c.env) (fun r s' => match r with | .ok f => PostX K c G s Q f s' | .error _ => False) s3 := fun w =>
      codeAny_mono (w A G3 s3 hA R3) fun r s' p => by
        cases r with
        | ok f => exact PostX.trans (x1.trans x3) p
        | error e => exact p
    cases f <;> cases f3 <;> try exact v3.elim
    · exact wpAny_pure ⟨rfl, again q3⟩
    · exact wpAny_pure ⟨G3, .next, L3, h3, x1.trans x3, R3, trivial, q3⟩
    · exact wpAny_pure ⟨rfl, again q3⟩
    · exact wpAny_pure ⟨G3, .ret _, L3, h3, x1.trans x3, R3, v3, q3⟩

end
end Mine
end

section
open PySem PySem.W PySem.Calls PyProof.Rows
namespace Mine

theorem starEach_plain {e : Expr} {rest : List Expr} {env : Env} (he : starEach (e :: rest) env = (false, eval e env) :: starEach rest env) : starEach (e :: rest) env = (false, eval e env) :: starEach rest env := he

section
variable {M : Model} {A : Around} {E : Value → Shared → Prop} {s : Shared}
theorem wpAny_evalArgsG {f : Value} {xs : List (Bool × Sem Value)} {kws : List (Option Str × Sem Value)} {Q : Args → Shared → Prop} (hx : xs.any (·.1) = false) (hk : kws.all (·.1.isSome) = true)
    (h : wpAny M A (spliced xs) (fun vs s₁ => wpAny M A (evalAll (kws.map (·.2))) (fun ks s₂ => Q ⟨vs, (kws.filterMap (·.1)).zip ks⟩ s₂) E s₁) E s) : wpAny M A (evalArgs f true xs kws) Q E s := by
  cases xs with
  | nil => exact evalArgs_kw_nil hk fun Γ p hΓ => (h Γ p hΓ) Γ p hΓ
  | cons x rest =>
    obtain ⟨b, t⟩ := x
    have hb : b = false := by simp only [List.any_cons, Bool.or_eq_false_iff] at hx; exact hx.1
    subst hb
    exact evalArgs_kw hk h

theorem wpAny_callW {pos : Pos} {f : Value} {first : List Value} {args : List (Bool × Sem Value)} {kws : List (Option Str × Sem Value)} {Q : Value → Shared → Prop} (hx : args.any (·.1) = false) (hk : kws.all (·.1.isSome) = true)
    (h : wpAny M A (evalArgs f true args kws) (fun a s₁ => (∀ P : Keeper → Shared → Prop, (∀ k, P k s₁) → wpAny M A (keeperOf f) P E s₁) ∧ wpAny M A (call f (first ++ a.pos) a.kw) Q E s₁) E s) :
    wpAny M A (callWith pos f first args kws) Q E s := by
  unfold callWith
  refine wpAny_bind (wpAny_holding (wpAny_mono h (fun x s₁ h₁ => wpAny_bind (wpAny_standAt ?_)) fun _ _ x => x))
  have hs : (args.any (·.1) || kws.any (·.1.isNone)) = false := by
    rw [hx, Bool.false_or, List.any_eq_false]
    intro y hy
    have := List.all_eq_true.mp hk y hy
    cases hh : y.1 with
    | none => rw [hh] at this; cases this
    | some _ => simp
  rw [hs]
  have tail : ∀ {t : Sem Value}, wpAny M A t Q E s₁ → wpAny M A (t >>= fun r => holding [r] point >>= fun _ => pure r) Q E s₁ :=
    fun ht => wpAny_bind (wpAny_mono ht (fun r s₂ hr => wpAny_bind (wpAny_holding (wpAny_point (wpAny_pure hr)))) fun _ _ x => x)
  refine wpAny_bind (m := keeperOf f) (h₁.1 _ fun k => ?_)
  cases k <;> dsimp only
  · split
    · exact tail h₁.2
    · exact tail (by unfold callMarked; exact wpAny_keep h₁.2)
  · split
    · exact tail h₁.2
    · exact tail (by unfold callMarked; exact wpAny_keep h₁.2)
  · exact tail h₁.2
  · exact tail (wpAny_operateT h₁.2)

theorem keeper_builtin {id : String} {P : Keeper → Shared → Prop} (h : ∀ k, P k s) : wpAny M A (keeperOf (.builtin id)) P E s := wpAny_pure (h _)
theorem keeper_type {id : String} {P : Keeper → Shared → Prop} (h : ∀ k, P k s) : wpAny M A (keeperOf (.type id)) P E s := wpAny_pure (h _)
theorem keeper_func {a : Addr} {o : Obj} {fd : FuncData} {P : Keeper → Shared → Prop} (ho : s.heap.get? a = some o) (hd : o.data = .func fd) (h : ∀ k, P k s) : wpAny M A (keeperOf (.ref a)) P E s := by
  unfold keeperOf
  refine wpAny_bind (wpAny_load ho ?_)
  rw [hd]; exact wpAny_pure (h _)
end

/-- keyword arguments: names and values -/
noncomputable def PostK (K : Bse) (c : Cx) (d : Nat) (G : Gh) (s : Shared) (Q : AV → Hp → Prop) (r : Result) (s' : Shared) : Prop :=
  match r with
  | .ok (.ret v) => PE [] G s s' (Rel K c) (fun G' a => VR G' v a) Q
  | _ => False
/-- a call of f with arguments as and keywords kw -/
noncomputable def CaC (K : Bse) (d : Nat) (f : AV) (as : List AV) (kw : List (Str × AV)) (h : Hp) (Q : AV → Hp → Prop) : Prop :=
  ∀ (c : Cx) A G s fv us ks, OkA d A → Rel K c h G s.heap → VR G fv f → VRs G us as → VRs G ks (kw.map (·.2)) →
    codeAny K.M A (.call fv ⟨us, (kw.map (·.1)).zip ks⟩) (PostK K c d G s Q) s
noncomputable def Ca (K : Bse) (d : Nat) (f : AV) (as : List AV) (kw : List (Str × AV)) (h : Hp) (Q : AV → Hp → Prop) : Prop :=
  ∀ (c : Cx) A G s fv us ks, OkA d A → Rel K c h G s.heap → VR G fv f → VRs G us as → VRs G ks (kw.map (·.2)) →
    wpAny K.M A (call fv us ((kw.map (·.1)).zip ks)) (fun v s' => PE [] G s s' (Rel K c) (fun G' a => VR G' v a) Q) NoE s
/-- f may be called (its keeper can be told) -/
noncomputable def Kp (K : Bse) (f : AV) (h : Hp) : Prop :=
  ∀ (c : Cx) A G s fv (P : Keeper → Shared → Prop), Rel K c h G s.heap → VR G fv f → (∀ k, P k s) → wpAny K.M A (keeperOf fv) P NoE s

section
variable {K : Bse} {c : Cx} {h : Hp} {G G' : Gh} {s s' s'' : Shared} {A : Around} {Q : AV → Hp → Prop} {d : Nat}

theorem Ca.ofC {f as kw} (x : CaC K d f as kw h Q) : Ca K d f as kw h Q := fun c A G s fv us ks hA R h1 h2 h3 =>
  wpAny_call (codeAny_mono (x c A G s fv us ks hA R h1 h2 h3) fun r s3 p => by
    match r, p with
    | .ok (.ret v), p => exact p)
theorem Ca.mono {f as kw Q'} (x : Ca K d f as kw h Q) (hQ : ∀ a h1, Q a h1 → Q' a h1) : Ca K d f as kw h Q' := fun c A G s fv us ks hA R h1 h2 h3 =>
  wpAny_mono (x c A G s fv us ks hA R h1 h2 h3) (fun v s' zp => PE.use zp fun G' av h' a b e q => ⟨G', av, h', a, b, e, hQ _ _ q⟩) fun _ _ z => z
theorem CaC.mono {f as kw Q'} (x : CaC K d f as kw h Q) (hQ : ∀ a h1, Q a h1 → Q' a h1) : CaC K d f as kw h Q' := fun c A G s fv us ks hA R h1 h2 h3 => by
  refine codeAny_mono (x c A G s fv us ks hA R h1 h2 h3) fun r s' p => ?_
  match r, p with
  | .ok (.ret v), ⟨G', av, h', a, b, e, q⟩ => exact ⟨G', av, h', a, b, e, hQ _ _ q⟩

/-- keywords -/
noncomputable def Ks (K : Bse) (c : Cx) (ks : List Keyword) (h : Hp) (Q : List AV → Hp → Prop) : Prop :=
  ∀ A G s pos, OkA c.d A → Rel K c h G s.heap → wpAny K.M A (evalAll ((backToKw pos (keywordEach ks c.env)).map (·.2))) (PostS K c G s Q) NoE s
theorem Ks.nil {Q : List AV → Hp → Prop} (hQ : Q [] h) : Ks K c [] h Q := fun A G s pos hA R => wpAny_pure ⟨G, [], h, Stp.refl _ _ _, R, trivial, hQ⟩
theorem Ks.cons {n e p rest} {Q : List AV → Hp → Prop} (x : Ev K c e h fun a h1 => Ks K c rest h1 fun as h2 => Q (a :: as) h2) : Ks K c (⟨n, e, p⟩ :: rest) h Q := fun A G s pos hA R => by
  refine wpAny_evalAll_cons (wpAny_bind (wpAny_mono (x A G s hA R) (fun u s1 zp => PE.use zp fun G1 a h1 x1 R1 v1 q1 => wpAny_bind (wpAny_standAt (wpAny_pure ?_))) fun _ _ z => z))
  refine wpAny_mono (q1 A G1 s1 pos hA R1) (fun vs s2 zp => PE.use zp fun G2 as h2 x2 R2 v2 q2 => ?_) fun _ _ z => z
  exact ⟨G2, a :: as, h2, x1.trans x2, R2, ⟨v1.mono x2.grow, v2⟩, q2⟩

noncomputable def kwNames (ks : List Keyword) : List Str := ks.filterMap fun k => match k with | ⟨n, _, _⟩ => n

theorem back_any (pos : Pos) (xs : List (Bool × Sem Value)) : (backTo pos xs).any (·.1) = xs.any (·.1) := by
  unfold backTo; rw [List.any_map]; rfl
theorem backKw_all (pos : Pos) (xs : List (Option Str × Sem Value)) : (backToKw pos xs).all (·.1.isSome) = xs.all (·.1.isSome) := by
  unfold backToKw; rw [List.all_map]; rfl
theorem backKw_names (pos : Pos) (ks : List Keyword) (env : Env) : (backToKw pos (keywordEach ks env)).filterMap (·.1) = kwNames ks := by
  unfold backToKw kwNames
  rw [List.filterMap_map]
  induction ks with
  | nil => rfl
  | cons k ks ih =>
    obtain ⟨n, v, p⟩ := k
    rw [arm_keywordEach_cons, List.filterMap_cons, List.filterMap_cons, ih]; rfl

/-- a call through callWith, function value fv known -/
theorem wpAny_callWith {pos : Pos} {fv : Value} {f : AV} {first : List Value} {fs : List AV} {args : List Expr} {ks : List Keyword} (hd : c.d = d + 1) (hA : OkA c.d A) (R : Rel K c h G s.heap) (hf : VR G fv f) (hfs : VRs G first fs)
    (x : Es K c args h fun as h1 => Ks K c ks h1 fun kv h2 => kv.length = (kwNames ks).length ∧ Kp K f h2 ∧ Ca K d f (fs ++ as) ((kwNames ks).zip kv) h2 Q)
    (hx : (starEach args c.env).any (·.1) = false) (hk : (keywordEach ks c.env).all (·.1.isSome) = true) :
    wpAny K.M A (callWith pos fv first (backTo pos (starEach args c.env)) (backToKw pos (keywordEach ks c.env))) (PostE K c G s Q) NoE s := by
  refine wpAny_callW (by rw [back_any]; exact hx) (by rw [backKw_all]; exact hk) (wpAny_evalArgsG (by rw [back_any]; exact hx) (by rw [backKw_all]; exact hk) ?_)
  refine wpAny_mono (x A G s pos hA R) (fun vs s1 zp => PE.use zp fun G1 as h1 x1 R1 v1 q1 => ?_) fun _ _ z => z
  refine wpAny_mono (q1 A G1 s1 pos hA R1) (fun kvs s2 ⟨G2, kv, h2, x2, R2, v2, ql, qk, q2⟩ => ?_) fun _ _ z => z
  have hf2 := (hf.mono x1.grow).mono x2.grow
  refine ⟨fun P hP => qk c A G2 s2 fv P R2 hf2 hP, ?_⟩
  have e1 : ((kwNames ks).zip kv).map (·.1) = kwNames ks := by rw [List.map_fst_zip]; omega
  have e2 : ((kwNames ks).zip kv).map (·.2) = kv := by rw [List.map_snd_zip]; omega
  have := q2 c A G2 s2 fv (first ++ vs) kvs (hA.mono (by omega)) R2 hf2 (((hfs.mono x1.grow).mono x2.grow).append (v1.mono x2.grow)) (by rw [e2]; exact v2)
  rw [e1] at this
  rw [backKw_names]
  refine wpAny_mono this (fun v s3 p => ?_) fun _ _ z => z
  obtain ⟨G', av, h', a, b, e, q⟩ := p
  exact ⟨G', av, h', (x1.trans x2).trans (a.sub (fun _ z => nomatch z)), b, e, q⟩

theorem Ev.call {id p args ks pos} (x : Ev K c (.Name id p) h fun f h0 => Es K c args h0 fun as h1 => Ks K c ks h1 fun kv h2 => kv.length = (kwNames ks).length ∧ Kp K f h2 ∧ Ca K d f as ((kwNames ks).zip kv) h2 Q) (hd : c.d = d + 1)
    (hx : (starEach args c.env).any (·.1) = false := by kernel_rfl) (hk : (keywordEach ks c.env).all (·.1.isSome) = true := by kernel_rfl) : Ev K c (.Call (.Name id p) args ks pos) h Q := fun A G s hA R => by
  refine wpAny_Call_Name_kw (wpAny_mono (x A G s hA R) (fun fv s1 zp => PE.use zp fun G1 f h1 x1 R1 v1 q1 => ?_) fun _ _ z => z)
  exact wpAny_mono (wpAny_callWith (fs := []) (first := []) hd hA R1 v1 trivial q1 hx hk) (fun _ _ p => PostE.trans x1 p) fun _ _ z => z

/-- how a def binds its arguments -/
noncomputable def Bnd (K : Bse) (fd : FuncData) (as : List AV) (kw : List (Str × AV)) (h : Hp) (bs : Lc) (h' : Hp) : Prop :=
  ∀ (c : Cx) A G s us ks, A.handled = none → Rel K c h G s.heap → VRs G us as → VRs G ks (kw.map (·.2)) →
    wpAny K.M A (bindArgs fd ⟨us, (kw.map (·.1)).zip ks⟩) (fun binds s' => ∃ G', Stp [] G G' s s' ∧ Rel K c h' G' s'.heap ∧ binds.map (·.1) = bs.map (·.1) ∧ VRs G' (binds.map (·.2)) (bs.map (·.2))) NoE s

theorem Rel.back {c2 : Cx} {h' : Hp} (R : Rel K c h G s.heap) (y : Rel K c2 h' G' s'.heap) (st : Stp [] G G' s s') : Rel K c h' G' s'.heap where
  cells := y.cells
  bound := y.bound
  inj := y.inj
  live := y.live
  base := y.base
  tabs := y.tabs
  kind := R.kind
  glob := R.glob
  ns := by
    obtain ⟨m, hn, hb⟩ := R.ns
    refine ⟨m, hn.at' fun o e => st.keep _ o (R.own1 _ c.own0).1 (fun z => nomatch z) e, fun x av e => ?_⟩
    obtain ⟨v, hv, h1 | ⟨h2, k, hk, o, ho, hd⟩⟩ := hb x av e
    · exact ⟨v, hv.mono st.grow, .inl h1⟩
    · exact ⟨v, hv.mono st.grow, .inr ⟨h2, k, hk, o, st.cellKeep (R.cell x k hk).2.1 (fun z => nomatch z) ho, hd⟩⟩
  own1 a ha := ⟨st.new a (R.own1 a ha).1 (R.own1 a ha).2, Nat.lt_of_lt_of_le (R.own1 a ha).2 st.size⟩
  cell x k e := by
    obtain ⟨p, q, w, o, ho, hd⟩ := R.cell x k e
    exact ⟨p, st.cellG q (R.cell_lt e), w, o, st.cellKeep q (fun z => nomatch z) ho, hd⟩
  cellInj := R.cellInj

theorem Stp.frame {own : List Addr} {s1 s2 s3 : Shared} (x : Stp [] G G s1 s2) (y : Stp own G G' s2 s3) (hf : ∀ a ∈ own, s1.heap.objs.size ≤ a) : Stp [] G G' s1 s3 :=
  ⟨y.grow, fun a g hl => y.new a g (Nat.lt_of_lt_of_le hl x.size), Nat.le_trans x.size y.size,
   fun a o g _ e => y.keep a o g (fun q => absurd (Heap.lt_size e) (Nat.not_lt.mpr (hf a q))) (x.keep a o g (fun z => nomatch z) e),
   fun a av o g e => y.keepV a av o g (x.keepV a av o g e), y.os.trans x.os, y.gens.trans x.gens⟩

theorem bindL_of {kindOf : Str → Option NameKind} : ∀ {bs : List (Str × Value)} {m : Str → Option Value} {x : Str}, x ∉ bs.map (·.1) → bindL kindOf bs m x = m x
  | [], m, x, _ => rfl
  | (n, v) :: r, m, x, hx => by
    simp only [List.map_cons, List.mem_cons, not_or] at hx
    unfold bindL
    rw [bindL_of hx.2]
    split
    · simp [hx.1]
    · rfl
theorem bindC_of {kindOf : Str → Option NameKind} : ∀ {bs : List (Str × Value)} {m : Str → Option Value} {x : Str}, x ∉ bs.map (·.1) → bindC kindOf bs m x = m x
  | [], m, x, _ => rfl
  | (n, v) :: r, m, x, hx => by
    simp only [List.map_cons, List.mem_cons, not_or] at hx
    unfold bindC
    rw [bindC_of hx.2]
    split
    · rfl
    · simp [hx.1]
theorem bind_has {kindOf : Str → Option NameKind} {G : Gh} : ∀ {binds : List (Str × Value)} {bs : Lc} {m cm : Str → Option Value} {x : Str} {av : AV}, binds.map (·.1) = bs.map (·.1) → VRs G (binds.map (·.2)) (bs.map (·.2)) → (bs.map (·.1)).Nodup → bs.lookup x = some av →
    ∃ v, VR G v av ∧ (kindOf x = some .local → bindL kindOf binds m x = some v) ∧ (kindOf x ≠ some .local → bindC kindOf binds cm x = some v)
  | [], [], _, _, _, _, _, _, _, e => by simp at e
  | (n, v) :: r, (n', a) :: bs, m, cm, x, av, hn, hv, hd, e => by
    simp only [List.map_cons, List.cons.injEq] at hn
    obtain ⟨rfl, hn⟩ := hn
    simp only [List.map_cons, List.nodup_cons] at hd
    obtain ⟨hv1, hv2⟩ := hv
    by_cases hx : x = n
    · subst hx
      simp only [List.lookup_cons, beq_self_eq_true] at e
      cases e
      refine ⟨v, hv1, fun hk => ?_, fun hk => ?_⟩
      · unfold bindL; rw [if_pos hk, bindL_of (by rw [hn]; exact hd.1)]; simp
      · unfold bindC; rw [if_neg hk, bindC_of (by rw [hn]; exact hd.1)]; simp
    · have : (x == n) = false := by simpa using hx
      simp only [List.lookup_cons, this] at e
      unfold bindL bindC
      exact bind_has hn hv2 hd.2 e
  | [], _ :: _, _, _, _, _, hn, _, _, _ => by simp at hn
  | _ :: _, [], _, _, _, _, hn, _, _, _ => by simp at hn

theorem Rel.enter {env : Env} {binds : List (Str × Value)} {bs : Lc} {e : Nat} (R : Rel K c h G s.heap) (x : InCallC s env.locals (bindL env.kindOf binds fun _ => Option.none) env.cells (bindC env.kindOf binds fun _ => Option.none) s')
    (hb1 : binds.map (·.1) = bs.map (·.1)) (hb2 : VRs G (binds.map (·.2)) (bs.map (·.2))) (hb3 : (bs.map (·.1)).Nodup) (hk : env.scope.kind = .function) (hg : env.globals = mainGlobals ∧ env.builtins = builtinsNs)
    (hkind : ∀ y ∈ bs, env.kindOf y.1 = some .local ∨ (env.kindOf y.1 = some .cell ∧ (env.cells.lookup y.1).isSome = true)) :
    Rel K ⟨e, env, true, bs⟩ h G s'.heap ∧ Stp [] G G s s' ∧ ∀ a ∈ (Cx.mk e env true bs).own, s.heap.objs.size ≤ a := by
  have hfr : ∀ a ∈ (Cx.mk e env true bs).own, s.heap.objs.size ≤ a := fun a ha => by
    rcases Cx.own_cases ha with rfl | ⟨n, hm⟩
    · exact x.toInCall.fresh
    · exact Nat.le_of_lt (Nat.lt_of_le_of_lt x.toInCall.fresh (x.above n _ (mem_of_lookup hm)))
  obtain ⟨hp1, tk, hs, hkeep⟩ := x.done
  have hsz : s.heap.objs.size ≤ s'.heap.objs.size := Nat.le_of_lt (Nat.lt_of_le_of_lt x.toInCall.fresh x.toInCall.ns.lt)
  have hkp : ∀ b o, s.heap.get? b = some o → s'.heap.get? b = some o := x.toInCall.keep
  have R' := R.keep hkp hsz
  have cellAt : ∀ y k, env.cells.lookup y = some k → s'.heap.IsCell k (bindC env.kindOf binds (fun _ => Option.none) y) := fun y k e => x.cell y k e
  refine ⟨⟨R'.cells, R.bound, R.inj, R.live, R.base, R.tabs, hk, hg, ⟨_, x.toInCall.ns, fun y av e => ?_⟩, fun a ha => ⟨R.none_of_ge (hfr a ha), ?_⟩, fun y k e => ⟨?_, .inl (R.none_of_ge ?_), _, cellAt y k e⟩, x.apart⟩, ?_, hfr⟩
  · obtain ⟨v, hv, h1, h2⟩ := bind_has (kindOf := env.kindOf) (m := fun _ => Option.none) (cm := fun _ => Option.none) hb1 hb2 hb3 e
    rcases hkind _ (mem_of_lookup e) with hl | ⟨hl, hc⟩
    · exact ⟨v, hv, .inl ⟨hl, h1 hl⟩⟩
    · obtain ⟨k, hk⟩ := Option.isSome_iff_exists.mp hc
      refine ⟨v, hv, .inr ⟨.inl hl, k, hk, ?_⟩⟩
      have := cellAt y k hk
      have h3 := h2 (by show env.kindOf y ≠ _; rw [hl]; simp)
      rw [h3] at this; exact this
  · rcases Cx.own_cases ha with rfl | ⟨n, hm⟩
    · exact x.toInCall.ns.lt
    · exact (cellAt n _ hm).lt
  · intro q; have := x.above y k (mem_of_lookup e); rw [q] at this; exact Nat.lt_irrefl _ this
  · exact Nat.le_of_lt (Nat.lt_of_le_of_lt x.toInCall.fresh (x.above y k (mem_of_lookup e)))
  · rw [hs]; exact Stp.heap (fun b o e => hkeep b o e) (by rw [hs] at hsz; exact hsz)

/-- a call of a def of the program -/
theorem CaC.fn {a : Addr} {o : Obj} {fd : FuncData} {body : List Stmt} {as : List AV} {kw : List (Str × AV)} {bs : Lc} {h1 : Hp} (ho : K.B a = some o) (hdata : o.data = .func fd) (hbody : fd.body = .stmts body) (hcl : fd.closure = [])
    (hcd : ∃ cc co vs t, fd.code = .ref cc ∧ K.B cc = some co ∧ co.data = .fields vs ∧ vs[1]? = some (.str fd.qualname t)) (hgl : fd.globals = mainGlobals ∧ fd.builtins = builtinsNs)
    (hbind : Bnd K fd as kw h bs h1) (hnd : (bs.map (·.1)).Nodup)
    (hkind : ∀ y ∈ bs, fd.scope.names.lookup y.1 = some .local ∨ (fd.scope.names.lookup y.1 = some .cell))
    (x : ∀ L : Addr, Exs K ⟨d, callEnvC fd L a, true, bs⟩ body h1 fun f L' h2 => match f with | .ret av => Q av h2 | _ => Q .none h2)
    (hco : fd.scope.isCoroutine = false := by kernel_rfl) (hgen : fd.scope.isGenerator = false := by kernel_rfl) (hk : fd.scope.kind = .function := by kernel_rfl) : CaC K (d + 1) (.raw (.ref a)) as kw h Q := fun c A G s fv us ks hA R hf hu hks => by
  cases hf
  have hoa := R.baseAt ho
  obtain ⟨cc, co, vs, t, e1, e2, e3, e4⟩ := hcd
  refine codeAny_call_function hA.room hoa hdata hco hgen hbody ⟨cc, co, vs, t, e1, R.baseAt e2, e3, e4⟩ ?_
  have hA1 : OkA d A.in1 := hA.in1
  refine wpAny_mono (hbind c A.in1 G s us ks hA1.1 R hu hks) (fun binds s1 ⟨G1, st1, R1, n1, v1⟩ => ?_) fun _ _ z => z.elim
  rw [hcl]
  have hmem : ∀ y ∈ binds, ∃ z ∈ bs, z.1 = y.1 := fun y hy => by
    have : y.1 ∈ binds.map (·.1) := List.mem_map_of_mem hy
    rw [n1] at this
    obtain ⟨z, hz, e⟩ := List.mem_map.mp this
    exact ⟨z, hz, e⟩
  have hsome : ∀ n y, fd.scope.names.lookup y = some .cell → ((cellsFrom n fd.scope.names []).lookup y).isSome = true := fun n y e => cellsFrom_some _ _ _ (.inl e)
  refine wpAny_newFunctionEnv_cells hk (fun y hy => ?_) fun env he s2 x2 => ?_
  · obtain ⟨z, hz, e⟩ := hmem y hy
    rw [← e]
    exact (hkind z hz).imp id fun q => ⟨q, hsome _ _ q⟩
  · have R2 := Rel.enter (e := d) R1 x2 n1 v1 hnd (by rw [he]; exact hk) (by rw [he]; exact hgl) (fun y hy => by
      rw [he]
      exact (hkind y hy).imp id fun q => ⟨q, hsome _ _ q⟩)
    have he' : env = callEnvC fd s1.heap.objs.size a := he
    subst he'
    obtain ⟨R2, st2, hfr⟩ := R2
    refine ⟨R2.noLimit, codeAny_func (wpAny_mono (x s1.heap.objs.size (A.deeper (callEnvC fd s1.heap.objs.size a)) G1 s2 hA.deeper R2) (fun f s3 p => ?_) fun _ _ z => z.elim)⟩
    obtain ⟨G3, f3, L3, h3, x3, R3, v3, q3⟩ := p
    have st : Stp [] G G3 s s3 := st1.trans (Stp.frame st2 x3 hfr)
    have Rb : Rel K c h3 G3 s3.heap := R.back R3 st
    cases f <;> cases f3 <;> try exact v3.elim
    · exact ⟨G3, .none, h3, st, Rb, rfl, q3⟩
    · exact ⟨G3, .none, h3, st, Rb, rfl, q3⟩
    · exact ⟨G3, .none, h3, st, Rb, rfl, q3⟩
    · exact ⟨G3, _, h3, st, Rb, v3, q3⟩

theorem Bnd.of {fd : FuncData} {as : List AV} {names : List Str} (hl : names.length = as.length) (hb : ∀ us : List Value, us.length = names.length → bindArgs fd ⟨us, []⟩ = pure (names.zip us)) : Bnd K fd as [] h (names.zip as) h := fun c A G s us ks hA R hu hks => by
  have e := hu.length
  rw [show ((([] : List (Str × AV)).map (·.1)).zip ks) = [] from rfl, hb us (by omega)]
  refine wpAny_pure ⟨G, Stp.refl _ _ _, R, ?_, ?_⟩
  · rw [List.map_fst_zip (by omega), List.map_fst_zip (by omega)]
  · rw [List.map_snd_zip (by omega), List.map_snd_zip (by omega)]; exact hu

/-- the names that a def binds are its own -/
noncomputable def kindsOk (fd : FuncData) (names : List Str) : Bool :=
  names.all fun n => fd.scope.names.lookup n == some .local || fd.scope.names.lookup n == some .cell
structure FnOk (K : Bse) (a : Addr) (fd : FuncData) (body : List Stmt) : Prop where
  ho : ∃ o, K.B a = some o ∧ o.data = .func fd
  hbody : fd.body = .stmts body
  hcl : fd.closure = []
  hcd : ∃ cc co vs t, fd.code = .ref cc ∧ K.B cc = some co ∧ co.data = .fields vs ∧ vs[1]? = some (.str fd.qualname t)
  hgl : fd.globals = mainGlobals ∧ fd.builtins = builtinsNs
  hco : fd.scope.isCoroutine = false
  hgen : fd.scope.isGenerator = false
  hk : fd.scope.kind = .function

theorem CaC.fnK {a : Addr} {fd : FuncData} {body : List Stmt} {as : List AV} {kw : List (Str × AV)} {bs : Lc} {names : List Str} {h1 : Hp} (F : FnOk K a fd body) (hbind : Bnd K fd as kw h bs h1) (hb : bs.map (·.1) = names) (hnd : names.Nodup) (hkind : kindsOk fd names = true)
    (x : ∀ L : Addr, Exs K ⟨d, callEnvC fd L a, true, bs⟩ body h1 fun f L' h2 => match f with | .ret av => Q av h2 | _ => Q .none h2) : CaC K (d + 1) (.raw (.ref a)) as kw h Q := by
  obtain ⟨o, ho, hd⟩ := F.ho
  refine CaC.fn ho hd F.hbody F.hcl F.hcd F.hgl hbind (by rw [hb]; exact hnd) (fun y hy => ?_) x F.hco F.hgen F.hk
  have hy' : y.1 ∈ names := by rw [← hb]; exact List.mem_map_of_mem hy
  have := List.all_eq_true.mp hkind y.1 hy'
  simpa using this
theorem CaC.fn0 {a : Addr} {fd : FuncData} {body : List Stmt} {as : List AV} {names : List Str} (F : FnOk K a fd body) (hl : names.length = as.length) (hb : ∀ us : List Value, us.length = names.length → bindArgs fd ⟨us, []⟩ = pure (names.zip us)) (hnd : names.Nodup) (hkind : kindsOk fd names = true)
    (x : ∀ L : Addr, Exs K ⟨d, callEnvC fd L a, true, names.zip as⟩ body h fun f L' h2 => match f with | .ret av => Q av h2 | _ => Q .none h2) : CaC K (d + 1) (.raw (.ref a)) as [] h Q :=
  CaC.fnK F (Bnd.of hl hb) (by rw [List.map_fst_zip (by omega)]) hnd hkind x
theorem Kp.fn {a : Addr} {o : Obj} {fd : FuncData} (ho : K.B a = some o) (hdata : o.data = .func fd) : Kp K (.raw (.ref a)) h := fun c A G s fv P R hf hP => by
  cases hf; exact keeper_func (R.baseAt ho) hdata hP
theorem Kp.builtin {id : String} : Kp K (.raw (.builtin id)) h := fun c A G s fv P R hf hP => by
  cases hf; exact keeper_builtin hP
theorem Kp.type {id : String} : Kp K (.raw (.type id)) h := fun c A G s fv P R hf hP => by
  cases hf; exact keeper_type hP
end
end Mine
end

section
open PySem PySem.W PySem.Calls PyProof.Rows
namespace Mine

/-- these objects are tracked nowhere -/
noncomputable def Loose (c : Cx) (G : Gh) (wr : List Addr) : Prop := ∀ b ∈ wr, G b = none ∧ b ≠ c.env.locals ∧ ∀ x, c.env.cells.lookup x ≠ some b

structure Iter (K : Bse) (I : Addr) (wr : List Addr) (n : Nat) (items : Nat → List AV) (pair : Bool) (Hc : Hp → Prop) (St : Nat → Gh → Heap → Prop) : Prop where
  frame : ∀ i G G' hp hp', St i G hp → Grow G G' → (∀ b ∈ wr, ∀ o, hp.get? b = some o → hp'.get? b = some o) → St i G' hp'
  live : ∀ i G hp, St i G hp → ∀ b ∈ wr, b < hp.objs.size
  item1 : pair = false → ∀ i (c : Cx) A G (s : Shared) h, i < n → A.handled = none → St i G s.heap → Rel K c h G s.heap → Hc h → Loose c G wr →
    wpAny K.M A (pyNext (.ref I)) (fun r s1 => ∃ v x G', r = some v ∧ items i = [x] ∧ VR G' v x ∧ Stp wr G G' s s1 ∧ Rel K c h G' s1.heap ∧ St (i + 1) G' s1.heap) NoE s
  item2 : pair = true → ∀ i (c : Cx) A G (s : Shared) h, i < n → A.handled = none → St i G s.heap → Rel K c h G s.heap → Hc h → Loose c G wr →
    wpAny K.M A (pyNext (.ref I)) (fun r s1 => ∃ T, r = some (.ref T) ∧ ∀ elts k pos, wpAny K.M A (letOwnedTupleGo (.Tuple elts k pos) (.ref I) (.ref T))
      (fun _ s2 => ∃ G' vals, s2.heap.IsTuple T vals ∧ VRs G' vals.toList (items i) ∧ Stp wr G G' s s2 ∧ Rel K c h G' s2.heap ∧ St (i + 1) G' s2.heap) NoE s1) NoE s
  done : ∀ (c : Cx) A G (s : Shared) h, A.handled = none → St n G s.heap → Rel K c h G s.heap → Hc h → Loose c G wr →
    wpAny K.M A (pyNext (.ref I)) (fun r s1 => ∃ G', r = none ∧ Stp wr G G' s s1 ∧ Rel K c h G' s1.heap) NoE s
  self : ∀ i A G (s : Shared) (Q : Value → Shared → Prop), St i G s.heap → Q (.ref I) s → wpAny K.M A (pyIter (.ref I)) Q NoE s

/-- the targets of a loop take what came -/
noncomputable def BindT (K : Bse) (c : Cx) (t : Expr) (pair : Bool) (as : List AV) (h : Hp) (Q : Lc → Hp → Prop) : Prop :=
  match pair with
  | false => (∃ x p, t = .Name x p) ∧ ∃ a, as = [a] ∧ As K c t a h Q
  | true => ∃ elts k pos, t = .Tuple elts k pos ∧ (assignEach elts c.env).length = as.length ∧ (assignEach elts c.env).findIdx? (·.1) = none ∧ Ass K c ((assignEach elts c.env).map (·.2)) as h Q

/-- an expression that a loop walks -/
inductive PI (K : Bse) (c : Cx) (G : Gh) (s : Shared) (P : Nat → (Nat → List AV) → Bool → (Hp → Prop) → Hp → Prop) (it : Value) (s2 : Shared) : Prop
  | mk (I : Addr) (wr : List Addr) (n : Nat) (items : Nat → List AV) (pair : Bool) (Hc : Hp → Prop) (St : Nat → Gh → Heap → Prop) (G' : Gh) (h' : Hp) (e : it = .ref I) (X : Iter K I wr n items pair Hc St)
    (st : Stp c.own G G' s s2) (rel : Rel K c h' G' s2.heap) (t : St 0 G' s2.heap) (f : ∀ b ∈ wr, G' b = none ∧ s.heap.objs.size ≤ b) (q : P n items pair Hc h')
noncomputable def EvI (K : Bse) (c : Cx) (e : Expr) (h : Hp) (P : Nat → (Nat → List AV) → Bool → (Hp → Prop) → Hp → Prop) : Prop :=
  ∀ A G s, OkA c.d A → Rel K c h G s.heap → wpAny K.M A (eval e c.env) (fun x s1 => wpAny K.M A (pyIter x) (PI K c G s P) NoE s1) NoE s

section
variable {K : Bse} {c : Cx} {h : Hp} {G G' : Gh} {s s' s'' : Shared} {A : Around}

theorem Loose.step {wr : List Addr} {own : List Addr} (x : Loose c G wr) (hl : ∀ b ∈ wr, b < s.heap.objs.size) (st : Stp own G G' s s') : Loose c G' wr := fun b hb => ⟨st.new b (x b hb).1 (hl b hb), (x b hb).2⟩
theorem Loose.at {wr : List Addr} {L : Lc} (x : Loose c G wr) : Loose (c.at L) G wr := x
theorem Iter.step {I wr n items pair Hc St i} (X : Iter K I wr n items pair Hc St) (st : Stp c.own G G' s s') (hl : Loose c G wr) (hst : St i G s.heap) : St i G' s'.heap :=
  X.frame i G G' _ _ hst st.grow fun b hb o e => st.keep b o (hl b hb).1 (fun q => by
    rcases Cx.own_cases q with q | ⟨x, q⟩
    · exact (hl b hb).2.1 q
    · exact (hl b hb).2.2 x q) e

noncomputable def Stp.join {own wr : List Addr} {s1 s2 : Shared} {G1 G2 : Gh} (x : Stp wr G G1 s s1) (y : Stp own G1 G2 s1 s2) : Stp (wr ++ own) G G2 s s2 :=
  (x.sub fun a ha => List.mem_append_left _ ha).trans (y.sub fun a ha => List.mem_append_right _ ha)

/-- one turn's beginning: next, the owned tuple, the targets -/
theorem turn_begin {t : Expr} {I wr n items pair Hc St i} {L : Lc} {Q : Lc → Hp → Prop} (X : Iter K I wr n items pair Hc St) (hi : i < n) (hA : OkA c.d A) (R : Rel K (c.at L) h G s.heap) (hst : St i G s.heap) (hc : Hc h) (hl : Loose c G wr)
    (b : BindT K (c.at L) t pair (items i) h Q) :
    wpAny K.M A (pyNext (.ref I)) (fun r s1 => ∃ v, r = some v ∧ wpAny K.M A (letOwnedTupleGo t (.ref I) v) (fun _ s2 => wpAny K.M A (assign t c.env v) (fun _ s3 => PT (wr ++ c.own) G s s3 (fun L' => Rel K (c.at L')) (St (i + 1)) (fun G' => Loose c G' wr) Q) NoE s2) NoE s1) NoE s := by
  have hlive := X.live i G s.heap hst
  cases pair with
  | false =>
    obtain ⟨⟨x, p, rfl⟩, a, ea, b⟩ := b
    refine wpAny_mono (X.item1 rfl i (c.at L) A G s h hi hA.1 hst R hc hl) (fun r s1 ⟨v, y, G1, e1, e2, v1, x1, R1, st1⟩ => ?_) fun _ _ z => z
    subst e1
    rw [ea] at e2; cases e2
    have hl1 : Loose c G1 wr := hl.step hlive x1
    refine ⟨v, rfl, wpAny_pure (wpAny_mono (b A G1 s1 v hA R1 v1) (fun _ s3 zp => PL.use zp fun G2 L2 h2 x2 R2 q2 => ?_) fun _ _ z => z)⟩
    exact ⟨G2, L2, h2, Stp.join x1 x2, R2, X.step x2 hl1 st1, hl1.step (fun b hb => X.live _ _ _ st1 b hb) x2, q2⟩
  | true =>
    obtain ⟨elts, k, pos, rfl, hn, hs, b⟩ := b
    refine wpAny_mono (X.item2 rfl i (c.at L) A G s h hi hA.1 hst R hc hl) (fun r s1 ⟨T, e1, q⟩ => ?_) fun _ _ z => z
    subst e1
    refine ⟨_, rfl, wpAny_mono (q elts k pos) (fun _ s2 ⟨G2, vals, hT, hv, x2, R2, st2⟩ => ?_) fun _ _ z => z⟩
    have hl2 : Loose c G2 wr := hl.step hlive x2
    rw [arm_assign_Tuple]
    refine wpAny_bind (wpAny_standAt ?_)
    unfold unpack
    rw [hs]
    have hlen := hv.length
    refine wpAny_bind (wpAny_holding (wpAny_sz ?_))
    have e : (assignEach elts c.env).length = vals.size := by rw [hn, ← hlen]; simp
    rw [show (assignEach elts c.env).length = vals.size from e]
    refine wpAny_unpackItems_tuple hA.1 hT fun h' hx' hsz => ?_
    have st3 : Stp c.own G2 G2 s2 { s2 with heap := h' } := Stp.ext (t := s2.toks) hx' hsz
    have R3 : Rel K (c.at L) h G2 h' := R2.ext hx' hsz
    refine wpAny_mono (b A G2 { s2 with heap := h' } vals.toList hA R3 hv) (fun _ s4 zp => PL.use zp fun G4 L4 h4 x4 R4 q4 => ?_) fun _ _ z => z
    have x34 : Stp c.own G2 G4 s2 s4 := st3.trans x4
    exact ⟨G4, L4, h4, Stp.join x2 x34, R4, X.step x34 hl2 st2, hl2.step (fun b hb => X.live _ _ _ st2 b hb) x34, q4⟩

/-- the end of a turn -/
noncomputable def Trn0 (I : Lc → Hp → Prop) (Q : Fl → Lc → Hp → Prop) : Fl → Lc → Hp → Prop := fun f L h => match f with
  | .next | .cont => I L h
  | .brk => Q .next L h
  | .ret a => Q (.ret a) L h
/-- a for loop from turn i on -/
theorem for_loop {t : Expr} {body orelse : List Stmt} {I wr n items pair Hc St} {Q : Fl → Lc → Hp → Prop} (X : Iter K I wr n items pair Hc St) (Inv : Nat → Lc → Hp → Prop) (hHc : ∀ i L h, Inv i L h → Hc h)
    (turn : ∀ i L h, i < n → Inv i L h → BindT K (c.at L) t pair (items i) h fun L1 h1 => Exs K (c.at L1) body h1 (Trn0 (Inv (i + 1)) Q))
    (fin : ∀ L h, Inv n L h → Exs K (c.at L) orelse h Q) :
    ∀ (k i : Nat) (L : Lc) (h : Hp) (A : Around) (G : Gh) (s : Shared), n - i = k → i ≤ n → OkA c.d A → Rel K (c.at L) h G s.heap → St i G s.heap → Loose c G wr → Inv i L h →
      codeAny K.M A (.forLoop t (.ref I) body orelse c.env) (fun r s' => match r with | .ok f => PX (wr ++ c.own) G s s' (fun L' => Rel K (c.at L')) (fun G' fl => FR G' f fl) Q | .error _ => False) s := by
  intro k
  induction k with
  | zero =>
    intro i L h A G s hk hi hA R hst hl hinv
    have hin : i = n := by omega
    subst hin
    refine codeAny_of_tree ?_
    show wpAny _ A ((forTurn t (.ref I) body orelse c.env).onRaise (fun x => do noteFrame x c.env; theTreesLotGoes x)) _ _ s
    refine wpAny_noted ?_
    simp only [forTurn]
    refine wpAny_bind (wpAny_standAt (wpAny_bind (wpAny_onRaise (wpAny_mono (X.done (c.at L) A G s h hA.1 hst R (hHc _ _ _ hinv) hl) (fun r s1 ⟨G1, e1, x1, R1⟩ => ?_) fun _ _ z => z.elim))))
    subst e1
    refine wpAny_pure ⟨rfl, codeAny_block (wpAny_mono (fin L h hinv A G1 s1 hA R1) (fun f s2 zp => PX.use zp fun G2 fl L2 h2 x2 R2 v2 q2 => ?_) fun _ _ z => z.elim)⟩
    exact ⟨G2, fl, L2, h2, Stp.join x1 x2, R2, v2, q2⟩
  | succ k ih =>
    intro i L h A G s hk hi hA R hst hl hinv
    have hin : i < n := by omega
    refine codeAny_of_tree ?_
    show wpAny _ A ((forTurn t (.ref I) body orelse c.env).onRaise (fun x => do noteFrame x c.env; theTreesLotGoes x)) _ _ s
    refine wpAny_noted ?_
    simp only [forTurn]
    refine wpAny_bind (wpAny_standAt (wpAny_bind (wpAny_onRaise (wpAny_mono (turn_begin X hin hA R hst (hHc _ _ _ hinv) hl (turn i L h hin hinv)) (fun r s1 ⟨v, e, q⟩ => ?_) fun _ _ z => z.elim))))
    subst e
    refine wpAny_bind (wpAny_mono q (fun _ s2 q2 => wpAny_bind (wpAny_mono q2 (fun _ s3 ⟨G3, L3, h3, x3, R3, st3, l3, b3⟩ => ?_) fun _ _ z => z.elim)) fun _ _ z => z.elim)
    refine wpAny_bind (wpAny_mono (b3 A G3 s3 hA R3) (fun f s4 zp => PX.use zp fun G4 fl L4 h4 x4 R4 v4 q4 => ?_) fun _ _ z => z.elim)
    have x34 : Stp (wr ++ c.own) G3 G4 s3 s4 := x4.sub fun a ha => List.mem_append_right _ ha
    have again : Inv (i + 1) L4 h4 → codeAny K.M A (.forLoop t (.ref I) body orelse c.env) (fun r s' => match r with | .ok f => PX (wr ++ c.own) G s s' (fun L' => Rel K (c.at L')) (fun G' fl => FR G' f fl) Q | .error _ => False) s4 := fun w =>
      codeAny_mono (ih (i + 1) L4 h4 A G4 s4 (by omega) (by omega) hA R4 (X.step x4 l3 st3) (l3.step (fun b hb => X.live _ _ _ st3 b hb) x4) w) fun r s' p => by
        cases r with
        | ok f => obtain ⟨G5, fl, L5, h5, x5, r5, r6, r7⟩ := p; exact ⟨G5, fl, L5, h5, (x3.trans x34).trans x5, r5, r6, r7⟩
        | error e => exact p
    cases f <;> cases fl <;> try exact v4.elim
    · exact wpAny_pure ⟨rfl, again q4⟩
    · exact wpAny_pure ⟨G4, .next, L4, h4, x3.trans x34, R4, trivial, q4⟩
    · exact wpAny_pure ⟨rfl, again q4⟩
    · exact wpAny_pure ⟨G4, .ret _, L4, h4, x3.trans x34, R4, v4, q4⟩

/-- dropping fresh addresses from own -/
theorem Stp.dropFresh {own wr : List Addr} (x : Stp (wr ++ own) G' G'' s' s'') (y : Stp own G G' s s') (hf : ∀ b ∈ wr, s.heap.objs.size ≤ b) : Stp own G G'' s s'' :=
  ⟨y.grow.trans x.grow, fun a g hl => x.new a (y.new a g hl) (Nat.lt_of_lt_of_le hl y.size), Nat.le_trans y.size x.size,
   fun a o g ho e => x.keep a o (y.new a g (Heap.lt_size e)) (fun q => by
     rcases List.mem_append.mp q with q | q
     · exact absurd (Heap.lt_size e) (Nat.not_lt.mpr (hf a q))
     · exact ho q) (y.keep a o g ho e),
   fun a av o g e => x.keepV a av o (y.grow _ _ g) (y.keepV a av o g e), x.os.trans y.os, x.gens.trans y.gens⟩

theorem Loose.fresh {wr : List Addr} (R : Rel K c h G s.heap) (hf : ∀ b ∈ wr, G' b = none ∧ s.heap.objs.size ≤ b) : Loose c G' wr := fun b hb => by
  obtain ⟨h1, h2⟩ := hf b hb
  refine ⟨h1, fun q => ?_, fun x q => ?_⟩
  · have := (R.own1 _ c.own0).2; rw [← q] at this; exact absurd this (Nat.not_lt.mpr h2)
  · exact absurd (R.cell_lt q) (Nat.not_lt.mpr h2)

end
end Mine
end

section
open PySem PySem.W PySem.Calls PyProof.Rows
namespace Mine

/-- the list that a comprehension gathers in: tracked nowhere -/
noncomputable def Acc (c : Cx) (G : Gh) (hp : Heap) (D : Addr) (ys : List AV) : Prop :=
  Loose c G [D] ∧ ∃ vs n, hp.get? D = some { cls := .type "list", data := .seq vs n } ∧ VRs G vs.toList ys

section
variable {K : Bse} {c : Cx} {h : Hp} {G G' : Gh} {s s' s'' : Shared} {A : Around}

theorem Acc.step {own : List Addr} {D ys} (x : Acc c G s.heap D ys) (st : Stp own G G' s s') (hD : D ∉ own) : Acc c G' s'.heap D ys := by
  obtain ⟨hl, vs, n, ho, hv⟩ := x
  refine ⟨fun b hb => ?_, vs, n, st.keep D _ (hl D (List.mem_singleton.mpr rfl)).1 hD ho, hv.mono st.grow⟩
  have e := List.mem_singleton.mp hb
  subst e
  exact ⟨st.new b (hl b hb).1 (Heap.lt_size ho), (hl b hb).2⟩
theorem Acc.notOwn {D ys} (x : Acc c G s.heap D ys) : D ∉ c.own := fun q => by
  have := x.1 D (List.mem_singleton.mpr rfl)
  rcases Cx.own_cases q with q | ⟨y, q⟩
  · exact this.2.1 q
  · exact this.2.2 y q

theorem Rel.loose {hp hp' : Heap} {wr : List Addr} (R : Rel K c h G hp) (hl : Loose c G wr) (hk : ∀ b o, b ∉ wr → hp.get? b = some o → hp'.get? b = some o) (hsz : hp.objs.size ≤ hp'.objs.size) : Rel K c h G hp' :=
  R.keepT (fun b o hb e => hk b o (fun q => by
    obtain ⟨h1, h2, h3⟩ := hl b q
    rcases hb with hb | hb | ⟨x, hb⟩
    · exact hb h1
    · exact h2 hb
    · exact h3 x hb) e) hsz
theorem Stp.loose {wr : List Addr} {hp' : Heap} {t : Nat} (hk : ∀ b o, b ∉ wr → s.heap.get? b = some o → hp'.get? b = some o) (hn : ∀ b ∈ wr, G b = none) (hsz : s.heap.objs.size ≤ hp'.objs.size) :
    Stp wr G G s { s with heap := hp', toks := t } :=
  ⟨Grow.refl _, fun _ e _ => e, hsz, fun a o _ ha e => hk a o ha e, fun a av o g e => hk a o (fun q => by rw [hn a q] at g; cases g) e, rfl, rfl⟩

/-- the gathered list takes one more -/
theorem acc_append {D : Addr} {ys : List AV} {v : Value} {a : AV} (R : Rel K c h G s.heap) (x : Acc c G s.heap D ys) (hv : VR G v a) (hsz : ys.length ≤ sizeLine) {Q : Value → Shared → Prop}
    (hQ : ∀ s1, Stp [D] G G s s1 → Rel K c h G s1.heap → Acc c G s1.heap D (ys ++ [a]) → Q .none s1) : wpAny K.M A (call (.builtin "list.append") [.ref D, v]) Q NoE s := by
  obtain ⟨hl, vs, n, ho, hys⟩ := x
  have hlen := hys.length
  refine wpAny_list_append_plain (items := vs) ⟨n, ho⟩ (fun h' hl' hs' => ?_) (by rw [← Array.length_toList, hlen]; exact hsz)
  obtain ⟨n', ho'⟩ := hl'
  have hk : ∀ b o, b ∉ [D] → s.heap.get? b = some o → h'.get? b = some o := fun b o hb e => (hs'.2 b (fun q => hb (by rw [q]; exact List.mem_singleton.mpr rfl))).trans e
  refine hQ { s with heap := h' } (Stp.loose (t := s.toks) hk (fun b hb => (hl b hb).1) (Nat.le_of_eq hs'.1.symm)) (R.loose hl hk (Nat.le_of_eq hs'.1.symm)) ⟨hl, _, n', ho', ?_⟩
  rw [Array.toList_push]
  exact hys.append ⟨hv, trivial⟩

/-- the tests of a clause -/
noncomputable def Tests (K : Bse) (c : Cx) (ifs : List Expr) (h : Hp) (Q : Bool → Hp → Prop) : Prop :=
  match ifs with
  | [] => Q true h
  | [e] => It K c e h Q
  | _ => False

noncomputable def PostC (K : Bse) (c : Cx) (own : List Addr) (D : Addr) (G : Gh) (s : Shared) (Q : Lc → Hp → List AV → Prop) (s' : Shared) : Prop :=
  PC own G s s' (fun L' => Rel K (c.at L')) (fun G' hp ys => Acc c G' hp D ys) Q

/-- the tests as the comprehension runs them -/
theorem tests_run {ifs : List Expr} {Q : Bool → Hp → Prop} (x : Tests K c ifs h Q) (hA : OkA c.d A) (R : Rel K c h G s.heap) :
    wpAny K.M A (forIn ifs true fun e r => if r = true then do let ok ← isTrue e c.env (eval e c.env); pure (ForInStep.yield ok) else pure (ForInStep.yield r)) (PostB K c G s Q) NoE s := by
  match ifs, x with
  | [], x => exact wpAny_pure (PostB.now' R x)
  | [e], x =>
    rw [List.forIn_cons]
    refine wpAny_bind ?_
    rw [if_pos rfl]
    refine wpAny_bind (wpAny_mono (x A G s hA R) (fun b s1 p => wpAny_pure (wpAny_pure p)) fun _ _ z => z)

theorem compTurn_eq (elt : Expr) (gens : List Comprehension) (scope : Scope) (pos : Pos) (dp : Nat) (it acc : Value) (env : Env) (target iter : Expr) (ifs : List Expr) (hg : gens[dp]? = some ⟨target, iter, ifs, 0⟩) (hg' : gens[dp + 1]? = none) :
    compTurn (.ListComp elt gens scope pos) dp it acc env = (standAt iter.pos >>= fun _ => pyNext it >>= fun r => match r with
      | none => pure (.done .next)
      | some v => letOwnedTupleGo target it v >>= fun _ => assign target env v >>= fun _ =>
        (forIn ifs true fun e r => if r = true then do let ok ← isTrue e env (eval e env); pure (ForInStep.yield ok) else pure (ForInStep.yield r)) >>= fun ok =>
        (if ok = true then ((eval elt env >>= fun x => call (.builtin "list.append") [acc, x] >>= fun _ => pure ()) >>= fun _ => again (.compLoop (.ListComp elt gens scope pos) dp it acc env)) else again (.compLoop (.ListComp elt gens scope pos) dp it acc env))) := by
  unfold compTurn
  simp only [hg, hg', bne_self_eq_false, Bool.false_eq_true, if_false]
  rfl

theorem start_run {elt : Expr} {gens : List Comprehension} {scope : Scope} {pos : Pos} {dp : Nat} {it acc : Value} {env : Env} {target iter : Expr} {ifs : List Expr} (hg : gens[dp]? = some ⟨target, iter, ifs, 0⟩) {R : Result → Shared → Prop}
    (h0 : codeAny K.M A (.compLoop (.ListComp elt gens scope pos) dp it acc env) R s)
    (h1 : wpAny K.M A (pyIter it) (fun it' s' => codeAny K.M A (.compLoop (.ListComp elt gens scope pos) dp it' acc env) R s') NoE s) :
    codeAny K.M A (.compStart (.ListComp elt gens scope pos) dp it acc env) R s := by
  refine codeAny_of_tree ?_
  show wpAny _ _ ((compStart (.ListComp elt gens scope pos) dp it acc env).onRaise (fun x => do noteFrame x env; standAt theWindowsPlace)) _ _ s
  refine wpAny_notedAt ?_
  unfold compStart
  have e : (clausesOf (.ListComp elt gens scope pos))[dp]? = some ⟨target, iter, ifs, 0⟩ := hg
  simp only [e, Option.elim, bne_self_eq_false, Bool.false_eq_true, if_false]
  refine wpAny_bind (wpAny_askSetting ?_)
  refine wpAny_ite ?_
  split
  · exact wpAny_bind (wpAny_pure (wpAny_pure ⟨rfl, h0⟩))
  · exact wpAny_bind (wpAny_rule (wpAny_bind (wpAny_standAt (wpAny_bind (wpAny_mono h1 (fun it' s' h' => wpAny_pure ⟨rfl, h'⟩) fun _ _ z => z.elim)))))

/-- the turns of a comprehension's last clause -/
theorem comp_last {elt : Expr} {gens : List Comprehension} {scope : Scope} {pos : Pos} {dp : Nat} {t iter : Expr} {ifs : List Expr} (hg : gens[dp]? = some ⟨t, iter, ifs, 0⟩) (hg' : gens[dp + 1]? = none)
    {I D wr n items pair Hc St} (X : Iter K I wr n items pair Hc St) (hDw : D ∉ wr) (Inv : Nat → Lc → Hp → List AV → Prop) (hHc : ∀ i L h ys, Inv i L h ys → Hc h ∧ ys.length ≤ sizeLine)
    (turn : ∀ i L h ys, i < n → Inv i L h ys → BindT K (c.at L) t pair (items i) h fun L1 h1 => Tests K (c.at L1) ifs h1 fun ok h2 => if ok = true then Ev K (c.at L1) elt h2 fun a h3 => Inv (i + 1) L1 h3 (ys ++ [a]) else Inv (i + 1) L1 h2 ys) :
    ∀ (k i : Nat) (L : Lc) (h : Hp) (ys : List AV) (A : Around) (G : Gh) (s : Shared), n - i = k → i ≤ n → OkA c.d A → Rel K (c.at L) h G s.heap → St i G s.heap → Loose c G wr → Acc c G s.heap D ys → Inv i L h ys →
      codeAny K.M A (.compLoop (.ListComp elt gens scope pos) dp (.ref I) (.ref D) c.env) (fun r s' => match r with | .ok _ => PostC K c (D :: (wr ++ c.own)) D G s (fun L h ys => Inv n L h ys) s' | .error _ => False) s := by
  intro k
  induction k with
  | zero =>
    intro i L h ys A G s hk hi hA R hst hl ha hinv
    have hin : i = n := by omega
    subst hin
    refine codeAny_of_tree ?_
    show wpAny _ A ((compTurn (.ListComp elt gens scope pos) dp (.ref I) (.ref D) c.env).onRaise (fun x => do noteFrame x c.env; theTreesLotGoes x)) _ _ s
    refine wpAny_noted ?_
    rw [compTurn_eq _ _ _ _ _ _ _ _ _ _ _ hg hg']
    refine wpAny_bind (wpAny_standAt (wpAny_bind (wpAny_mono (X.done (c.at L) A G s h hA.1 hst R (hHc _ _ _ _ hinv).1 hl) (fun r s1 ⟨G1, e1, x1, R1⟩ => ?_) fun _ _ z => z.elim)))
    subst e1
    exact wpAny_pure ⟨G1, L, h, ys, x1.sub (fun a q => List.mem_cons_of_mem _ (List.mem_append_left _ q)), R1, ha.step x1 hDw, hinv⟩
  | succ k ih =>
    intro i L h ys A G s hk hi hA R hst hl ha hinv
    have hin : i < n := by omega
    refine codeAny_of_tree ?_
    show wpAny _ A ((compTurn (.ListComp elt gens scope pos) dp (.ref I) (.ref D) c.env).onRaise (fun x => do noteFrame x c.env; theTreesLotGoes x)) _ _ s
    refine wpAny_noted ?_
    rw [compTurn_eq _ _ _ _ _ _ _ _ _ _ _ hg hg']
    refine wpAny_bind (wpAny_standAt (wpAny_bind (wpAny_mono (turn_begin X hin hA R hst (hHc _ _ _ _ hinv).1 hl (turn i L h ys hin hinv)) (fun r s1 ⟨v, e, q⟩ => ?_) fun _ _ z => z.elim)))
    subst e
    refine wpAny_bind (wpAny_mono q (fun _ s2 q2 => wpAny_bind (wpAny_mono q2 (fun _ s3 ⟨G3, L3, h3, x3, R3, st3, l3, b3⟩ => ?_) fun _ _ z => z.elim)) fun _ _ z => z.elim)
    have hDo : D ∉ wr ++ c.own := fun q => (List.mem_append.mp q).elim hDw ha.notOwn
    have a3 := ha.step x3 hDo
    refine wpAny_bind (wpAny_mono (tests_run (c := c.at L3) b3 hA R3) (fun ok s4 zp => PB.use zp fun G4 h4 x4 R4 q4 => ?_) fun _ _ z => z.elim)
    have x4' : Stp (wr ++ c.own) G3 G4 s3 s4 := x4.sub fun a ha => List.mem_append_right _ ha
    have a4 := a3.step x4' hDo
    have l4 : Loose c G4 wr := l3.step (fun b hb => X.live _ _ _ st3 b hb) x4
    have st4 := X.step x4 l3 st3
    have again : ∀ G5 h5 ys5 s5, Stp (D :: (wr ++ c.own)) G4 G5 s4 s5 → Rel K (c.at L3) h5 G5 s5.heap → St (i + 1) G5 s5.heap → Loose c G5 wr → Acc c G5 s5.heap D ys5 → Inv (i + 1) L3 h5 ys5 →
        codeAny K.M A (.compLoop (.ListComp elt gens scope pos) dp (.ref I) (.ref D) c.env) (fun r s' => match r with | .ok _ => PostC K c (D :: (wr ++ c.own)) D G s (fun L h ys => Inv n L h ys) s' | .error _ => False) s5 := fun G5 h5 ys5 s5 x5 R5 st5 l5 a5 i5 =>
      codeAny_mono (ih (i + 1) L3 h5 ys5 A G5 s5 (by omega) (by omega) hA R5 st5 l5 a5 i5) fun r s' p => by
        cases r with
        | ok f =>
          obtain ⟨G6, L6, h6, ys6, x6, r6, r7, r8⟩ := p
          have x34 : Stp (D :: (wr ++ c.own)) G G4 s s4 := (x3.trans x4').sub fun a ha => List.mem_cons_of_mem _ ha
          exact ⟨G6, L6, h6, ys6, (x34.trans x5).trans x6, r6, r7, r8⟩
        | error e => exact p
    cases ok with
    | false =>
      rw [if_neg (by simp)]
      simp only [Bool.false_eq_true, if_false] at q4
      exact wpAny_pure ⟨rfl, again G4 h4 ys s4 (Stp.refl _ _ _) R4 st4 l4 a4 q4⟩
    | true =>
      rw [if_pos rfl]
      simp only [if_true] at q4
      refine wpAny_bind (wpAny_bind (wpAny_mono (q4 A G4 s4 hA R4) (fun v s5 zp => PE.use zp fun G5 a h5 x5 R5 v5 q5 => ?_) fun _ _ z => z.elim))
      have x5' : Stp (wr ++ c.own) G4 G5 s4 s5 := x5.sub fun a ha => List.mem_append_right _ ha
      have a5 := a4.step x5' hDo
      have l5 : Loose c G5 wr := l4.step (fun b hb => X.live _ _ _ st4 b hb) x5
      have st5 := X.step x5 l4 st4
      refine wpAny_bind (wpAny_mono (acc_append R5 a5 v5 (hHc _ _ _ _ hinv).2 (Q := fun w s6 => Stp [D] G5 G5 s5 s6 ∧ Rel K (c.at L3) h5 G5 s6.heap ∧ Acc c G5 s6.heap D (ys ++ [a])) fun s6 p1 p2 p3 => ⟨p1, p2, p3⟩) (fun w s6 ⟨x6, R6, a6⟩ => ?_) fun _ _ z => z.elim)
      refine wpAny_pure (wpAny_pure ⟨rfl, again G5 h5 (ys ++ [a]) s6 ?_ R6 ?_ l5 a6 q5⟩)
      · exact (x5'.sub fun a ha => List.mem_cons_of_mem _ ha).trans (x6.sub fun b hb => by rw [List.mem_singleton.mp hb]; exact List.mem_cons_self ..)
      · exact X.frame _ _ _ _ _ st5 (Grow.refl _) fun b hb o e => x6.keep b o (l5 b hb).1 (fun q => hDw (by rw [← List.mem_singleton.mp q]; exact hb)) e

theorem compTurn_eq2 (elt : Expr) (scope : Scope) (pos : Pos) (it acc : Value) (env : Env) (target iter : Expr) (ifs : List Expr) (t1 i1 : Expr) (ifs1 : List Expr) :
    compTurn (.ListComp elt [⟨target, iter, ifs, 0⟩, ⟨t1, i1, ifs1, 0⟩] scope pos) 0 it acc env = (standAt iter.pos >>= fun _ => pyNext it >>= fun r => match r with
      | none => pure (.done .next)
      | some v => letOwnedTupleGo target it v >>= fun _ => assign target env v >>= fun _ =>
        (forIn ifs true fun e r => if r = true then do let ok ← isTrue e env (eval e env); pure (ForInStep.yield ok) else pure (ForInStep.yield r)) >>= fun ok =>
        (if ok = true then (eval i1 env >>= fun x => standAt i1.pos >>= fun _ => foldedSetIterable i1 env x >>= fun x => holding [x] (pyIter x) >>= fun it' =>
          runOwn (.compStart (.ListComp elt [⟨target, iter, ifs, 0⟩, ⟨t1, i1, ifs1, 0⟩] scope pos) 1 it' acc env) env >>= fun _ => again (.compLoop (.ListComp elt [⟨target, iter, ifs, 0⟩, ⟨t1, i1, ifs1, 0⟩] scope pos) 0 it acc env))
          else again (.compLoop (.ListComp elt [⟨target, iter, ifs, 0⟩, ⟨t1, i1, ifs1, 0⟩] scope pos) 0 it acc env))) := by
  unfold compTurn
  simp only [List.getElem?_cons_zero, List.getElem?_cons_succ, bne_self_eq_false, Bool.false_eq_true, if_false]
  rfl
end

/-- what a comprehension's loop is to show -/
noncomputable def CompRuns (K : Bse) (cc : Cx) (e : Expr) (I D : Addr) (wr : List Addr) (St : Nat → Gh → Heap → Prop) (Fin : Lc → Hp → List AV → Prop) (h : Hp) : Prop :=
  ∀ A G s, OkA cc.d A → Rel K cc h G s.heap → St 0 G s.heap → Loose cc G wr → Acc cc G s.heap D [] →
    codeAny K.M A (.compLoop e 0 (.ref I) (.ref D) cc.env) (fun r s' => match r with | .ok _ => PostC K cc (D :: (wr ++ cc.own)) D G s Fin s' | .error _ => False) s

noncomputable def SubC (cells : List (Str × Addr)) : List (Str × Addr) → Prop
  | [] => True
  | (x, k) :: r => cells.lookup x = some k ∧ SubC cells r
/-- what a comprehension may read of the frame around it -/
noncomputable def Caps (c : Cx) (scope : Scope) (cl : List (Str × Addr)) : Lc → Prop
  | [] => True
  | (x, av) :: r => (c.L.lookup x = some av ∧ (c.env.kindOf x = some .cell ∨ c.env.kindOf x = some .free) ∧ ((relabel scope c.env).names.lookup x = some .cell ∨ (relabel scope c.env).names.lookup x = some .free) ∧ ∃ k, cl.lookup x = some k) ∧ Caps c scope cl r

@[reducible] def ccx (c : Cx) (scope : Scope) (cl : List (Str × Addr)) (Lcap : Lc) (C : Addr) : Cx := ⟨c.d, compEnvC scope cl C c.env, false, Lcap⟩

section
variable {K : Bse} {c : Cx} {h : Hp} {G G' : Gh} {s s' s'' : Shared} {A : Around}

theorem SubC.get {cells : List (Str × Addr)} : ∀ {cl : List (Str × Addr)}, SubC cells cl → ∀ {x k}, cl.lookup x = some k → cells.lookup x = some k
  | [], _, x, k, e => by simp at e
  | (y, k') :: r, ⟨h1, h2⟩, x, k, e => by
    by_cases q : x = y
    · subst q; simp only [List.lookup_cons, beq_self_eq_true] at e; cases e; exact h1
    · have : (x == y) = false := by simpa using q
      simp only [List.lookup_cons, this] at e
      exact h2.get e
theorem SubC.mem {cells : List (Str × Addr)} : ∀ {cl : List (Str × Addr)}, SubC cells cl → ∀ {x k}, (x, k) ∈ cl → cells.lookup x = some k
  | [], _, x, k, e => by cases e
  | (y, k') :: r, ⟨h1, h2⟩, x, k, e => by
    rcases List.mem_cons.mp e with e | e
    · cases e; exact h1
    · exact h2.mem e
theorem SubC.inj {cells : List (Str × Addr)} (hi : cells.Pairwise fun x y => x.2 ≠ y.2) : ∀ {cl : List (Str × Addr)}, SubC cells cl → (cl.map (·.1)).Nodup → cl.Pairwise fun x y => x.2 ≠ y.2
  | [], _, _ => .nil
  | (y, k') :: r, ⟨h1, h2⟩, hn => by
    simp only [List.map_cons, List.nodup_cons] at hn
    refine .cons (fun z hz q => ?_) (h2.inj hi hn.2)
    obtain ⟨z1, z2⟩ := z
    have hz2 := h2.mem hz
    have e : k' = z2 := q
    subst e
    have := name_of_addr hi (mem_of_lookup h1) (mem_of_lookup hz2)
    exact hn.1 (this ▸ List.mem_map.mpr ⟨(z1, k'), hz, rfl⟩)
theorem Caps.get {scope : Scope} {cl : List (Str × Addr)} : ∀ {Lc0 : Lc}, Caps c scope cl Lc0 → ∀ {x av}, Lc0.lookup x = some av → c.L.lookup x = some av ∧ (c.env.kindOf x = some .cell ∨ c.env.kindOf x = some .free) ∧ ((relabel scope c.env).names.lookup x = some .cell ∨ (relabel scope c.env).names.lookup x = some .free) ∧ ∃ k, cl.lookup x = some k
  | [], _, x, av, e => by simp at e
  | (y, a) :: r, ⟨h1, h2⟩, x, av, e => by
    by_cases q : x = y
    · subst q; simp only [List.lookup_cons, beq_self_eq_true] at e; cases e; exact h1
    · have : (x == y) = false := by simpa using q
      simp only [List.lookup_cons, this] at e
      exact h2.get e

/-- into the frame of a comprehension -/
theorem Rel.comp {scope : Scope} {cl : List (Str × Addr)} {Lcap : Lc} {C : Addr} {hp' : Heap} (R : Rel K c h G s.heap) (hcap : Caps c scope cl Lcap) (hsub : SubC c.env.cells cl) (hnd : (cl.map (·.1)).Nodup) (hkind : scope.kind = .function)
    (hk : ∀ b o, s.heap.get? b = some o → hp'.get? b = some o) (hsz : s.heap.objs.size ≤ hp'.objs.size) {m : Str → Option Value} (hn : hp'.Ns C m) (hC : s.heap.objs.size ≤ C) : Rel K (ccx c scope cl Lcap C) h G hp' where
  cells := (R.keep hk hsz).cells
  bound := R.bound
  inj := R.inj
  live := R.live
  base := R.base
  tabs := R.tabs
  kind := hkind
  glob := R.glob
  ns := by
    refine ⟨m, hn, fun x av e => ?_⟩
    obtain ⟨h1, h2, h3, k, h4⟩ := hcap.get e
    obtain ⟨m0, hn0, hb⟩ := R.ns
    obtain ⟨v, hv, ⟨q, _⟩ | ⟨_, k', hk', hcell⟩⟩ := hb x av h1
    · rw [q] at h2; rcases h2 with h2 | h2 <;> cases h2
    · have e1 := hsub.get h4
      rw [hk'] at e1; cases e1
      exact ⟨v, hv, .inr ⟨h3, k, h4, hcell.keeps hk⟩⟩
  own1 a ha := by
    have : a = C := by
      rcases List.mem_cons.mp ha with q | q
      · exact q
      · simp at q
    subst this
    exact ⟨R.none_of_ge hC, hn.lt⟩
  cell x k e := by
    have e1 := hsub.get e
    obtain ⟨p, q, w, r⟩ := R.cell x k e1
    refine ⟨fun z => ?_, q, w, r.keeps hk⟩
    have := R.cell_lt e1
    rw [show k = C from z] at this
    exact absurd this (Nat.not_lt.mpr hC)
  cellInj := hsub.inj R.cellInj hnd

theorem Rel.back' {c2 : Cx} {h' : Hp} {own : List Addr} (R : Rel K c h G s.heap) (y : Rel K c2 h' G' s'.heap) (st : Stp own G G' s s') (hl : ∀ b ∈ own, b ≠ c.env.locals ∧ ∀ x, c.env.cells.lookup x ≠ some b) : Rel K c h' G' s'.heap where
  cells := y.cells
  bound := y.bound
  inj := y.inj
  live := y.live
  base := y.base
  tabs := y.tabs
  kind := R.kind
  glob := R.glob
  ns := by
    obtain ⟨m, hn, hb⟩ := R.ns
    refine ⟨m, hn.at' fun o e => st.keep _ o (R.own1 _ c.own0).1 (fun z => (hl _ z).1 rfl) e, fun x av e => ?_⟩
    obtain ⟨v, hv, h1 | ⟨h2, k, hk, o, ho, hd⟩⟩ := hb x av e
    · exact ⟨v, hv.mono st.grow, .inl h1⟩
    · exact ⟨v, hv.mono st.grow, .inr ⟨h2, k, hk, o, st.cellKeep (R.cell x k hk).2.1 (fun z => (hl _ z).2 x hk) ho, hd⟩⟩
  own1 a ha := ⟨st.new a (R.own1 a ha).1 (R.own1 a ha).2, Nat.lt_of_lt_of_le (R.own1 a ha).2 st.size⟩
  cell x k e := by
    obtain ⟨p, q, w, o, ho, hd⟩ := R.cell x k e
    exact ⟨p, st.cellG q (R.cell_lt e), w, o, st.cellKeep q (fun z => (hl _ z).2 x e) ho, hd⟩
  cellInj := R.cellInj

/-- the gathered list is done -/
theorem Rel.freeze {D ys} (R : Rel K c h G s.heap) (x : Acc c G s.heap D ys) : Rel K c h (Gput G D (.val (.list ys))) s.heap := by
  obtain ⟨hl, vs, n, ho, hys⟩ := x
  obtain ⟨h1, h2, h3⟩ := hl D (List.mem_singleton.mpr rfl)
  refine R.put h1 (fun q => ?_) (fun x k e q => h3 x (q ▸ e)) ho (g := .val (.list ys)) ⟨vs, n, rfl, hys.mono (Gput_grow h1)⟩ (fun _ _ => trivial) (fun _ _ _ _ _ x => x) ?_ ?_ ?_
  · rcases Cx.own_cases q with q | ⟨y, q⟩
    · exact h2 q
    · exact h3 y q
  · obtain ⟨n, hb⟩ := R.bound
    refine ⟨n, fun b l e => ?_⟩
    by_cases q : b = D
    · subst q; rw [Gput_self] at e; cases e
    · rw [Gput_ne _ _ q] at e; exact hb b l e
  · intro b b' l e e'
    by_cases q : b = D
    · subst q; rw [Gput_self] at e; cases e
    · by_cases q' : b' = D
      · subst q'; rw [Gput_self] at e'; cases e'
      · rw [Gput_ne _ _ q] at e; rw [Gput_ne _ _ q'] at e'; exact R.inj b b' l e e'
  · intro l o e
    obtain ⟨b, hb⟩ := R.live l o e
    exact ⟨b, Gput_grow h1 _ _ hb⟩
theorem Stp.late {own : List Addr} {D : Addr} {g : GC} (x : Stp own G G' s s') (hD : s.heap.objs.size ≤ D) (hn : G' D = none) : Stp own G (Gput G' D g) s s' :=
  ⟨x.grow.trans (Gput_grow hn), fun a h1 h2 => by rw [Gput_ne]; exact x.new a h1 h2; rintro rfl; exact absurd h2 (Nat.not_lt.mpr hD), x.size, x.keep, x.keepV, x.os, x.gens⟩

/-- the shell of a list comprehension -/
theorem comp_core {e : Expr} {elt t iter : Expr} {ifs : List Expr} {rest : List Comprehension} {scope : Scope} {pos : Pos} {cl : List (Str × Addr)} {Lcap : Lc} {I wr n items pair Hc St} {Fin : Lc → Hp → List AV → Prop}
    (he : e = .ListComp elt (⟨t, iter, ifs, 0⟩ :: rest) scope pos) (X : Iter K I wr n items pair Hc St)
    (hcap : Caps c scope cl Lcap) (hsub : SubC c.env.cells cl) (hnd : (cl.map (·.1)).Nodup) (hkind : scope.kind = .function) (hcell : ∀ y ∈ scope.names, y.2 ≠ .cell)
    (hrun : ∀ C D, D ∉ wr → CompRuns K (ccx c scope cl Lcap C) e I D wr St Fin h) (hA : OkA c.d A) (R : Rel K c h G s.heap) (hst : St 0 G s.heap) (hl : Loose c G wr) {RR : Value → Addr → Result → Shared → Prop}
    (hRR : ∀ D C f s5 G5 L5 h5 ys, s.heap.objs.size ≤ D → s.heap.objs.size ≤ C → D ≠ C → Stp (D :: (wr ++ [C])) G G5 s s5 → Rel K c h5 G5 s5.heap → Acc c G5 s5.heap D ys → (∃ m, s5.heap.Ns C m) → G5 C = none → Fin L5 h5 ys → RR (.ref D) C (.ok f) s5) :
    wpAny K.M A (newList []) (fun acc s₃ => wpAny K.M A (newFunctionEnv scope c.env.globals cl [] c.env.qual none .none (some c.env)) (fun cenv s₄ =>
      codeAny K.M A (.compStart e 0 (.ref I) acc { cenv with scope := relabel scope c.env }) (RR acc cenv.locals) s₄) NoE s₃) NoE s := by
  refine wpAny_newObj_type (wpAny_newFunctionEnv hcell (by intro y hy; simp at hy) (fun h₁ hns₁ hsb₁ => ?_) hkind)
  dsimp only at hns₁ hsb₁ ⊢
  generalize hH2 : s.heap.push { cls := .type "list", dict := none, data := .seq ([] : List Value).toArray } = H2 at hns₁ hsb₁ ⊢
  have hC : H2.objs.size = s.heap.objs.size + 1 := by rw [← hH2, Heap.size_push]
  have hDC : s.heap.objs.size ≠ H2.objs.size := by rw [hC]; exact Nat.ne_of_lt (Nat.lt_succ_self _)
  have hCle : s.heap.objs.size ≤ H2.objs.size := by rw [hC]; exact Nat.le_succ _
  have old : ∀ b o, s.heap.get? b = some o → h₁.get? b = some o := fun b o e => hsb₁.extBut b o (by rw [hC]; exact Nat.ne_of_lt (Nat.lt_succ_of_lt (Heap.lt_size e))) (Heap.get?_push_of_some _ (hH2 ▸ Heap.get?_push_of_some _ e))
  have hacc : h₁.get? s.heap.objs.size = some { cls := .type "list", data := .seq #[] } := hsb₁.extBut _ _ hDC (Heap.get?_push_of_some _ (hH2 ▸ Heap.get?_push_size _ rfl))
  have hsz1 : s.heap.objs.size ≤ h₁.objs.size := by have := hsb₁.1; rw [Heap.size_push] at this; rw [this]; exact Nat.le_succ_of_le hCle
  have hDw : s.heap.objs.size ∉ wr := fun q => absurd (X.live _ _ _ hst _ q) (Nat.lt_irrefl _)
  have hGD : G s.heap.objs.size = none := R.none_of_ge (Nat.le_refl _)
  have st1 : ∀ t, Stp (s.heap.objs.size :: (wr ++ [H2.objs.size])) G G s { s with heap := h₁, toks := t } := fun t => (Stp.heap (own := []) old hsz1).sub fun _ q => nomatch q
  have R1 : Rel K (ccx c scope cl Lcap H2.objs.size) h G h₁ := R.comp hcap hsub hnd hkind old hsz1 hns₁ hCle
  have hlc : Loose (ccx c scope cl Lcap H2.objs.size) G wr := fun b hb => ⟨(hl b hb).1, fun q => absurd (X.live _ _ _ hst b hb) (Nat.not_lt.mpr (by rw [show b = H2.objs.size from q]; exact hCle)), fun x q => (hl b hb).2.2 x (hsub.get q)⟩
  have hac : Acc (ccx c scope cl Lcap H2.objs.size) G h₁ s.heap.objs.size [] := ⟨fun b hb => by
    rw [List.mem_singleton.mp hb]
    exact ⟨hGD, hDC, fun x q => absurd (R.cell_lt (hsub.get q)) (Nat.lt_irrefl _)⟩, _, _, hacc, trivial⟩
  have hst1 : ∀ t, St 0 G ({ s with heap := h₁, toks := t } : Shared).heap := fun t => X.frame _ _ _ _ _ hst (Grow.refl _) fun b _ o e => old b o e
  have run : ∀ t, codeAny K.M A (.compLoop e 0 (.ref I) (.ref s.heap.objs.size) (ccx c scope cl Lcap H2.objs.size).env) (RR (.ref s.heap.objs.size) H2.objs.size) { s with heap := h₁, toks := t } := fun t =>
    codeAny_mono (hrun H2.objs.size s.heap.objs.size hDw A G { s with heap := h₁, toks := t } hA R1 (hst1 t) hlc hac) fun r s5 p => by
      cases r with
      | error e => exact p.elim
      | ok f =>
        obtain ⟨G5, L5, h5, ys, x5, R5, a5, q5⟩ := p
        have xall : Stp (s.heap.objs.size :: (wr ++ [H2.objs.size])) G G5 s s5 := (st1 t).trans (x5.sub fun b hb => by
          rcases List.mem_cons.mp hb with q | hb
          · rw [q]; exact List.mem_cons_self ..
          · rcases List.mem_append.mp hb with q | q
            · exact List.mem_cons_of_mem _ (List.mem_append_left _ q)
            · exact List.mem_cons_of_mem _ (List.mem_append_right _ (List.mem_singleton.mpr (by
                rcases List.mem_cons.mp q with q | q
                · exact q
                · simp at q))))
        have Rb : Rel K c h5 G5 s5.heap := R.back' R5 xall fun b hb => by
          rcases List.mem_cons.mp hb with q | hb
          · rw [q]; exact ⟨fun w => by have := (R.own1 _ c.own0).2; rw [← w] at this; exact Nat.lt_irrefl _ this, fun x w => absurd (R.cell_lt w) (Nat.lt_irrefl _)⟩
          · rcases List.mem_append.mp hb with q | q
            · exact (hl b q).2
            · rw [List.mem_singleton.mp q]
              exact ⟨fun w => by have := (R.own1 _ c.own0).2; rw [← w] at this; exact absurd this (Nat.not_lt.mpr hCle), fun x w => absurd (R.cell_lt w) (Nat.not_lt.mpr hCle)⟩
        have aD : Acc c G5 s5.heap s.heap.objs.size ys := ⟨fun b hb => by
          rw [List.mem_singleton.mp hb]
          exact ⟨(a5.1 _ (List.mem_singleton.mpr rfl)).1, fun w => by have := (R.own1 _ c.own0).2; rw [← w] at this; exact Nat.lt_irrefl _ this, fun x w => absurd (R.cell_lt w) (Nat.lt_irrefl _)⟩, a5.2⟩
        exact hRR _ _ f s5 G5 L5 h5 ys (Nat.le_refl _) hCle hDC xall Rb aD (let ⟨m, hn, _⟩ := R5.ns; ⟨m, hn⟩) (R5.own1 _ (Cx.own0 _)).1 q5
  subst he
  exact start_run rfl (run _) (X.self 0 A G _ _ (hst1 _) (run _))

end
end Mine
end

section
open PySem PySem.W PySem.Calls PyProof.Rows
namespace Mine
section
variable {K : Bse} {c : Cx} {h : Hp} {G G' : Gh} {s s' s'' : Shared} {A : Around}

theorem CompRuns.last {cc : Cx} {elt t iter : Expr} {ifs : List Expr} {scope : Scope} {pos : Pos} {I D wr n items pair Hc St} (X : Iter K I wr n items pair Hc St) (hDw : D ∉ wr) (Inv : Nat → Lc → Hp → List AV → Prop) (hHc : ∀ i L h ys, Inv i L h ys → Hc h ∧ ys.length ≤ sizeLine)
    (turn : ∀ i L h ys, i < n → Inv i L h ys → BindT K (cc.at L) t pair (items i) h fun L1 h1 => Tests K (cc.at L1) ifs h1 fun ok h2 => if ok = true then Ev K (cc.at L1) elt h2 fun a h3 => Inv (i + 1) L1 h3 (ys ++ [a]) else Inv (i + 1) L1 h2 ys)
    (h0 : Inv 0 cc.L h []) : CompRuns K cc (.ListComp elt [⟨t, iter, ifs, 0⟩] scope pos) I D wr St (fun L h ys => Inv n L h ys) h := fun A G s hA R hst hl ha =>
  comp_last rfl rfl X hDw Inv hHc turn n 0 cc.L h [] A G s rfl (Nat.zero_le _) hA R hst hl ha h0

/-- the turns of the first of two clauses -/
theorem comp_two {elt : Expr} {scope : Scope} {pos : Pos} {t iter : Expr} {ifs : List Expr} {t1 i1 : Expr} {ifs1 : List Expr}
    {I D wr n items pair Hc St} (X : Iter K I wr n items pair Hc St) (hDw : D ∉ wr) (Inv : Nat → Lc → Hp → List AV → Prop) (hHc : ∀ i L h ys, Inv i L h ys → Hc h)
    (turn : ∀ i L h ys, i < n → Inv i L h ys → BindT K (c.at L) t pair (items i) h fun L1 h1 => Tests K (c.at L1) ifs h1 fun ok h2 => if ok = true then
      EvI K (c.at L1) i1 h2 (fun n1 items1 pair1 Hc1 h3 => ∃ Inv1 : Nat → Lc → Hp → List AV → Prop, (∀ i L h ys, Inv1 i L h ys → Hc1 h ∧ ys.length ≤ sizeLine) ∧
        (∀ i L h ys, i < n1 → Inv1 i L h ys → BindT K (c.at L) t1 pair1 (items1 i) h fun L1 h1 => Tests K (c.at L1) ifs1 h1 fun ok h2 => if ok = true then Ev K (c.at L1) elt h2 fun a h3 => Inv1 (i + 1) L1 h3 (ys ++ [a]) else Inv1 (i + 1) L1 h2 ys) ∧
        Inv1 0 L1 h3 ys ∧ ∀ L h ys, Inv1 n1 L h ys → Inv (i + 1) L h ys) else Inv (i + 1) L1 h2 ys)
    (hs1 : ∀ x, foldedSetIterable i1 c.env x = pure x) :
    ∀ (k i : Nat) (L : Lc) (h : Hp) (ys : List AV) (A : Around) (G : Gh) (s : Shared), n - i = k → i ≤ n → OkA c.d A → Rel K (c.at L) h G s.heap → St i G s.heap → Loose c G wr → Acc c G s.heap D ys → Inv i L h ys →
      codeAny K.M A (.compLoop (.ListComp elt [⟨t, iter, ifs, 0⟩, ⟨t1, i1, ifs1, 0⟩] scope pos) 0 (.ref I) (.ref D) c.env) (fun r s' => match r with | .ok _ => PostC K c (D :: (wr ++ c.own)) D G s (fun L h ys => Inv n L h ys) s' | .error _ => False) s := by
  intro k
  induction k with
  | zero =>
    intro i L h ys A G s hk hi hA R hst hl ha hinv
    have hin : i = n := by omega
    subst hin
    refine codeAny_of_tree ?_
    show wpAny _ A ((compTurn (.ListComp elt [⟨t, iter, ifs, 0⟩, ⟨t1, i1, ifs1, 0⟩] scope pos) 0 (.ref I) (.ref D) c.env).onRaise (fun x => do noteFrame x c.env; theTreesLotGoes x)) _ _ s
    refine wpAny_noted ?_
    rw [compTurn_eq2]
    refine wpAny_bind (wpAny_standAt (wpAny_bind (wpAny_mono (X.done (c.at L) A G s h hA.1 hst R (hHc _ _ _ _ hinv) hl) (fun r s1 ⟨G1, e1, x1, R1⟩ => ?_) fun _ _ z => z.elim)))
    subst e1
    exact wpAny_pure ⟨G1, L, h, ys, x1.sub (fun a q => List.mem_cons_of_mem _ (List.mem_append_left _ q)), R1, ha.step x1 hDw, hinv⟩
  | succ k ih =>
    intro i L h ys A G s hk hi hA R hst hl ha hinv
    have hin : i < n := by omega
    refine codeAny_of_tree ?_
    show wpAny _ A ((compTurn (.ListComp elt [⟨t, iter, ifs, 0⟩, ⟨t1, i1, ifs1, 0⟩] scope pos) 0 (.ref I) (.ref D) c.env).onRaise (fun x => do noteFrame x c.env; theTreesLotGoes x)) _ _ s
    refine wpAny_noted ?_
    rw [compTurn_eq2]
    refine wpAny_bind (wpAny_standAt (wpAny_bind (wpAny_mono (turn_begin X hin hA R hst (hHc _ _ _ _ hinv) hl (turn i L h ys hin hinv)) (fun r s1 ⟨v, e, q⟩ => ?_) fun _ _ z => z.elim)))
    subst e
    refine wpAny_bind (wpAny_mono q (fun _ s2 q2 => wpAny_bind (wpAny_mono q2 (fun _ s3 ⟨G3, L3, h3, x3, R3, st3, l3, b3⟩ => ?_) fun _ _ z => z.elim)) fun _ _ z => z.elim)
    have hDo : D ∉ wr ++ c.own := fun q => (List.mem_append.mp q).elim hDw ha.notOwn
    have a3 := ha.step x3 hDo
    refine wpAny_bind (wpAny_mono (tests_run (c := c.at L3) b3 hA R3) (fun ok s4 zp => PB.use zp fun G4 h4 x4 R4 q4 => ?_) fun _ _ z => z.elim)
    have x4' : Stp (wr ++ c.own) G3 G4 s3 s4 := x4.sub fun a ha => List.mem_append_right _ ha
    have a4 := a3.step x4' hDo
    have l4 : Loose c G4 wr := l3.step (fun b hb => X.live _ _ _ st3 b hb) x4
    have st4 := X.step x4 l3 st3
    have again : ∀ G5 L5 h5 ys5 s5, Stp (D :: (wr ++ c.own)) G4 G5 s4 s5 → Rel K (c.at L5) h5 G5 s5.heap → St (i + 1) G5 s5.heap → Loose c G5 wr → Acc c G5 s5.heap D ys5 → Inv (i + 1) L5 h5 ys5 →
        codeAny K.M A (.compLoop (.ListComp elt [⟨t, iter, ifs, 0⟩, ⟨t1, i1, ifs1, 0⟩] scope pos) 0 (.ref I) (.ref D) c.env) (fun r s' => match r with | .ok _ => PostC K c (D :: (wr ++ c.own)) D G s (fun L h ys => Inv n L h ys) s' | .error _ => False) s5 := fun G5 L5 h5 ys5 s5 x5 R5 st5 l5 a5 i5 =>
      codeAny_mono (ih (i + 1) L5 h5 ys5 A G5 s5 (by omega) (by omega) hA R5 st5 l5 a5 i5) fun r s' p => by
        cases r with
        | ok f =>
          obtain ⟨G6, L6, h6, ys6, x6, r6, r7, r8⟩ := p
          have x34 : Stp (D :: (wr ++ c.own)) G G4 s s4 := (x3.trans x4').sub fun a ha => List.mem_cons_of_mem _ ha
          exact ⟨G6, L6, h6, ys6, (x34.trans x5).trans x6, r6, r7, r8⟩
        | error e => exact p
    cases ok with
    | false =>
      rw [if_neg (by simp)]
      simp only [Bool.false_eq_true, if_false] at q4
      exact wpAny_pure ⟨rfl, again G4 L3 h4 ys s4 (Stp.refl _ _ _) R4 st4 l4 a4 q4⟩
    | true =>
      rw [if_pos rfl]
      simp only [if_true] at q4
      refine wpAny_bind (wpAny_mono (q4 A G4 s4 hA R4) (fun xv s5 q5 => wpAny_bind (wpAny_standAt (wpAny_bind (wpAny_of_eq (hs1 _) (wpAny_bind (wpAny_holding (wpAny_mono q5 (fun it s6 q6 => ?_) fun _ _ z => z.elim))))))) fun _ _ z => z.elim)
      obtain ⟨I1, wr1, n1, items1, pair1, Hc1, St1, G6, h6, rfl, X1, x6, R6, st6, hf6, Inv1, hHc1, turn1, h01, hfin⟩ := q6
      have x6' : Stp (wr ++ c.own) G4 G6 s4 s6 := x6.sub fun a ha => List.mem_append_right _ ha
      have a6 := a4.step x6' hDo
      have l6 : Loose c G6 wr := l4.step (fun b hb => X.live _ _ _ st4 b hb) x6
      have st6' := X.step x6 l4 st4
      have hl1 : Loose c G6 wr1 := Loose.fresh (c := c.at L3) R4 hf6
      have hDw1 : D ∉ wr1 := fun q => by
        obtain ⟨_, vs, n', hDo', _⟩ := a4
        exact absurd (Heap.lt_size hDo') (Nat.not_lt.mpr (hf6 D q).2)
      have inner := comp_last (c := c) (K := K) (elt := elt) (gens := [⟨t, iter, ifs, 0⟩, ⟨t1, i1, ifs1, 0⟩]) (scope := scope) (pos := pos) (dp := 1) rfl rfl X1 hDw1 Inv1 hHc1 turn1 n1 0 L3 h6 ys A G6
      have run : codeAny K.M A (.compLoop (.ListComp elt [⟨t, iter, ifs, 0⟩, ⟨t1, i1, ifs1, 0⟩] scope pos) 1 (.ref I1) (.ref D) c.env) (fun r s' => match r with | .ok _ => PostC K c (D :: (wr1 ++ c.own)) D G6 s6 (fun L h ys => Inv1 n1 L h ys) s' | .error _ => False) s6 :=
        inner s6 rfl (Nat.zero_le _) hA R6 st6 hl1 a6 h01
      refine wpAny_bind (wpAny_runOwn (codeAny_mono (start_run (gens := [⟨t, iter, ifs, 0⟩, ⟨t1, i1, ifs1, 0⟩]) (dp := 1) rfl run (X1.self 0 A G6 s6 _ st6 run)) fun r s7 p => ?_))
      cases r with
      | error e => exact p.elim
      | ok f =>
        obtain ⟨G7, L7, h7, ys7, x7, R7, a7, q7⟩ := p
        -- wr1 is fresh since s4
        have x7w : Stp (wr1 ++ (D :: (wr ++ c.own))) G6 G7 s6 s7 := x7.sub fun b hb => by
          rcases List.mem_cons.mp hb with q | hb
          · exact List.mem_append_right _ (by rw [q]; exact List.mem_cons_self ..)
          · rcases List.mem_append.mp hb with q | q
            · exact List.mem_append_left _ q
            · exact List.mem_append_right _ (List.mem_cons_of_mem _ (List.mem_append_right _ q))
        have x47 : Stp (D :: (wr ++ c.own)) G4 G7 s4 s7 := Stp.dropFresh x7w (x6'.sub fun b hb => List.mem_cons_of_mem _ hb) fun b hb => (hf6 b hb).2
        have hww : ∀ b ∈ wr, b ∉ D :: (wr1 ++ c.own) := fun b hb q => by
          rcases List.mem_cons.mp q with q | q
          · exact hDw (q ▸ hb)
          · rcases List.mem_append.mp q with q | q
            · exact absurd (X.live _ _ _ st4 b hb) (Nat.not_lt.mpr (hf6 b q).2)
            · rcases Cx.own_cases q with q | ⟨z, q⟩
              · exact (l6 b hb).2.1 q
              · exact (l6 b hb).2.2 z q
        have st7 : St (i + 1) G7 s7.heap := X.frame _ _ _ _ _ st6' x7.grow fun b hb o e => x7.keep b o (l6 b hb).1 (hww b hb) e
        have l7 : Loose c G7 wr := l6.step (fun b hb => X.live _ _ _ st6' b hb) x7
        exact wpAny_pure ⟨rfl, again G7 L7 h7 ys7 s7 x47 R7 st7 l7 a7 (hfin _ _ _ q7)⟩

theorem CompRuns.two {cc : Cx} {elt : Expr} {scope : Scope} {pos : Pos} {t iter : Expr} {ifs : List Expr} {t1 i1 : Expr} {ifs1 : List Expr}
    {I D wr n items pair Hc St} (X : Iter K I wr n items pair Hc St) (hDw : D ∉ wr) (Inv : Nat → Lc → Hp → List AV → Prop) (hHc : ∀ i L h ys, Inv i L h ys → Hc h)
    (turn : ∀ i L h ys, i < n → Inv i L h ys → BindT K (cc.at L) t pair (items i) h fun L1 h1 => Tests K (cc.at L1) ifs h1 fun ok h2 => if ok = true then
      EvI K (cc.at L1) i1 h2 (fun n1 items1 pair1 Hc1 h3 => ∃ Inv1 : Nat → Lc → Hp → List AV → Prop, (∀ i L h ys, Inv1 i L h ys → Hc1 h ∧ ys.length ≤ sizeLine) ∧
        (∀ i L h ys, i < n1 → Inv1 i L h ys → BindT K (cc.at L) t1 pair1 (items1 i) h fun L1 h1 => Tests K (cc.at L1) ifs1 h1 fun ok h2 => if ok = true then Ev K (cc.at L1) elt h2 fun a h3 => Inv1 (i + 1) L1 h3 (ys ++ [a]) else Inv1 (i + 1) L1 h2 ys) ∧
        Inv1 0 L1 h3 ys ∧ ∀ L h ys, Inv1 n1 L h ys → Inv (i + 1) L h ys) else Inv (i + 1) L1 h2 ys)
    (hs1 : ∀ x, foldedSetIterable i1 cc.env x = pure x) (h0 : Inv 0 cc.L h []) : CompRuns K cc (.ListComp elt [⟨t, iter, ifs, 0⟩, ⟨t1, i1, ifs1, 0⟩] scope pos) I D wr St (fun L h ys => Inv n L h ys) h := fun A G s hA R hst hl ha =>
  comp_two X hDw Inv hHc turn hs1 n 0 cc.L h [] A G s rfl (Nat.zero_le _) hA R hst hl ha h0
end
end Mine
end

section
open PySem PySem.W PySem.Calls PyProof.Rows
namespace Mine

noncomputable def readL (h : Hp) : AV → Option (List AV)
  | .list xs => some xs
  | .obj l => match h l with | some (.list xs) => some xs | _ => none
  | _ => none

section
variable {K : Bse} {c : Cx} {h : Hp} {G G' : Gh} {s s' s'' : Shared} {A : Around}

theorem Rel.listAt {hp : Heap} {av : AV} {xs : List AV} {v : Value} (R : Rel K c h G hp) (hr : readL h av = some xs) (hv : VR G v av) : SeqR G hp (.type "list") xs v := by
  cases av with
  | list ys =>
    simp only [readL, Option.some.injEq] at hr
    subst hr
    obtain ⟨a, rfl, hg⟩ := hv
    obtain ⟨o, ho, vs, n, rfl, hx⟩ := R.cells _ _ hg
    exact ⟨a, vs, n, ho, hx⟩
  | obj l =>
    obtain ⟨a, rfl, hg⟩ := hv
    obtain ⟨o, ho, hs⟩ := R.cells _ _ hg
    simp only [readL] at hr
    simp only [Sat] at hs
    split at hr
    · rename_i ys e
      cases hr
      rw [e] at hs
      obtain ⟨vs, n, rfl, hx⟩ := hs
      exact ⟨a, vs, n, ho, hx⟩
    · cases hr
  | none => simp [readL] at hr
  | bool _ => simp [readL] at hr
  | int _ => simp [readL] at hr
  | str _ => simp [readL] at hr
  | raw _ => simp [readL] at hr
  | tup _ => simp [readL] at hr
  | attrs _ => simp [readL] at hr
  | dict _ => simp [readL] at hr
  | inst _ _ => simp [readL] at hr
  | range _ _ _ => simp [readL] at hr
  | bnd _ _ => simp [readL] at hr
  | cell _ => simp [readL] at hr

theorem one_ne {b I : Addr} (h : b ∉ [I]) : b ≠ I := fun q => h (List.mem_singleton.mpr q)
theorem Stp.one {I : Addr} {hp' : Heap} {t : Nat} (hs : Heap.SameBut I s.heap hp') (hn : G I = none) : Stp [I] G G s { s with heap := hp', toks := t } :=
  Stp.loose (fun b o hb e => (hs.2 b (one_ne hb)).trans e) (fun b hb => by rw [List.mem_singleton.mp hb]; exact hn) (Nat.le_of_eq hs.1.symm)
theorem Rel.one {I : Addr} {hp hp' : Heap} (R : Rel K c h G hp) (hs : Heap.SameBut I hp hp') (hl : Loose c G [I]) : Rel K c h G hp' :=
  R.loose hl (fun b o hb e => (hs.2 b (one_ne hb)).trans e) (Nat.le_of_eq hs.1.symm)
theorem Stp.oneX {I : Addr} {hp' : Heap} {t : Nat} (hs : Heap.ExtBut I s.heap hp') (hn : G I = none) (hsz : s.heap.objs.size ≤ hp'.objs.size) : Stp [I] G G s { s with heap := hp', toks := t } :=
  Stp.loose (fun b o hb e => hs b o (one_ne hb) e) (fun b hb => by rw [List.mem_singleton.mp hb]; exact hn) hsz
theorem Rel.oneX {I : Addr} {hp hp' : Heap} (R : Rel K c h G hp) (hs : Heap.ExtBut I hp hp') (hl : Loose c G [I]) (hsz : hp.objs.size ≤ hp'.objs.size) : Rel K c h G hp' :=
  R.loose hl (fun b o hb e => hs b o (one_ne hb) e) hsz

/-- a push of something that is tracked nowhere -/
theorem Stp.push {own : List Addr} {o : Obj} : Stp own G G s { s with heap := s.heap.push o } :=
  Stp.heap (t := s.toks) (fun b o' e => Heap.get?_push_of_some _ e) (by rw [Heap.size_push]; exact Nat.le_succ _)
theorem Rel.push {hp : Heap} {o : Obj} (R : Rel K c h G hp) : Rel K c h G (hp.push o) :=
  R.keep (fun b o' e => Heap.get?_push_of_some _ e) (by rw [Heap.size_push]; exact Nat.le_succ _)

theorem Iter.list (I : Addr) (av : AV) (xs : List AV) : Iter K I [I] xs.length (fun i => [xs.getD i .none]) false (fun h => readL h av = some xs) (fun i G hp => ∃ l, VR G (.ref l) av ∧ hp.IsListIter I l i) where
  frame i G G' hp hp' hst hg hk := let ⟨l, hv, hi⟩ := hst; ⟨l, hv.mono hg, hi.at fun o e => hk I (List.mem_singleton.mpr rfl) o e⟩
  live i G hp hst b hb := by obtain ⟨l, _, o, ho, _⟩ := hst; rw [List.mem_singleton.mp hb]; exact Heap.lt_size ho
  item1 _ i c A G s h hi hh hst R hc hl := by
    obtain ⟨l, hv, hit⟩ := hst
    obtain ⟨a, vs, n, e, ho, hx⟩ := (R.listAt hc hv).inv
    cases e
    obtain ⟨v, hv1, hv2⟩ := hx.get (i := i) (x := xs.getD i .none) (by rw [List.getD_eq_getElem?_getD, List.getElem?_eq_getElem hi]; rfl)
    have hI := (hl I (List.mem_singleton.mpr rfl)).1
    refine wpAny_pyNext_list_item hit ⟨_, ho, rfl, _, rfl⟩ (x := v) (by simpa using hv1) fun h' hit' hs' => ?_
    exact ⟨v, _, G, rfl, rfl, hv2, Stp.one (t := s.toks) hs' hI, R.one hs' hl, l, hv, hit'⟩
  item2 e := by cases e
  done c A G s h hh hst R hc hl := by
    obtain ⟨l, hv, hit⟩ := hst
    obtain ⟨a, vs, n, e, ho, hx⟩ := (R.listAt hc hv).inv
    cases e
    have hI := (hl I (List.mem_singleton.mpr rfl)).1
    refine wpAny_sz (wpAny_pyNext_list_end hh hit ⟨_, ho, rfl, _, rfl⟩ (by rw [← hx.length]; simp) fun h' hx' hsz => ?_)
    exact ⟨G, rfl, Stp.oneX (t := s.toks) hx' hI hsz, R.oneX hx' hl hsz⟩
  self i A G s Q hst hQ := let ⟨l, _, hi⟩ := hst; wpAny_pyIter_listiter hi hQ

theorem EvI.list {e : Expr} {P} (x : Ev K c e h fun a h1 => ∃ xs, readL h1 a = some xs ∧ P xs.length (fun i => [xs.getD i .none]) false (fun h => readL h a = some xs) h1) : EvI K c e h P := fun A G s hA R => by
  refine wpAny_mono (x A G s hA R) (fun u s1 ⟨G1, a, h1, x1, R1, v1, xs, hr, q1⟩ => ?_) fun _ _ z => z
  obtain ⟨l, vs, n, ho, hx⟩ := R1.listAt hr v1
  refine wpAny_pyIter_list ⟨_, ho, rfl, _, rfl⟩ ?_
  refine ⟨s1.heap.objs.size, [s1.heap.objs.size], _, _, _, _, _, G1, h1, rfl, Iter.list s1.heap.objs.size a xs, x1.trans Stp.push, R1.push, ⟨l, v1, _, Heap.get?_push_size _ rfl, rfl, rfl⟩, fun b hb => ?_, q1⟩
  rw [List.mem_singleton.mp hb]
  exact ⟨R1.none_of_ge (Nat.le_refl _), x1.size⟩

theorem Iter.tuple (I : Addr) (xs : List AV) : Iter K I [I] xs.length (fun i => [xs.getD i .none]) false (fun h => True) (fun i G hp => ∃ l, VR G (.ref l) (.tup xs) ∧ hp.IsTupleIter I l i) where
  frame i G G' hp hp' hst hg hk := let ⟨l, hv, hi⟩ := hst; ⟨l, hv.mono hg, hi.at fun o e => hk I (List.mem_singleton.mpr rfl) o e⟩
  live i G hp hst b hb := by obtain ⟨l, _, o, ho, _⟩ := hst; rw [List.mem_singleton.mp hb]; exact Heap.lt_size ho
  item1 _ i c A G s h hi hh hst R hc hl := by
    obtain ⟨l, hv, hit⟩ := hst
    obtain ⟨a, vs, n, e, ho, hx⟩ := (R.tupAt hv).inv
    cases e
    obtain ⟨v, hv1, hv2⟩ := hx.get (i := i) (x := xs.getD i .none) (by rw [List.getD_eq_getElem?_getD, List.getElem?_eq_getElem hi]; rfl)
    have hI := (hl I (List.mem_singleton.mpr rfl)).1
    refine wpAny_pyNext_tuple_item hit ⟨_, ho, rfl, _, rfl⟩ (x := v) (by simpa using hv1) fun h' hit' hs' => ?_
    exact ⟨v, _, G, rfl, rfl, hv2, Stp.one (t := s.toks) hs' hI, R.one hs' hl, l, hv, hit'⟩
  item2 e := by cases e
  done c A G s h hh hst R hc hl := by
    obtain ⟨l, hv, hit⟩ := hst
    obtain ⟨a, vs, n, e, ho, hx⟩ := (R.tupAt hv).inv
    cases e
    have hI := (hl I (List.mem_singleton.mpr rfl)).1
    refine wpAny_sz (wpAny_pyNext_tuple_end hh hit ⟨_, ho, rfl, _, rfl⟩ (by rw [← hx.length]; simp) fun h' hx' hsz => ?_)
    exact ⟨G, rfl, Stp.oneX (t := s.toks) hx' hI hsz, R.oneX hx' hl hsz⟩
  self i A G s Q hst hQ := let ⟨l, _, hi⟩ := hst; wpAny_pyIter_tupleiter hi hQ

theorem EvI.tuple {e : Expr} {P} (x : Ev K c e h fun a h1 => ∃ xs, a = .tup xs ∧ P xs.length (fun i => [xs.getD i .none]) false (fun h => True) h1) : EvI K c e h P := fun A G s hA R => by
  refine wpAny_mono (x A G s hA R) (fun u s1 ⟨G1, a, h1, x1, R1, v1, xs, hr, q1⟩ => ?_) fun _ _ z => z
  subst hr
  obtain ⟨l, vs, n, ho, hx⟩ := R1.tupAt v1
  refine wpAny_pyIter_tuple ⟨_, ho, rfl, _, rfl⟩ ?_
  refine ⟨s1.heap.objs.size, [s1.heap.objs.size], _, _, _, _, _, G1, h1, rfl, Iter.tuple s1.heap.objs.size xs, x1.trans Stp.push, R1.push, ⟨l, v1, _, Heap.get?_push_size _ rfl, rfl, rfl⟩, fun b hb => ?_, q1⟩
  rw [List.mem_singleton.mp hb]
  exact ⟨R1.none_of_ge (Nat.le_refl _), x1.size⟩

theorem Iter.range (I : Addr) (a st : Int) (n : Nat) : Iter K I [I] n (fun i => [.int (a + i * st)]) false (fun h => True) (fun i G hp => IsRangeIter hp I (a + (i : Nat) * st) ((n : Int) - (i : Nat)) st) where
  frame i G G' hp hp' hst hg hk := hk I (List.mem_singleton.mpr rfl) _ hst
  live i G hp hst b hb := by rw [List.mem_singleton.mp hb]; exact Heap.lt_size hst
  item1 _ i c A G s h hi hh hst R hc hl := by
    have hI := (hl I (List.mem_singleton.mpr rfl)).1
    refine wpAny_pyNext_range_item hst (by omega) fun h' hit' hs' => ?_
    refine ⟨_, _, G, rfl, rfl, ⟨_, rfl⟩, Stp.one hs' hI, R.one hs' hl, ?_⟩
    have e1 : a + ((i + 1 : Nat) : Int) * st = a + (i : Int) * st + st := by push_cast; rw [Int.add_mul, Int.one_mul, Int.add_assoc]
    have e2 : (n : Int) - ((i + 1 : Nat) : Int) = (n : Int) - (i : Int) - 1 := by push_cast; omega
    rw [e1, e2]; exact hit'
  item2 e := by cases e
  done c A G s h hh hst R hc hl := by
    have hI := (hl I (List.mem_singleton.mpr rfl)).1
    refine wpAny_sz (wpAny_pyNext_range_end hh hst (by omega) fun h' hx' hsz => ?_)
    exact ⟨G, rfl, Stp.oneX (t := s.toks) hx' hI hsz, R.oneX hx' hl hsz⟩
  self i A G s Q hst hQ := wpAny_pyIter_rangeiter hst hQ

theorem Rel.rangeAt {hp : Heap} {a b st : Int} {v : Value} (R : Rel K c h G hp) (hv : VR G v (.range a b st)) : ∃ r t u w, v = .ref r ∧ IsRange hp r a b st t u w := by
  obtain ⟨r, rfl, hg⟩ := hv
  obtain ⟨o, ho, t, u, w, rfl⟩ := R.cells _ _ hg
  exact ⟨r, t, u, w, rfl, ho⟩
theorem EvI.range {e : Expr} {P} (x : Ev K c e h fun a h1 => ∃ a0 b st, a = .range a0 b st ∧ Builtin.Range.small a0 b st = true ∧ ∃ n : Nat, (n : Int) = Builtin.Range.rangeSize a0 b st ∧ P n (fun i => [.int (a0 + i * st)]) false (fun h => True) h1) : EvI K c e h P := fun A G s hA R => by
  refine wpAny_mono (x A G s hA R) (fun u s1 ⟨G1, a, h1, x1, R1, v1, a0, b, st, hr, hsm, n, hn, q1⟩ => ?_) fun _ _ z => z
  subst hr
  obtain ⟨r, t, u', w, rfl, ho⟩ := R1.rangeAt v1
  refine wpAny_pyIter_range ho hsm ?_
  refine ⟨s1.heap.objs.size, [s1.heap.objs.size], _, _, _, _, _, G1, h1, rfl, Iter.range s1.heap.objs.size a0 st n, x1.trans Stp.push, R1.push, ?_, fun b hb => ?_, q1⟩
  · have := Heap.get?_push_size s1.heap (o := { cls := .type "range_iterator", data := .fields #[rawInt a0, rawInt (Builtin.Range.rangeSize a0 b st), rawInt st] }) rfl
    show IsRangeIter _ _ _ _ _
    unfold IsRangeIter
    rw [this, ← hn]; simp [rawInt]
  · rw [List.mem_singleton.mp hb]
    exact ⟨R1.none_of_ge (Nat.le_refl _), x1.size⟩

/-- one argument, two, three -/
theorem Ca.mk1 {d : Nat} {f : Value} {a : AV} {Q : AV → Hp → Prop} (x : ∀ (c : Cx) A G s u, OkA d A → Rel K c h G s.heap → VR G u a → wpAny K.M A (call f [u]) (fun v s' => PE [] G s s' (Rel K c) (fun G' a => VR G' v a) Q) NoE s) : Ca K d (.raw f) [a] [] h Q := fun c A G s fv us ks hA R hf hu hks => by
  cases hf
  obtain ⟨u, us, rfl, e, hu⟩ := hu.inv
  cases hu.inv0; cases hks.inv0
  exact x c A G s u hA R e
theorem Ca.mk2 {d : Nat} {f : Value} {a b : AV} {Q : AV → Hp → Prop} (x : ∀ (c : Cx) A G s u v, OkA d A → Rel K c h G s.heap → VR G u a → VR G v b → wpAny K.M A (call f [u, v]) (fun v s' => PE [] G s s' (Rel K c) (fun G' a => VR G' v a) Q) NoE s) : Ca K d (.raw f) [a, b] [] h Q := fun c A G s fv us ks hA R hf hu hks => by
  cases hf
  obtain ⟨u, us, rfl, e, hu⟩ := hu.inv
  obtain ⟨v, us, rfl, e', hu⟩ := hu.inv
  cases hu.inv0; cases hks.inv0
  exact x c A G s u v hA R e e'
theorem Ca.mk3 {d : Nat} {f : Value} {a b b' : AV} {Q : AV → Hp → Prop} (x : ∀ (c : Cx) A G s u v w, OkA d A → Rel K c h G s.heap → VR G u a → VR G v b → VR G w b' → wpAny K.M A (call f [u, v, w]) (fun v s' => PE [] G s s' (Rel K c) (fun G' a => VR G' v a) Q) NoE s) : Ca K d (.raw f) [a, b, b'] [] h Q := fun c A G s fv us ks hA R hf hu hks => by
  cases hf
  obtain ⟨u, us, rfl, e, hu⟩ := hu.inv
  obtain ⟨v, us, rfl, e', hu⟩ := hu.inv
  obtain ⟨w, us, rfl, e'', hu⟩ := hu.inv
  cases hu.inv0; cases hks.inv0
  exact x c A G s u v w hA R e e' e''

/-- results of calls -/
theorem res_now {own : List Addr} {Q : AV → Hp → Prop} {v : Value} {av : AV} {t : Nat} (R : Rel K c h G s.heap) (hv : VR G v av) (hQ : Q av h) : PE own G s { s with toks := t } (Rel K c) (fun G' a => VR G' v a) Q :=
  ⟨G, av, h, (Stp.refl _ _ _).toks, R, hv, hQ⟩
theorem res_keep {own : List Addr} {Q : AV → Hp → Prop} {v : Value} {av : AV} {t : Nat} {hp : Heap} (R : Rel K c h G s.heap) (hk : ∀ b o, s.heap.get? b = some o → hp.get? b = some o) (hsz : s.heap.objs.size ≤ hp.objs.size) (hv : VR G v av) (hQ : Q av h) :
    PE own G s { s with heap := hp, toks := t } (Rel K c) (fun G' a => VR G' v a) Q :=
  ⟨G, av, h, Stp.heap hk hsz, R.keep hk hsz, hv, hQ⟩
theorem res_fresh {own : List Addr} {Q : AV → Hp → Prop} {av : AV} {t : Nat} {hp : Heap} {a : Addr} {o : Obj} (R : Rel K c h G s.heap) (hk : ∀ b o, s.heap.get? b = some o → hp.get? b = some o) (hsz : s.heap.objs.size ≤ hp.objs.size) (ha : s.heap.objs.size ≤ a) (ho : hp.get? a = some o) (hv : OV K G o av) (hav : ∀ G' a, G' a = some (.val av) → VR G' (.ref a) av) (hQ : Q av h) :
    PE own G s { s with heap := hp, toks := t } (Rel K c) (fun G' z => VR G' (.ref a) z) Q :=
  ⟨_, av, h, Stp.put (R.none_of_ge ha) ha hk hsz, R.val hk hsz ha ho hv, hav _ _ (Gput_self ..), hQ⟩

theorem res_push {own : List Addr} {Q : AV → Hp → Prop} {av : AV} {t : Nat} {o : Obj} (R : Rel K c h G s.heap) (hf : o.isFreed = false) (hv : OV K G o av) (hav : ∀ G' a, G' a = some (.val av) → VR G' (.ref a) av) (hQ : Q av h) :
    PE own G s { s with heap := s.heap.push o, toks := t } (Rel K c) (fun G' a => VR G' (.ref s.heap.objs.size) a) Q :=
  res_fresh R (fun b o e => Heap.get?_push_of_some _ e) (by rw [Heap.size_push]; exact Nat.le_succ _) (Nat.le_refl _) (Heap.get?_push_size _ hf) hv hav hQ

theorem Ca.range1 {d : Nat} {n : Int} {Q : AV → Hp → Prop} (hQ : Q (.range 0 n 1) h) : Ca K d (.raw (.type "range")) [.int n] [] h Q := Ca.mk1 fun c A G s u hA R ⟨t, e⟩ => by
  subst e
  exact call_range_1 (res_push (av := .range 0 n 1) R rfl ⟨_, _, _, rfl⟩ (fun _ a e => ⟨a, rfl, e⟩) hQ)
theorem Ca.range2 {d : Nat} {n m : Int} {Q : AV → Hp → Prop} (hQ : Q (.range n m 1) h) : Ca K d (.raw (.type "range")) [.int n, .int m] [] h Q := Ca.mk2 fun c A G s u v hA R ⟨t, e⟩ ⟨t', e'⟩ => by
  subst e; subst e'
  exact call_range_2 (res_push (av := .range n m 1) R rfl ⟨_, _, _, rfl⟩ (fun _ a e => ⟨a, rfl, e⟩) hQ)
theorem Ca.range3 {d : Nat} {n m k : Int} {Q : AV → Hp → Prop} (hk : k ≠ 0) (hp : Builtin.divisionGoesByPylong (m - n) k = false) (hQ : Q (.range n m k) h) : Ca K d (.raw (.type "range")) [.int n, .int m, .int k] [] h Q := Ca.mk3 fun c A G s u v w hA R ⟨t, e⟩ ⟨t', e'⟩ ⟨t'', e''⟩ => by
  subst e; subst e'; subst e''
  exact call_range_3 hk (res_push (av := .range n m k) (t := s.toks) R rfl ⟨_, _, _, rfl⟩ (fun _ a e => ⟨a, rfl, e⟩) hQ) (.inl hp)

theorem Ca.len {d : Nat} {a : AV} {xs : List AV} {Q : AV → Hp → Prop} (hr : readL h a = some xs) (hl : xs.length < 2 ^ 62) (hQ : Q (.int xs.length) h) : Ca K d (.raw (.builtin "len")) [a] [] h Q := Ca.mk1 fun c A G s u hA R hu => by
  obtain ⟨l, vs, n, ho, hx⟩ := R.listAt hr hu
  have e := hx.length
  simp only [Array.length_toList] at e
  exact Calls.call_len_list ⟨_, ho, rfl, _, rfl⟩ (by rw [e]; omega) (res_now (av := .int xs.length) R ⟨_, by rw [e]⟩ hQ)
theorem Ca.lenT {d : Nat} {xs : List AV} {Q : AV → Hp → Prop} (hl : xs.length < 2 ^ 62) (hQ : Q (.int xs.length) h) : Ca K d (.raw (.builtin "len")) [.tup xs] [] h Q := Ca.mk1 fun c A G s u hA R hu => by
  obtain ⟨l, vs, n, ho, hx⟩ := R.tupAt hu
  have e := hx.length
  simp only [Array.length_toList] at e
  exact P.len_tuple ho (by rw [e]; omega) (res_now (av := .int xs.length) R ⟨_, by rw [e]⟩ hQ)
theorem Ca.hex {d : Nat} {i : Int} {Q : AV → Hp → Prop} (hl : (baseText "0x" 16 i).length ≤ sizeLine) (hQ : Q (.str (baseText "0x" 16 i)) h) : Ca K d (.raw (.builtin "hex")) [.int i] [] h Q := Ca.mk1 fun c A G s u hA R ⟨t, e⟩ => by
  subst e
  exact P.hex_of_int (res_now (av := .str (baseText "0x" 16 i)) R ⟨_, rfl⟩ hQ) hl

theorem ints_of {G : Gh} : ∀ {vs : List Value} {ns : List Int}, VRs G vs (ns.map .int) → IntsAre vs ns
  | [], [], _ => .nil
  | v :: vs, n :: ns, ⟨⟨t, e⟩, r⟩ => by subst e; exact .cons n t (ints_of r)
  | [], _ :: _, h => h.elim
  | _ :: _, [], h => h.elim
theorem of_ints {G : Gh} : ∀ {vs : List Value} {ns : List Int}, IntsAre vs ns → VRs G vs (ns.map .int)
  | _, _, .nil => trivial
  | _, _, .cons _ _ r => ⟨⟨_, rfl⟩, of_ints r⟩

theorem Ca.sorted {d : Nat} {a : AV} {ns : List Int} {Q : AV → Hp → Prop} (hr : readL h a = some (ns.map .int)) (hl : ns.length < 64) (hQ : ∀ ns' : List Int, ns'.Perm ns → ns'.Pairwise (· ≤ ·) → Q (.list (ns'.map .int)) h) : Ca K d (.raw (.builtin "sorted")) [a] [] h Q := Ca.mk1 fun c A G s u hA R hu => by
  obtain ⟨l, vs, n, ho, hx⟩ := R.listAt hr hu
  have e := hx.length
  rw [List.length_map] at e
  have hL : s.heap.IsList l vs.toList.toArray := ⟨_, ho, rfl, n, by simp⟩
  refine wpAny_sz (sorted_ints (vs := vs.toList) hL (ints_of hx) (by rw [e]; exact hl) fun out ns' hi hp hs hsz => ?_)
  obtain ⟨k, hk⟩ := sortedAll_at s.heap vs.toList out
  exact res_fresh (av := .list (ns'.map .int)) (t := s.toks) R (fun _ _ => sortedAll_old) hsz (Nat.le_succ _) hk ⟨_, _, rfl, of_ints hi⟩ (fun _ a e => ⟨a, rfl, e⟩) (hQ ns' hp hs)
theorem collect_sz {prog : Program} {w : World} {A : Around} {E : Value → Shared → Prop} {s : Shared} {Q : List Value → Shared → Prop} (it : Addr) {T : String} {o : Obj} {items : Array Value} {n : Nat} (hT : T = "list" ∨ T = "tuple")
    (ho : s.heap.get? it = some o) (hc : o.cls = .type T) (hd : o.data = .seq items n) (hsz : items.size ≤ sizeLine)
    (hQ : ∀ h', (∀ b o', s.heap.get? b = some o' → h'.get? b = some o') → s.heap.objs.size ≤ h'.objs.size → Q items.toList { s with heap := h' }) :
    wpAny (model prog w) A (collect (.ref it)) Q E s := wpAny_sz (wpAny_collect_seq (hsz := hsz) it hT ho hc hd fun h' hk hs => hQ h' hk hs)

theorem meets_tupleL (l : Addr) (o : Obj) (items : Array Value) (n : Nat) (hc : o.cls = .type "list") (hd : o.data = .seq items n) (hsz : items.size ≤ sizeLine) :
    Meets (Builtin.«tuple.__new__» ⟨[.type "tuple", .ref l], []⟩)
      (fun _ R s => s.heap.get? l = some o ∧ ∀ h' : Heap, (∀ b o', s.heap.get? b = some o' → h'.get? b = some o') → s.heap.objs.size ≤ h'.objs.size → R (.ok (.ret (.ref h'.objs.size))) { s with heap := h'.push { cls := .type "tuple", data := .seq items } }) :=
  .of_wp fun prog w A R s h => by
    obtain ⟨hp, g, d, tk, os⟩ := s; obtain ⟨ht, h⟩ := h
    have hsub := sub_tuple_self
    have hinit := init_tuple_lookup
    have hmh := madeHere_tuple
    have hT : Shared.TypeIs ⟨hp, g, d, tk, os⟩ (.ref l) "list" := ⟨o, ht, hc⟩
    wp_walk using AutoSeq1.wpAny_loadPart' ht, wpAny_typeOf hT, collect_sz l (.inl rfl) ht hc hd hsz
    intro h' hk hsz'
    show wpAny _ _ (Builtin.Tuple.tupleExact items.toList.toArray >>= fun v => ret v) _ _ _
    unfold Builtin.Tuple.tupleExact
    refine wpAny_bind (wpAny_newObj_type ?_ (by show items.toList.toArray.size ≤ sizeLine; simpa using hsz))
    refine wpAny_pure ⟨_, rfl, ?_⟩
    have e : items.toList.toArray = items := by simp
    rw [e]
    exact h h' hk hsz'

theorem Ca.tupleOf {d : Nat} {a : AV} {xs : List AV} {Q : AV → Hp → Prop} (hr : readL h a = some xs) (hl : xs.length ≤ sizeLine) (hQ : Q (.tup xs) h) : Ca K d (.raw (.type "tuple")) [a] [] h Q := Ca.mk1 fun c A G s u hA R hu => by
  obtain ⟨l, vs, n, ho, hx⟩ := R.listAt hr hu
  have e := hx.length
  simp only [Array.length_toList] at e
  refine callType_new F.called_tuple (by decide) (F.typeCall_tuple_1 _) (F.newCall_tuple_1 _) (fun obj => F.args_object_init_2 obj _) F.entry_tuple_new
    (meets_tupleL l _ vs n rfl rfl (by rw [e]; exact hl)) ⟨ho, fun h' hk hsz => ⟨⟨_, Heap.get?_push_size _ rfl, rfl⟩, ?_⟩⟩
  exact res_fresh (av := .tup xs) (t := s.toks) R (fun b o e => Heap.get?_push_of_some _ (hk b o e)) (by rw [Heap.size_push]; omega) hsz (Heap.get?_push_size _ rfl) ⟨_, _, rfl, hx⟩ (fun _ a e => ⟨a, rfl, e⟩) hQ

theorem Iter.ascii (I : Addr) (x : Str) : Iter K I [I] x.cps.size (fun i => [.str ⟨#[x.cps.getD i 0]⟩]) false (fun h => True) (fun i G hp => ∃ t, hp.IsStrIter I "str_ascii_iterator" x t i) where
  frame i G G' hp hp' hst hg hk := let ⟨t, o, ho, r⟩ := hst; ⟨t, o, hk I (List.mem_singleton.mpr rfl) o ho, r⟩
  live i G hp hst b hb := by obtain ⟨t, o, ho, _⟩ := hst; rw [List.mem_singleton.mp hb]; exact Heap.lt_size ho
  item1 _ i c A G s h hi hh hst R hc hl := by
    obtain ⟨t, hst⟩ := hst
    have hI := (hl I (List.mem_singleton.mpr rfl)).1
    refine wpAny_pyNext_ascii_item hst (c := x.cps.getD i 0) (by simp [hi]) fun h' hit' hs' => ?_
    exact ⟨_, _, G, rfl, rfl, ⟨_, rfl⟩, Stp.one hs' hI, R.one hs' hl, t, hit'⟩
  item2 e := by cases e
  done c A G s h hh hst R hc hl := by
    obtain ⟨t, hst⟩ := hst
    have hI := (hl I (List.mem_singleton.mpr rfl)).1
    refine wpAny_sz (wpAny_pyNext_ascii_end hh hst (by simp) fun h' hx' hsz => ?_)
    exact ⟨G, rfl, Stp.oneX (t := s.toks) hx' hI hsz, R.oneX hx' hl hsz⟩
  self i A G s Q hst hQ := by
    obtain ⟨t, hst⟩ := hst
    exact wpAny_pyIter_striter_ascii hst hQ

theorem EvI.ascii {e : Expr} {P} (x : Ev K c e h fun a h1 => ∃ y, a = .str y ∧ y.cps.all (· < 128) = true ∧ P y.cps.size (fun i => [.str ⟨#[y.cps.getD i 0]⟩]) false (fun h => True) h1) : EvI K c e h P := fun A G s hA R => by
  refine wpAny_mono (x A G s hA R) (fun u s1 ⟨G1, a, h1, x1, R1, v1, y, hr, ha, q1⟩ => ?_) fun _ _ z => z
  subst hr
  obtain ⟨t, rfl⟩ := v1
  refine wpAny_pyIter_ascii ha ?_
  refine ⟨s1.heap.objs.size, [s1.heap.objs.size], _, _, _, _, _, G1, h1, rfl, Iter.ascii s1.heap.objs.size y, x1.trans Stp.push, R1.push, ⟨t, _, Heap.get?_push_size _ rfl, rfl, rfl⟩, fun b hb => ?_, q1⟩
  rw [List.mem_singleton.mp hb]
  exact ⟨R1.none_of_ge (Nat.le_refl _), x1.size⟩

/-! enumerate of a list -/
theorem Iter.enum (E it : Addr) (hne : E ≠ it) (av : AV) (xs : List AV) : Iter K E [E, it] xs.length (fun i => [.int i, xs.getD i .none]) true (fun h => readL h av = some xs)
    (fun i G hp => ∃ l, VR G (.ref l) av ∧ (∃ old, IsEnum hp E it i old) ∧ hp.IsListIter it l i) where
  frame i G G' hp hp' hst hg hk := let ⟨l, hv, ⟨old, he⟩, hi⟩ := hst; ⟨l, hv.mono hg, ⟨old, hk E (by simp) _ he⟩, hi.at fun o e => hk it (by simp) o e⟩
  live i G hp hst b hb := by
    obtain ⟨l, _, ⟨old, he⟩, o, ho, _⟩ := hst
    rcases List.mem_cons.mp hb with q | q
    · rw [q]; exact Heap.lt_size he
    · rw [List.mem_singleton.mp q]; exact Heap.lt_size ho
  item1 e := by cases e
  item2 _ i c A G s h hi hh hst R hc hl := by
    obtain ⟨l, hv, ⟨old, he⟩, hit⟩ := hst
    obtain ⟨a, vs, n, e, ho, hx⟩ := (R.listAt hc hv).inv
    cases e
    obtain ⟨v, hv1, hv2⟩ := hx.get (i := i) (x := xs.getD i .none) (by rw [List.getD_eq_getElem?_getD, List.getElem?_eq_getElem hi]; rfl)
    have hE := (hl E (by simp)).1
    have hI := (hl it (by simp)).1
    refine wpAny_sz (wpAny_pyNext_enum_item he hit ⟨_, ho, rfl, _, rfl⟩ (x := v) (by simpa using hv1) hne fun h' ho' hit' hT hsz' hk hsz => ?_)
    refine ⟨s.heap.objs.size, rfl, fun elts k pos => ?_⟩
    have hTE : s.heap.objs.size ≠ E := Nat.ne_of_gt (Heap.lt_size he)
    refine wpAny_letOwnedTupleGo_enum ho' fun h'' he'' hs'' => ?_
    have hk2 : ∀ b o, b ∉ [E, it] → s.heap.get? b = some o → h''.get? b = some o := fun b o hb e => by
      have h1 : b ≠ E := fun q => hb (by rw [q]; simp)
      have h2 : b ≠ it := fun q => hb (by rw [q]; simp)
      exact (hs''.2 b h1).trans (hk b o h1 h2 e)
    have hn : ∀ b ∈ [E, it], G b = none := fun b hb => (hl b hb).1
    have hsz2 : s.heap.objs.size ≤ h''.objs.size := by rw [hs''.1]; exact hsz
    refine ⟨G, #[.int i s.toks, v], ⟨_, (hs''.2 _ hTE).trans hT, rfl, _, rfl⟩, ⟨⟨_, rfl⟩, hv2, trivial⟩, Stp.loose hk2 hn hsz2, R.loose hl hk2 hsz2, l, hv, ⟨_, by simpa using he''⟩, hit'.at fun o e => (hs''.2 it (Ne.symm hne)).trans e⟩
  done c A G s h hh hst R hc hl := by
    obtain ⟨l, hv, ⟨old, he⟩, hit⟩ := hst
    obtain ⟨a, vs, n, e, ho, hx⟩ := (R.listAt hc hv).inv
    cases e
    have hn : ∀ b ∈ [E, it], G b = none := fun b hb => (hl b hb).1
    refine wpAny_sz (wpAny_pyNext_enum_end hh he hit ⟨_, ho, rfl, _, rfl⟩ (by rw [← hx.length]; simp) fun h' hx' hsz => ?_)
    have hk2 : ∀ b o, b ∉ [E, it] → s.heap.get? b = some o → h'.get? b = some o := fun b o hb e => hx' b o (fun q => hb (by rw [q]; simp)) e
    exact ⟨G, rfl, Stp.loose (t := s.toks) hk2 hn hsz, R.loose hl hk2 hsz⟩
  self i A G s Q hst hQ := let ⟨l, _, ⟨old, he⟩, hi⟩ := hst; wpAny_pyIter_enum he hQ
end
end Mine
end

section
open PySem PySem.W PySem.Calls PyProof.Rows
namespace Mine
section
variable {K : Bse} {c : Cx} {h : Hp} {G G' : Gh} {s s' s'' : Shared} {A : Around}

/-- a value whose keeper can be told at once -/
noncomputable def plainF : Value → Bool
  | .ref _ => false
  | _ => true
theorem keeper_plain {fv : Value} {M : Model} {E : Value → Shared → Prop} (hp : plainF fv = true) {P : Keeper → Shared → Prop} (h : ∀ k, P k s) : wpAny M A (keeperOf fv) P E s := by
  cases fv <;> first | exact wpAny_pure (h _) | cases hp

theorem eval_call1 {id p e pos} {fv : Value} {P : AV → Hp → Prop} {Q : Value → Shared → Prop} (hp : plainF fv = true) (x : Ev K c (.Name id p) h fun f h0 => f = .raw fv ∧ Ev K c e h0 P) (hA : OkA c.d A) (R : Rel K c h G s.heap)
    (he : starEach [e] c.env = [(false, eval e c.env)])
    (y : ∀ G1 s1 u a h1, Stp c.own G G1 s s1 → Rel K c h1 G1 s1.heap → VR G1 u a → P a h1 → wpAny K.M A (call fv [u]) Q NoE s1) : wpAny K.M A (eval (.Call (.Name id p) [e] [] pos) c.env) Q NoE s := by
  refine wpAny_Call_Name_kw (wpAny_mono (x A G s hA R) (fun f s1 ⟨G1, fa, h1, x1, R1, v1, q0, q1⟩ => ?_) fun _ _ z => z)
  subst q0
  cases v1
  rw [he]
  refine wpAny_callW rfl rfl (wpAny_evalArgsG rfl rfl ?_)
  refine spliced_cons (wpAny_mono (q1 A G1 s1 hA R1) (fun u s2 zp => PE.use zp fun G2 a h2 x2 R2 v2 q2 => spliced_nil (wpAny_pure ⟨fun P hP => keeper_plain hp hP, ?_⟩)) fun _ _ z => z)
  exact y G2 s2 u a h2 (x1.trans x2) R2 v2 q2
theorem eval_call2 {id p e e' pos} {fv : Value} {P : AV → AV → Hp → Prop} {Q : Value → Shared → Prop} (hp : plainF fv = true) (x : Ev K c (.Name id p) h fun f h0 => f = .raw fv ∧ Ev K c e h0 fun a h1 => Ev K c e' h1 fun b h2 => P a b h2) (hA : OkA c.d A) (R : Rel K c h G s.heap)
    (he : starEach [e, e'] c.env = [(false, eval e c.env), (false, eval e' c.env)])
    (y : ∀ G1 s1 u v a b h1, Stp c.own G G1 s s1 → Rel K c h1 G1 s1.heap → VR G1 u a → VR G1 v b → P a b h1 → wpAny K.M A (call fv [u, v]) Q NoE s1) : wpAny K.M A (eval (.Call (.Name id p) [e, e'] [] pos) c.env) Q NoE s := by
  refine wpAny_Call_Name_kw (wpAny_mono (x A G s hA R) (fun f s1 ⟨G1, fa, h1, x1, R1, v1, q0, q1⟩ => ?_) fun _ _ z => z)
  subst q0
  cases v1
  rw [he]
  refine wpAny_callW rfl rfl (wpAny_evalArgsG rfl rfl ?_)
  refine spliced_cons (wpAny_mono (q1 A G1 s1 hA R1) (fun u s2 zp => PE.use zp fun G2 a h2 x2 R2 v2 q2 => ?_) fun _ _ z => z)
  refine spliced_cons (wpAny_mono (q2 A G2 s2 hA R2) (fun v s3 zp => PE.use zp fun G3 b h3 x3 R3 v3 q3 => spliced_nil (wpAny_pure ⟨fun P hP => keeper_plain hp hP, ?_⟩)) fun _ _ z => z)
  exact y G3 s3 u v a b h3 ((x1.trans x2).trans x3) R3 (v2.mono x3.grow) v3 q3

theorem EvI.enum {id p e pos} {P} (x : Ev K c (.Name id p) h fun f h0 => f = .raw (.type "enumerate") ∧ Ev K c e h0 fun a h1 => ∃ xs, readL h1 a = some xs ∧ P xs.length (fun i => [.int i, xs.getD i .none]) true (fun h => readL h a = some xs) h1)
    (he : starEach [e] c.env = [(false, eval e c.env)] := by kernel_rfl) : EvI K c (.Call (.Name id p) [e] [] pos) h P := fun A G s hA R => by
  refine eval_call1 rfl x hA R he fun G1 s1 u a h1 x1 R1 v1 ⟨xs, hr, q1⟩ => ?_
  obtain ⟨l, vs, n, ho, hx⟩ := R1.listAt hr v1
  refine call_enumerate_list ⟨_, ho, rfl, _, rfl⟩ fun h' he' hi' hsz hk => ?_
  refine wpAny_pyIter_enum he' ?_
  have hsz' : s1.heap.objs.size ≤ h'.objs.size := by rw [hsz]; exact Nat.le_add_right _ _
  refine ⟨_, [s1.heap.objs.size + 1, s1.heap.objs.size], _, _, _, _, _, G1, h1, rfl, Iter.enum _ _ (Nat.succ_ne_self _) a xs, x1.trans (Stp.heap (t := s1.toks) hk hsz'), R1.keep hk hsz', ⟨l, v1, ⟨_, he'⟩, hi'⟩, fun b hb => ?_, q1⟩
  rcases List.mem_cons.mp hb with q | q
  · rw [q]; exact ⟨R1.none_of_ge (Nat.le_succ _), Nat.le_succ_of_le x1.size⟩
  · rw [List.mem_singleton.mp q]; exact ⟨R1.none_of_ge (Nat.le_refl _), x1.size⟩

/-- five addresses that are apart -/
structure A5 (z TI TO i1 i2 : Addr) : Prop where
  d1 : z ≠ TO
  d2 : z ≠ i1
  d3 : z ≠ i2
  d4 : TO ≠ i1
  d5 : TO ≠ i2
  d6 : i1 ≠ i2
  d7 : TI ≠ z
  d8 : TI ≠ TO
  d9 : TI ≠ i1
  d10 : TI ≠ i2
theorem A5.of (n : Addr) : A5 (n + 4) (n + 2) (n + 3) n (n + 1) := by
  constructor <;> (show ¬ (_ : Nat) = _; omega)
theorem A5.le {n b : Addr} (hb : b ∈ [n + 4, n + 3, n, n + 1, n + 2]) : n ≤ b := by
  simp only [List.mem_cons, List.not_mem_nil, or_false] at hb
  rcases hb with rfl | rfl | rfl | rfl | rfl
  · exact Nat.le_add_right _ _
  · exact Nat.le_add_right _ _
  · exact Nat.le_refl _
  · exact Nat.le_add_right _ _
  · exact Nat.le_add_right _ _
theorem five_mem {a b d e f x : Addr} {P : Addr → Prop} (h1 : P a) (h2 : P b) (h3 : P d) (h4 : P e) (h5 : P f) (hx : x ∈ [a, b, d, e, f]) : P x := by
  simp only [List.mem_cons, List.not_mem_nil, or_false] at hx
  rcases hx with rfl | rfl | rfl | rfl | rfl <;> assumption
theorem five_keep {z TI TO i1 i2 : Addr} {hp hp' : Heap} (hk : ∀ b o, b ≠ z → b ≠ TO → b ≠ i1 → b ≠ i2 → hp.get? b = some o → hp'.get? b = some o) : ∀ b o, b ∉ [z, TO, i1, i2, TI] → hp.get? b = some o → hp'.get? b = some o := fun b o hb e => by
  simp only [List.mem_cons, List.not_mem_nil, or_false, not_or] at hb
  exact hk b o hb.1 hb.2.1 hb.2.2.1 hb.2.2.2.1 e
theorem tracked {l : Addr} {av : AV} {xs : List AV} (hv : VR G (.ref l) av) (hr : readL h av = some xs) : ∃ g, G l = some g := by
  cases av <;> first | (obtain ⟨a, q, w⟩ := hv; cases q; exact ⟨_, w⟩) | (simp [readL] at hr)
theorem apart1 {l : Addr} {wr : List Addr} (hl : Loose c G wr) (g : ∃ g, G l = some g) : ∀ b ∈ wr, l ≠ b := fun b hb q => by
  obtain ⟨g, hg⟩ := g
  rw [q, (hl b hb).1] at hg; cases hg
theorem A5.zip {z TI TO i1 i2 l1 l2 : Addr} (x : A5 z TI TO i1 i2) (n1 : ∀ b ∈ [z, TO, i1, i2, TI], l1 ≠ b) (n2 : ∀ b ∈ [z, TO, i1, i2, TI], l2 ≠ b) : ZipApart z TI TO i1 i2 l1 l2 := by
  obtain ⟨d1, d2, d3, d4, d5, d6, d7, d8, d9, d10⟩ := x
  constructor <;> first | assumption | exact Ne.symm (by assumption) | exact n1 _ (by simp) | exact n2 _ (by simp)

inductive ZipS (av bv : AV) (z TI TO i1 i2 : Addr) (i : Nat) (G : Gh) (hp : Heap) : Prop
  | mk (l1 l2) (v1 : VR G (.ref l1) av) (v2 : VR G (.ref l2) bv) (hz : IsZip hp z TI TO .none) (hTI : IsPair hp TI (.ref i1) (.ref i2)) (hTO : ∃ a b, IsPair hp TO a b) (h1 : hp.IsListIter i1 l1 i) (h2 : hp.IsListIter i2 l2 i)
theorem Iter.zip (z TI TO i1 i2 : Addr) (hd : A5 z TI TO i1 i2) (av bv : AV) (xs ys : List AV) :
    Iter K z [z, TO, i1, i2, TI] (min xs.length ys.length) (fun i => [xs.getD i .none, ys.getD i .none]) true (fun h => readL h av = some xs ∧ readL h bv = some ys)
    (ZipS av bv z TI TO i1 i2) where
  frame i G G' hp hp' hst hg hk := by
    obtain ⟨l1, l2, hv1, hv2, a, b, ⟨e, f, g⟩, h1, h2⟩ := hst
    exact ⟨l1, l2, hv1.mono hg, hv2.mono hg, hk z (by simp) _ a, hk TI (by simp) _ b, ⟨e, f, hk TO (by simp) _ g⟩, h1.at fun o e => hk i1 (by simp) o e, h2.at fun o e => hk i2 (by simp) o e⟩
  live i G hp hst x hx := by
    obtain ⟨l1, l2, hv1, hv2, a, b, ⟨e, f, g⟩, ⟨o1, h1, _⟩, ⟨o2, h2, _⟩⟩ := hst
    exact five_mem (P := fun x => x < hp.objs.size) (Heap.lt_size a) (Heap.lt_size g) (Heap.lt_size h1) (Heap.lt_size h2) (Heap.lt_size b) hx
  item1 e := by cases e
  item2 _ i c A G s h hi hh hst R hc hl := by
    obtain ⟨l1, l2, hv1, hv2, hz, hTI, ⟨a0, b0, hTO⟩, hi1, hi2⟩ := hst
    obtain ⟨a, vs, n, e, ho, hx⟩ := (R.listAt hc.1 hv1).inv
    cases e
    obtain ⟨a, ws, n', e, ho', hy⟩ := (R.listAt hc.2 hv2).inv
    cases e
    have hix : i < xs.length := Nat.lt_of_lt_of_le hi (Nat.min_le_left ..)
    have hiy : i < ys.length := Nat.lt_of_lt_of_le hi (Nat.min_le_right ..)
    obtain ⟨v, hv, hv'⟩ := hx.get (i := i) (x := xs.getD i .none) (by rw [List.getD_eq_getElem?_getD, List.getElem?_eq_getElem hix]; rfl)
    obtain ⟨w, hw, hw'⟩ := hy.get (i := i) (x := ys.getD i .none) (by rw [List.getD_eq_getElem?_getD, List.getElem?_eq_getElem hiy]; rfl)
    have D : ZipApart z TI TO i1 i2 l1 l2 := hd.zip (apart1 hl (tracked hv1 hc.1)) (apart1 hl (tracked hv2 hc.2))
    refine wpAny_sz (wpAny_pyNext_zip_item D hz hTI hTO hi1 hi2 ⟨_, ho, rfl, _, rfl⟩ ⟨_, ho', rfl, _, rfl⟩ (x := v) (y := w) (by simpa using hv) (by simpa using hw) fun h' a1 a2 a3 a4 a5 a6 hk hsz => ?_)
    refine ⟨s.heap.objs.size, rfl, fun elts k pos => ?_⟩
    have hTz : s.heap.objs.size ≠ z := Nat.ne_of_gt (Heap.lt_size hz)
    refine wpAny_letOwnedTupleGo_zip a1 fun h'' hz'' hs'' => ?_
    have hk2 : ∀ b o, b ∉ [z, TO, i1, i2, TI] → s.heap.get? b = some o → h''.get? b = some o := five_keep fun b o b1 b2 b3 b4 e => (hs''.2 b b1).trans (hk b o b1 b2 b3 b4 e)
    have hn : ∀ b ∈ [z, TO, i1, i2, TI], G b = none := fun b hb => (hl b hb).1
    have hsz2 : s.heap.objs.size ≤ h''.objs.size := by rw [hs''.1]; exact hsz
    refine ⟨G, #[v, w], ⟨_, (hs''.2 _ hTz).trans a5, rfl, _, rfl⟩, ⟨hv', hw', trivial⟩, Stp.loose (t := s.toks) hk2 hn hsz2, R.loose hl hk2 hsz2, l1, l2, hv1, hv2, hz'', ?_, ⟨v, w, ?_⟩, ?_, ?_⟩
    · exact (hs''.2 TI D.TIz).trans (hk TI _ D.TIz D.TITO D.TIi1 D.TIi2 hTI)
    · exact (hs''.2 TO D.TOz).trans a2
    · exact a3.at fun o e => (hs''.2 i1 D.i1z).trans e
    · exact a4.at fun o e => (hs''.2 i2 D.i2z).trans e
  done c A G s h hh hst R hc hl := by
    obtain ⟨l1, l2, hv1, hv2, hz, hTI, ⟨a0, b0, hTO⟩, hi1, hi2⟩ := hst
    obtain ⟨a, vs, n, e, ho, hx⟩ := (R.listAt hc.1 hv1).inv
    cases e
    obtain ⟨a, ws, n', e, ho', hy⟩ := (R.listAt hc.2 hv2).inv
    cases e
    have D : ZipApart z TI TO i1 i2 l1 l2 := hd.zip (apart1 hl (tracked hv1 hc.1)) (apart1 hl (tracked hv2 hc.2))
    have hend : vs[min xs.length ys.length]? = none ∨ ws[min xs.length ys.length]? = none := by
      have e1 := hx.length; have e2 := hy.length
      simp only [Array.length_toList] at e1 e2
      rcases Nat.le_total xs.length ys.length with q | q
      · exact .inl (by rw [Nat.min_eq_left q, ← e1]; simp)
      · exact .inr (by rw [Nat.min_eq_right q, ← e2]; simp)
    refine wpAny_sz (wpAny_pyNext_zip_end hh D hz hTI hTO hi1 hi2 ⟨_, ho, rfl, _, rfl⟩ ⟨_, ho', rfl, _, rfl⟩ hend fun h' hk hsz => ?_)
    have hk2 : ∀ b o, b ∉ [z, TO, i1, i2, TI] → s.heap.get? b = some o → h'.get? b = some o := five_keep hk
    have hn : ∀ b ∈ [z, TO, i1, i2, TI], G b = none := fun b hb => (hl b hb).1
    exact ⟨G, rfl, Stp.loose (t := s.toks) hk2 hn hsz, R.loose hl hk2 hsz⟩
  self i A G s Q hst hQ := let ⟨_, _, _, _, hz, _, _, _, _⟩ := hst; wpAny_pyIter_zip hz hQ

theorem EvI.zip {id p e e' pos} {P} (x : Ev K c (.Name id p) h fun f h0 => f = .raw (.type "zip") ∧ Ev K c e h0 fun a h1 => Ev K c e' h1 fun b h2 => ∃ xs ys, readL h2 a = some xs ∧ readL h2 b = some ys ∧ P (min xs.length ys.length) (fun i => [xs.getD i .none, ys.getD i .none]) true (fun h => readL h a = some xs ∧ readL h b = some ys) h2)
    (he : starEach [e, e'] c.env = [(false, eval e c.env), (false, eval e' c.env)] := by kernel_rfl) : EvI K c (.Call (.Name id p) [e, e'] [] pos) h P := fun A G s hA R => by
  refine eval_call2 rfl x hA R he fun G1 s1 u v a b h1 x1 R1 v1 v2 ⟨xs, ys, hr, hr2, q1⟩ => ?_
  obtain ⟨l1, vs, n, ho, hx⟩ := R1.listAt hr v1
  obtain ⟨l2, ws, n', ho', hy⟩ := R1.listAt hr2 v2
  refine call_zip_2 ⟨_, ho, rfl, _, rfl⟩ ⟨_, ho', rfl, _, rfl⟩ fun h' hz hTI hTO hi1 hi2 hsz hk => ?_
  refine wpAny_pyIter_zip hz ?_
  have hsz' : s1.heap.objs.size ≤ h'.objs.size := by rw [hsz]; exact Nat.le_add_right _ _
  refine ⟨_, [s1.heap.objs.size + 4, s1.heap.objs.size + 3, s1.heap.objs.size, s1.heap.objs.size + 1, s1.heap.objs.size + 2], _, _, _, _, _, G1, h1, rfl,
    Iter.zip (s1.heap.objs.size + 4) (s1.heap.objs.size + 2) (s1.heap.objs.size + 3) s1.heap.objs.size (s1.heap.objs.size + 1) ?_ a b xs ys, x1.trans (Stp.heap (t := s1.toks) hk hsz'), R1.keep hk hsz', ⟨l1, l2, v1, v2, hz, hTI, ⟨_, _, hTO⟩, hi1, hi2⟩, fun b hb => ?_, q1⟩
  · exact A5.of _
  · exact ⟨R1.none_of_ge (A5.le hb), Nat.le_trans x1.size (A5.le hb)⟩
end
end Mine
end

section
open PySem PySem.W PySem.Calls PyProof.Rows Builtin Builtin.ObjectAttr
namespace Mine
theorem fslot_set : Slot "function" "__setattr__" "object.__setattr__" :=
  .of (owner := "object") (n := "__setattr__") (by rw [typeLookup_type, builtinLookup_eq_fast]; kernel_rfl) (by decide +kernel) (by decide +kernel) (by decide +kernel)
    (by first | exact .inl (by decide +kernel) | exact .inr (by decide +kernel)) (by rw [isSubtype_type]; kernel_rfl)
theorem fslot_ga : typeLookup (.type "function") "__getattribute__" = pure (some (.builtin "object.__getattribute__")) := by rw [typeLookup_type, builtinLookup_eq_fast]; kernel_rfl
theorem fslot_ga' : Slot "function" "__getattribute__" "object.__getattribute__" :=
  .of (owner := "object") (n := "__getattribute__") (by rw [typeLookup_type, builtinLookup_eq_fast]; kernel_rfl) (by decide +kernel) (by decide +kernel) (by decide +kernel)
    (by first | exact .inl (by decide +kernel) | exact .inr (by decide +kernel)) (by rw [isSubtype_type]; kernel_rfl)
theorem f_mro : mroOf (.type "function") = pure [.type "function", .type "object"] := by rw [mroOf_type]; kernel_rfl
theorem f_hd : typeHasDict (.type "function") = true := by decide +kernel
theorem f_l2 : typeLookup (.type "function") "__getattr__" = pure none := by rw [typeLookup_type, builtinLookup_eq_fast]; kernel_rfl
theorem f_fin : finalisedInACycleAlone "function" = false := by decide +kernel
theorem f_entry_set : entryFor table "object.__setattr__" = some Builtin.«object.__setattr__» := entryFor_of_tree (by kernel_rfl)
theorem f_entry_ga : entryFor table "object.__getattribute__" = some Builtin.«object.__getattribute__» := entryFor_of_tree (by kernel_rfl)
theorem f_args_set (a b c : Value) : argsOk "object.__setattr__" ⟨[a, b, c], []⟩ := by unfold argsOk; kernel_rfl
theorem f_args_ga (a b : Value) : argsOk "object.__getattribute__" ⟨[a, b], []⟩ := by unfold argsOk; kernel_rfl
theorem f_refuse (self : Value) : refuseLoop self "__setattr__" [.type "function", .type "object"] = pure () := by kernel_rfl

section
variable {prog : Program} {w : World} {A : Around} {E : Value → Shared → Prop} {h : Heap} {g : Array GenState} {d : Drawn} {t : Nat} {os : OsState}
variable {a dx : Addr} {o : Obj} {fd : FuncData} {name : Str} {v : Value} {m : Str → Option Value}

theorem func_store_entry {tk : Tok} {Q : Fin → Shared → Prop} {ns : List Str} (ho : h.get? a = some o) (hc : o.cls = .type "function") (hB : typeLookup (.type "function") name = pure none)
    (hdx : o.dict = some dx) (hns : h.Ns1 dx m) (hw : Within m ns) (hsz : ns.length ≤ sizeLine)
    (hq : ∀ h' tk', h'.Ns1 dx (fun y => if y = name then some v else m y) → Heap.SameBut dx h h' → Q (.done (.ret .none)) ⟨h', g, d, tk', os⟩) :
    wpAny (model prog w) A (Builtin.«object.__setattr__» ⟨[.ref a, .str name tk, v], []⟩) Q E ⟨h, g, d, t, os⟩ := by
  have hT : Shared.TypeIs ⟨h, g, d, t, os⟩ (.ref a) "function" := ⟨o, ho, hc⟩
  have h1 := f_mro
  have h2 := f_refuse (.ref a)
  unfold Builtin.«object.__setattr__»
  repeat (first | rw [refuse_eq] | (rw [h2]) | (with_reducible refine wpAny_loadPart_at ho ?_; rw [hc]) | wp_step)
  rw [hdx]
  refine wpAny_pure ?_
  show wpAny _ _ (storeInDict dx (.str name tk) name v) _ _ _
  unfold storeInDict newKeyGuard
  refine wpAny_bind (wpAny_pure (wpAny_bind (wpAny_nsSet1 hns fun h' hn' hs => ?_)))
  obtain ⟨oD, esD, epD, hoD, hdD, hcD⟩ := hn'.count (Within.cons name v hw)
  refine wpAny_bind (wpAny_lookBehind hoD (by rw [hdD]; exact pastItsLine_dict (Nat.le_trans hcD (by rw [List.length_cons]; omega))) ?_)
  wp_walk
  exact hq h' _ hn' hs

theorem func_store_entry0 {tk : Tok} {Q : Fin → Shared → Prop} (ho : h.get? a = some o) (hc : o.cls = .type "function") (hd : o.data = .func fd) (hB : typeLookup (.type "function") name = pure none)
    (hdn : o.dict = none)
    (hq : ∀ h' tk', h'.Ns1 h.objs.size (fun y => if y = name then some v else none) → h'.get? a = some { o with dict := some h.objs.size } → (∀ b o', b ≠ a → h.get? b = some o' → h'.get? b = some o') → h'.objs.size = h.objs.size + 1 → Q (.done (.ret .none)) ⟨h', g, d, tk', os⟩) :
    wpAny (model prog w) A (Builtin.«object.__setattr__» ⟨[.ref a, .str name tk, v], []⟩) Q E ⟨h, g, d, t, os⟩ := by
  have hT : Shared.TypeIs ⟨h, g, d, t, os⟩ (.ref a) "function" := ⟨o, ho, hc⟩
  have h1 := f_mro
  have h2 := f_refuse (.ref a)
  unfold Builtin.«object.__setattr__»
  repeat (first | rw [refuse_eq] | (rw [h2]) | (with_reducible refine wpAny_loadPart_at ho ?_; rw [hc]) | wp_step)
  rw [hdn, if_neg (by simp [f_hd])]
  rw [hd]
  have hx₁ : (h.push { cls := .type "dict", data := .dict #[] }).get? a = some o := Heap.get?_push_of_some _ ho
  have hxs : a ≠ h.objs.size := Nat.ne_of_lt (Heap.lt_size ho)
  refine wpAny_bind (wpAny_alloc' ?_)
  refine wpAny_bind (wpAny_update' hx₁ ?_)
  unfold dictMade
  dsimp only
  rw [f_fin]
  refine wpAny_pure ?_
  have hgd : ((h.push { cls := .type "dict", data := .dict #[] }).update a fun o => { cls := o.cls, dict := some h.objs.size, data := o.data, slots := o.slots }).get? h.objs.size
      = some { cls := .type "dict", data := .dict #[] } :=
    (Heap.get?_update_ne _ _ _ _ hxs.symm).trans (Heap.get?_push_at rfl rfl)
  have hnd : ((h.push { cls := .type "dict", data := .dict #[] }).update a fun o => { cls := o.cls, dict := some h.objs.size, data := o.data, slots := o.slots }).Ns h.objs.size (fun _ => none) :=
    ⟨_, #[], _, hgd, rfl, fun e he => absurd he (by simp), fun _ => rfl⟩
  show wpAny _ _ (storeInDict h.objs.size (.str name tk) name v) _ _ _
  unfold storeInDict newKeyGuard
  refine wpAny_bind (wpAny_pure (wpAny_bind (wpAny_nsSet1 (Heap.Ns1.of_empty hnd) fun h' hn' hs => ?_)))
  obtain ⟨oD, esD, epD, hoD, hdD, hcD⟩ := hn'.count (Within.cons name v Within.nil)
  refine wpAny_bind (wpAny_lookBehind hoD (by rw [hdD]; exact pastItsLine_dict (Nat.le_trans hcD (by rw [List.length_cons, List.length_nil, sizeLine_eq]; omega))) ?_)
  wp_walk
  refine hq h' _ hn' ?_ (fun b ob hba hb => ?_) ?_
  · refine (hs.2 a hxs).trans (Heap.get?_update_self _ hx₁ ?_)
    obtain ⟨oc, od, odt, osl⟩ := o
    subst hd; rfl
  · exact (hs.2 b (Nat.ne_of_lt (Heap.lt_size hb))).trans ((Heap.get?_update_ne _ _ _ _ hba).trans (Heap.get?_push_of_some _ hb))
  · rw [hs.1, Heap.size_after_update, Heap.size_push]

theorem wpAny_setAttrF {Q : Unit → Shared → Prop} (ho : h.get? a = some o) (hc : o.cls = .type "function")
    (hB : ∀ tk, wpAny (model prog w) A.in1 (Builtin.«object.__setattr__» ⟨[.ref a, .str name tk, v], []⟩) (fun fin s' => ∃ r, fin = .done (.ret r) ∧ Q () s') E ⟨h, g, d, t + 1, os⟩) :
    wpAny (model prog w) A (setAttr (.ref a) name v) Q E ⟨h, g, d, t, os⟩ := by
  unfold setAttr
  refine wpAny_bind (wpAny_mkText ?_)
  have hT : Shared.TypeIs ⟨h, g, d, t + 1, os⟩ (.ref a) "function" := ⟨o, ho, hc⟩
  refine wpAny_bind (wpAny_callSpecial?_slot (name := Str.ofString "__setattr__") hT fslot_set (wpAny_call_entry fslot_set hT f_entry_set ?_ (f_args_set _ _ _)))
  refine wpAny_mono (hB _) (fun fin s' hq => ?_) fun _ _ e => e
  obtain ⟨r, e, q⟩ := hq
  exact ⟨r, e, wpAny_pure q⟩

theorem func_load_entry {tk : Tok} {Q : Fin → Shared → Prop} (ho : h.get? a = some o) (hc : o.cls = .type "function") (hd : o.data = .func fd) (hB : typeLookup (.type "function") name = pure none)
    (hdx : o.dict = some dx) (hns : h.Ns1 dx m) (hv : m name = some v) (hq : Q (.done (.ret v)) ⟨h, g, d, t, os⟩) :
    wpAny (model prog w) A (Builtin.«object.__getattribute__» ⟨[.ref a, .str name tk], []⟩) Q E ⟨h, g, d, t, os⟩ := by
  have hT : Shared.TypeIs ⟨h, g, d, t, os⟩ (.ref a) "function" := ⟨o, ho, hc⟩
  unfold Builtin.«object.__getattribute__»
  repeat (first | (with_reducible refine wpAny_loadPart_at ho ?_; rw [hd]) | (with_reducible refine wpAny_loadPart_at ho ?_; rw [hc]) | wp_step)
  rw [hc, hdx]
  dsimp only
  repeat (first | (with_reducible refine wpAny_nsGet hns.ns ?_; rw [hv]) | wp_step)
  exact hq

theorem wpAny_getAttrF {Q : Value → Shared → Prop} {ex : Bool} (ho : h.get? a = some o) (hc : o.cls = .type "function") (hd : o.data = .func fd) (hB : typeLookup (.type "function") name = pure none)
    (hdx : o.dict = some dx) (hns : h.Ns1 dx m) (hv : m name = some v) (hh : handedOut v = pure v) (hq : Q v ⟨h, g, d, t + 1, os⟩) :
    wpAny (model prog w) A (getAttr (.ref a) name ex) Q E ⟨h, g, d, t, os⟩ := by
  unfold getAttr
  refine wpAny_bind (wpAny_mkText ?_)
  have hT : Shared.TypeIs ⟨h, g, d, t + 1, os⟩ (.ref a) "function" := ⟨o, ho, hc⟩
  unfold getAttrBy
  refine wpAny_holding (wpAny_bind (wpAny_typeOf hT (wpAny_bind (wpAny_of_eq fslot_ga ?_))))
  show wpAny _ _ (getAttrByItsOwn (.ref a) (.str name t) (.type "function") (.builtin "object.__getattribute__") true ex) _ _ _
  unfold getAttrByItsOwn
  refine wpAny_bind (wpAny_of_eq (a := none) (by rfl) ?_)
  refine wpAny_bind (wpAny_attempt (wpAny_holding ?_))
  have hcg : callGetattribute (.ref a) (.str name t) (.builtin "object.__getattribute__") ex = boundAndCalled (.builtin "object.__getattribute__") (.ref a) (.str name t) := by
    unfold callGetattribute onTheHeap
    simp
  rw [hcg]
  unfold boundAndCalled
  rw [fslot_ga'.bind]
  refine wpAny_bind (wpAny_pure ?_)
  refine wpAny_call_entry fslot_ga' hT f_entry_ga ?_ (f_args_ga _ _)
  refine func_load_entry ho hc hd hB hdx hns hv ⟨v, rfl, ?_⟩
  dsimp only
  rw [hh]
  exact wpAny_pure hq

theorem wpAny_getMethodF {Q : Value × List Value → Shared → Prop} {pl : Sem Bool} (ho : h.get? a = some o) (hc : o.cls = .type "function") (hd : o.data = .func fd) (hB : typeLookup (.type "function") name = pure none)
    (hdx : o.dict = some dx) (hns : h.Ns1 dx m) (hv : m name = some v) (hh : handedOut v = pure v) (hq : Q (v, []) ⟨h, g, d, t + 1, os⟩) :
    wpAny (model prog w) A (getMethod (.ref a) name pl) Q E ⟨h, g, d, t, os⟩ := by
  have hT : Shared.TypeIs ⟨h, g, d, t, os⟩ (.ref a) "function" := ⟨o, ho, hc⟩
  have hcan : (Manifest.canonical "object.__getattribute__" != "object.__getattribute__") = false := by decide +kernel
  unfold getMethod
  refine wpAny_bind (wpAny_specialOf hT fslot_ga ?_)
  dsimp only
  rw [hcan]
  simp only [Bool.false_eq_true, if_false]
  refine wpAny_bind (wpAny_specialOf hT f_l2 ?_)
  simp only [Option.isSome_none, Bool.false_eq_true, if_false]
  refine wpAny_bind (wpAny_specialOf hT hB ?_)
  dsimp only
  exact wpAny_bind (wpAny_getAttrF ho hc hd hB hdx hns hv hh (wpAny_pure hq))
end
end Mine
end

section
open PySem PySem.W PySem.Calls PyProof.Rows
namespace Mine
section
variable {K : Bse} {c : Cx} {h : Hp} {G G' : Gh} {s s' s'' : Shared} {A : Around} {hp hp' : Heap}

theorem Rel.updX (R : Rel K c h G hp) {a : Addr} {l : Nat} (ha : G a = some (.loc l)) (hk : ∀ b o, b ≠ a → hp.get? b = some o → hp'.get? b = some o) (hsz : hp.objs.size ≤ hp'.objs.size) {o : Obj} (ho : hp'.get? a = some o) {ao : AObj} (hv : OL K G o ao) : Rel K c (h.put l ao) G hp' where
  cells b g e := by
    by_cases q : b = a
    · subst q; rw [ha] at e; cases e
      refine ⟨o, ho, ?_⟩
      show match (h.put l ao) l with | none => True | some ao => OL K _ o ao
      rw [Hp.put_self]; exact hv
    · obtain ⟨o', ho', x⟩ := R.cells b g e
      refine ⟨o', hk b o' q ho', ?_⟩
      cases g with
      | base _ => exact x
      | val _ => exact x
      | loc l' =>
        have : l' ≠ l := fun w => q (R.inj b a l (w ▸ e) ha)
        simp only [Sat] at x ⊢
        rw [Hp.put_ne _ _ this]; exact x
  bound := R.bound
  inj := R.inj
  live l' o' e := by
    by_cases q : l' = l
    · subst q; exact ⟨a, ha⟩
    · rw [Hp.put_ne _ _ q] at e; exact R.live l' o' e
  base := R.base
  tabs := R.tabs
  kind := R.kind
  glob := R.glob
  ns := by
    obtain ⟨m, hn, hb⟩ := R.ns
    have hla : c.env.locals ≠ a := fun q => by have := (R.own1 _ c.own0).1; rw [q, ha] at this; cases this
    refine ⟨m, hn.at' fun o e => hk _ o hla e, fun x av e => ?_⟩
    obtain ⟨v, hv, h1 | ⟨h2, k, hk', oc, hoc, hdc⟩⟩ := hb x av e
    · exact ⟨v, hv, .inl h1⟩
    · exact ⟨v, hv, .inr ⟨h2, k, hk', oc, hk _ oc ((R.cell x k hk').2.1.noLoc ha) hoc, hdc⟩⟩
  own1 b hb := ⟨(R.own1 b hb).1, Nat.lt_of_lt_of_le (R.own1 b hb).2 hsz⟩
  cell x k e := let ⟨p, q, w, oc, hoc, hdc⟩ := R.cell x k e; ⟨p, q, w, oc, hk _ oc (q.noLoc ha) hoc, hdc⟩
  cellInj := R.cellInj
theorem Stp.updX {own : List Addr} {a : Addr} {l t : Nat} (ha : G a = some (.loc l)) (hk : ∀ b o, b ≠ a → s.heap.get? b = some o → hp'.get? b = some o) (hsz : s.heap.objs.size ≤ hp'.objs.size) : Stp own G G s { s with heap := hp', toks := t } :=
  ⟨Grow.refl _, fun _ h _ => h, hsz, fun b o hb _ e => hk b o (fun q => by rw [q, ha] at hb; cases hb) e, fun b _ o hb e => hk b o (fun q => by rw [q, ha] at hb; cases hb) e, rfl, rfl⟩

/-- something loose becomes an object that may change -/
theorem Rel.locAt (R : Rel K c h G hp) {b : Addr} (hl : Loose c G [b]) {o : Obj} (ho : hp.get? b = some o) {ao : AObj} (hv : OL K G o ao) : ∃ l, h l = none ∧ Rel K c (h.put l ao) (Gput G b (.loc l)) hp := by
  obtain ⟨h1, h2, h3⟩ := hl b (List.mem_singleton.mpr rfl)
  obtain ⟨n, hb⟩ := R.bound
  have hnone : h n = none := by
    cases e : h n with
    | none => rfl
    | some o => obtain ⟨b, q⟩ := R.live n o e; exact absurd (hb b n q) (Nat.lt_irrefl _)
  refine ⟨n, hnone, ?_⟩
  refine R.put h1 (fun q => ?_) (fun x k e q => h3 x (q ▸ e)) ho (g := .loc n) ?_ (fun _ _ => trivial) ?_ ?_ ?_ ?_
  · rcases Cx.own_cases q with q | ⟨y, q⟩
    · exact h2 q
    · exact h3 y q
  · show match (h.put n ao) n with | none => True | some ao => OL K _ o ao
    rw [Hp.put_self]; exact OL.mono (Gput_grow h1) hv
  · intro b' g' hba e o' x
    cases g' with
    | base _ => exact x
    | val _ => exact x
    | loc l =>
      have : l ≠ n := fun q => by subst q; exact absurd (hb b' l e) (Nat.lt_irrefl _)
      simp only [Sat] at x ⊢
      rw [Hp.put_ne _ _ this]; exact x
  · refine ⟨n + 1, fun b' l e => ?_⟩
    by_cases q : b' = b
    · subst q; rw [Gput_self] at e; cases e; omega
    · rw [Gput_ne _ _ q] at e; have := hb b' l e; omega
  · intro b1 b' l e e'
    by_cases q : b1 = b
    · subst q; rw [Gput_self] at e; cases e
      by_cases q' : b' = b1
      · exact q'.symm
      · rw [Gput_ne _ _ q'] at e'; exact absurd (hb _ _ e') (Nat.lt_irrefl _)
    · rw [Gput_ne _ _ q] at e
      by_cases q' : b' = b
      · subst q'; rw [Gput_self] at e'; cases e'; exact absurd (hb _ _ e) (Nat.lt_irrefl _)
      · rw [Gput_ne _ _ q'] at e'; exact R.inj b1 b' l e e'
  · intro l o e
    by_cases q : l = n
    · subst q; exact ⟨b, Gput_self ..⟩
    · rw [Hp.put_ne _ _ q] at e
      obtain ⟨b', hb'⟩ := R.live l o e
      exact ⟨b', Gput_grow h1 _ _ hb'⟩

theorem AttrsO.ns1 {a : Addr} {o : Obj} {es} (ho : hp.get? a = some o) (x : AttrsO G o es) : ∃ m, hp.Ns1 a m ∧ (∀ y, match es.lookup y with | some av => ∃ v, m y = some v ∧ VR G v av | none => m y = none) ∧ Within m (es.map (·.1)) := by
  obtain ⟨xs, ep, h1, h2, h3, h4⟩ := x
  refine ⟨nsFind xs, ⟨o, xs, ep, ho, h1, h2, h3, fun _ => rfl⟩, h4, fun y hy => ?_⟩
  have := h4 y
  cases e : es.lookup y with
  | none => rw [e] at this; exact absurd this hy
  | some av => exact List.mem_map.mpr ⟨(y, av), mem_of_lookup e, rfl⟩
theorem AttrsO.of {a : Addr} {m : Str → Option Value} {es} (x : hp.Ns1 a m) (h1 : ∀ y, match es.lookup y with | some av => ∃ v, m y = some v ∧ VR G v av | none => m y = none) : ∃ o, hp.get? a = some o ∧ AttrsO G o es := by
  obtain ⟨o, xs, ep, e, d, k, u, f⟩ := x
  refine ⟨o, e, xs, ep, d, k, u, fun y => ?_⟩
  rw [f y]; exact h1 y
theorem attrs_set {m : Str → Option Value} {es} {name : Str} {v : Value} {av : AV} (hv : VR G v av) (h1 : ∀ y, match es.lookup y with | some av => ∃ v, m y = some v ∧ VR G v av | none => m y = none) :
    ∀ y, match (setL es name av).lookup y with | some av => ∃ w, (if y = name then some v else m y) = some w ∧ VR G w av | none => (if y = name then some v else m y) = none := by
  intro y
  rw [lookup_setL]
  by_cases q : y = name
  · simp only [q, if_true]; exact ⟨v, rfl, hv⟩
  · simp only [q, if_false]; exact h1 y

inductive ObjR (K : Bse) (G : Gh) (hp : Heap) (l : Nat) (ao : AObj) : Value → Prop
  | mk (a o) (hg : G a = some (.loc l)) (ho : hp.get? a = some o) (x : OL K G o ao) : ObjR K G hp l ao (.ref a)
theorem ObjR.inv {K : Bse} {G : Gh} {hp : Heap} {l : Nat} {ao : AObj} {v : Value} : ObjR K G hp l ao v → ∃ a o, v = .ref a ∧ G a = some (.loc l) ∧ hp.get? a = some o ∧ OL K G o ao
  | .mk a o hg ho x => ⟨a, o, rfl, hg, ho, x⟩
theorem Rel.objAt {l : Nat} {ao : AObj} {v : Value} (R : Rel K c h G hp) (hv : VR G v (.obj l)) (he : h l = some ao) : ObjR K G hp l ao v := by
  obtain ⟨a, rfl, hg⟩ := hv
  obtain ⟨o, ho, hs⟩ := R.cells _ _ hg
  simp only [Sat, he] at hs
  exact ⟨a, o, hg, ho, hs⟩
theorem Rel.locObj {l : Nat} {ao : AObj} {a : Addr} (R : Rel K c h G hp) (hg : G a = some (.loc l)) (he : h l = some ao) : ∃ o, hp.get? a = some o ∧ OL K G o ao := by
  obtain ⟨o, ho, hs⟩ := R.cells _ _ hg
  simp only [Sat, he] at hs
  exact ⟨o, ho, hs⟩

/-- a value that an attribute hands out as it is -/
noncomputable def handed : AV → Bool
  | .raw (.builtin _) => false
  | _ => true
theorem handed_of {v : Value} {av : AV} (hv : VR G v av) (h1 : handed av = true) : handedOut v = pure v := by
  cases av with
  | raw u =>
    have e : v = u := hv
    subst e
    cases v <;> first | rfl | cases h1
  | none => cases hv; rfl
  | bool _ => cases hv; rfl
  | int _ => obtain ⟨t, rfl⟩ := hv; rfl
  | str _ => obtain ⟨t, rfl⟩ := hv; rfl
  | _ => obtain ⟨a, rfl, _⟩ := hv; rfl

noncomputable def fnPlain (name : Str) : Prop := typeLookup (.type "function") name = pure none

/-- an object with an attribute dictionary -/
inductive HasAttr (h : Hp) (l : Nat) (name : Str) (av : AV) : Prop
  | mk (fd dl es) (h1 : h l = some (.func fd (some dl))) (h2 : h dl = some (.attrs es)) (h3 : es.lookup name = some av) (h4 : handed av = true)

inductive FaR (G : Gh) (hp : Heap) (name : Str) (av : AV) : Value → Prop
  | mk (a o fd dx m w) (ho : hp.get? a = some o) (c1 : o.cls = .type "function") (c2 : o.data = .func fd) (c4 : o.dict = some dx) (n1 : hp.Ns1 dx m) (w1 : m name = some w) (w2 : VR G w av) (hh : handedOut w = pure w) : FaR G hp name av (.ref a)
theorem func_attr {l : Nat} {name : Str} {av : AV} {v : Value} (R : Rel K c h G hp) (hv : VR G v (.obj l)) (hb : HasAttr h l name av) :
    FaR G hp name av v := by
  obtain ⟨fd, dl, es, h1, h2, h3, h4⟩ := hb
  obtain ⟨a, o, hg, ho, c1, c2, c3, dx, c4, c5⟩ := R.objAt hv h1
  obtain ⟨od, hod, hat⟩ := R.locObj c5 h2
  obtain ⟨m, n1, n2, n3⟩ := AttrsO.ns1 hod hat
  have := n2 name
  rw [h3] at this
  obtain ⟨w, w1, w2⟩ := this
  exact ⟨a, o, fd, dx, m, w, ho, c1, c2, c4, n1, w1, w2, handed_of w2 h4⟩

inductive PM (K : Bse) (c : Cx) (G : Gh) (s : Shared) (Q : AV → List AV → Hp → Prop) (r : Value × List Value) (s' : Shared) : Prop
  | mk (G' f fs h') (st : Stp c.own G G' s s') (rel : Rel K c h' G' s'.heap) (v : VR G' r.1 f) (vs : VRs G' r.2 fs) (q : Q f fs h')
/-- what a method form gives -/
noncomputable def Meth (K : Bse) (c : Cx) (name : Str) (a : AV) (h : Hp) (Q : AV → List AV → Hp → Prop) : Prop :=
  ∀ A G s u pl, OkA c.d A → Rel K c h G s.heap → VR G u a → wpAny K.M A (getMethod u name pl) (PM K c G s Q) NoE s
/-- the load of an attribute -/
noncomputable def Attr (K : Bse) (c : Cx) (name : Str) (a : AV) (h : Hp) (Q : AV → Hp → Prop) : Prop :=
  ∀ A G s u ex, OkA c.d A → Rel K c h G s.heap → VR G u a → wpAny K.M A (getAttr u name ex) (PostE K c G s Q) NoE s
/-- the store of an attribute -/
noncomputable def SetA (K : Bse) (c : Cx) (name : Str) (a b : AV) (h : Hp) (Q : Hp → Prop) : Prop :=
  ∀ A G s u v, OkA c.d A → Rel K c h G s.heap → VR G u a → VR G v b → wpAny K.M A (setAttr u name v) (fun _ s' => PB c.own G s s' (Rel K c) Q) NoE s

theorem Meth.func {l : Nat} {name : Str} {av : AV} {Q} (hb : HasAttr h l name av) (hn : fnPlain name) (hQ : Q av [] h) : Meth K c name (.obj l) h Q := fun A G s u pl hA R hu => by
  obtain ⟨a, o, fd, dx, m, w, ho, c1, c2, c4, n1, w1, w2, hh⟩ := func_attr R hu hb
  obtain ⟨hp, g, d, t, os⟩ := s
  exact wpAny_getMethodF ho c1 c2 hn c4 n1 w1 hh ⟨G, av, [], h, (Stp.refl _ _ ⟨hp, g, d, t, os⟩).toks, R, w2, trivial, hQ⟩
theorem Attr.func {l : Nat} {name : Str} {av : AV} {Q} (hb : HasAttr h l name av) (hn : fnPlain name) (hQ : Q av h) : Attr K c name (.obj l) h Q := fun A G s u ex hA R hu => by
  obtain ⟨a, o, fd, dx, m, w, ho, c1, c2, c4, n1, w1, w2, hh⟩ := func_attr R hu hb
  obtain ⟨hp, g, d, t, os⟩ := s
  exact wpAny_getAttrF ho c1 c2 hn c4 n1 w1 hh ⟨G, av, h, (Stp.refl _ _ ⟨hp, g, d, t, os⟩).toks, R, w2, hQ⟩
theorem SetA.func {l dl : Nat} {fd : FuncData} {es : Lc} {name : Str} {b : AV} {Q} (h1 : h l = some (.func fd (some dl))) (h2 : h dl = some (.attrs es)) (hsz : es.length ≤ 1000) (hn : fnPlain name) (hQ : Q (h.put dl (.attrs (setL es name b)))) : SetA K c name (.obj l) b h Q := fun A G s u v hA R hu hv => by
  obtain ⟨a, o, hg, ho, c1, c2, c3, dx, c4, c5⟩ := R.objAt hu h1
  obtain ⟨od, hod, hat⟩ := R.locObj c5 h2
  obtain ⟨m, n1, n2, n3⟩ := AttrsO.ns1 hod hat
  obtain ⟨hp, g, d, t, os⟩ := s
  refine wpAny_setAttrF ho c1 fun tk => func_store_entry ho c1 hn c4 n1 n3 (by rw [List.length_map, sizeLine_eq]; omega) fun h' tk' n1' hs' => ⟨_, rfl, ?_⟩
  obtain ⟨o', ho', hat'⟩ := AttrsO.of (G := G) n1' (attrs_set hv n2)
  exact ⟨G, _, Stp.atLoc (s := ⟨hp, g, d, t, os⟩) c5 hs', R.upd c5 hs' ho' (ao := .attrs (setL es name b)) hat', hQ⟩
theorem SetA.func0 {l : Nat} {fd : FuncData} {name : Str} {b : AV} {Q} (h1 : h l = some (.func fd none)) (hn : fnPlain name) (hQ : ∀ dl, h dl = none → Q ((h.put dl (.attrs [(name, b)])).put l (.func fd (some dl)))) : SetA K c name (.obj l) b h Q := fun A G s u v hA R hu hv => by
  obtain ⟨a, o, hg, ho, c1, c2, c3, c4⟩ := R.objAt hu h1
  obtain ⟨hp, g, d, t, os⟩ := s
  replace ho : hp.get? a = some o := ho
  replace R : Rel K c h G hp := R
  refine wpAny_setAttrF ho c1 fun tk => func_store_entry0 ho c1 c2 hn c4 fun h' tk' n1' ho' hk hsz => ⟨_, rfl, ?_⟩
  have hsz' : hp.objs.size ≤ h'.objs.size := by rw [hsz]; exact Nat.le_succ _
  have st1 : Stp c.own G G ⟨hp, g, d, t, os⟩ ⟨h', g, d, tk', os⟩ := Stp.updX (s := ⟨hp, g, d, t, os⟩) hg hk hsz'
  have R1 : Rel K c (h.put l .other) G h' := R.updX hg hk hsz' ho' (ao := .other) trivial
  have hnone : G hp.objs.size = none := R.none_of_ge (Nat.le_refl _)
  have hl : Loose c G [hp.objs.size] := fun b hb => by
    rw [List.mem_singleton.mp hb]
    exact ⟨hnone, fun q => absurd (R.own1 _ c.own0).2 (by rw [← q]; exact Nat.lt_irrefl _), fun x q => absurd (R.cell_lt q) (Nat.lt_irrefl _)⟩
  obtain ⟨od, hod, hat⟩ := AttrsO.of (G := G) (es := [(name, b)]) n1' (fun y => by
    simp only [List.lookup_cons, List.lookup_nil]
    by_cases q : y = name
    · simp only [q, beq_self_eq_true, if_true]; exact ⟨v, rfl, hv⟩
    · have : (y == name) = false := by simpa using q
      simp [q, this])
  obtain ⟨dl, hdl, R2⟩ := R1.locAt hl hod (ao := .attrs [(name, b)]) hat
  have hne : dl ≠ l := fun q => by rw [q, Hp.put_self] at hdl; cases hdl
  have hgl : Gput G hp.objs.size (.loc dl) a = some (.loc l) := Gput_grow hnone _ _ hg
  have R3 : Rel K c (((h.put l .other).put dl (.attrs [(name, b)])).put l (.func fd (some dl))) (Gput G hp.objs.size (.loc dl)) h' :=
    R2.updX (hp' := h') hgl (fun _ _ _ e => e) (Nat.le_refl _) ho' ⟨c1, c2, c3, hp.objs.size, rfl, Gput_self ..⟩
  have e : ((h.put l .other).put dl (.attrs [(name, b)])).put l (.func fd (some dl)) = (h.put dl (.attrs [(name, b)])).put l (.func fd (some dl)) := by
    funext k
    simp only [Hp.put]
    split
    · rfl
    · split
      · rfl
      · rfl
  rw [e] at R3
  refine ⟨_, _, ⟨Gput_grow hnone, fun b hb hbl => ?_, st1.size, fun b o' hb hbo e' => st1.keep b o' hb hbo e', fun b av o' hb e' => st1.keepV b av o' hb e', rfl, rfl⟩, R3, hQ dl (by rw [Hp.put_ne _ _ hne] at hdl; exact hdl)⟩
  rw [Gput_ne]
  · exact hb
  · rintro rfl; exact Nat.lt_irrefl _ hbl

/-! expressions -/
theorem Ev.attr {o name pos} {Q} (x : Ev K c o h fun a h1 => Attr K c name a h1 Q) (hb : ∀ whole, attributeBase o name c.env whole = whole := by intro _; kernel_rfl) : Ev K c (.Attribute o name pos) h Q := fun A G s hA R => by
  rw [arm_eval_Attribute, hb]
  refine wpAny_bind (wpAny_mono (x A G s hA R) (fun u s1 zp => PE.use zp fun G1 a h1 x1 R1 v1 q1 => ?_) fun _ _ z => z)
  refine wpAny_bind (wpAny_standAt (wpAny_bind (wpAny_holding (wpAny_mono (q1 A G1 s1 u true hA R1 v1) (fun w s2 p => wpAny_bind (wpAny_letTemporaryGo (wpAny_pure (PostE.trans x1 p)))) fun _ _ z => z))))
theorem As.attr {o name pos b} {Q} (x : Ev K c o h fun a h1 => SetA K c name a b h1 fun h2 => Q c.L h2) : As K c (.Attribute o name pos) b h Q := fun A G s v hA R hv => by
  rw [arm_assign_Attribute]
  refine wpAny_bind (wpAny_holding (wpAny_mono (x A G s hA R) (fun u s1 zp => PE.use zp fun G1 a h1 x1 R1 v1 q1 => ?_) fun _ _ z => z))
  refine wpAny_bind (wpAny_standAt (wpAny_bind (wpAny_holding (wpAny_mono (q1 A G1 s1 u v hA R1 v1 (hv.mono x1.grow)) (fun _ s2 zp => PB.use zp fun G2 h2 x2 R2 q2 => wpAny_release ⟨G2, c.L, h2, x1.trans x2, R2, q2⟩) fun _ _ z => z))))

/-- a call of the form o.name(...) -/
theorem Ev.meth {o name apos args ks pos} {d : Nat} {Q} (x : Ev K c o h fun a h0 => Meth K c name a h0 fun f fs h1 => Es K c args h1 fun as h2 => Ks K c ks h2 fun kv h3 => kv.length = (kwNames ks).length ∧ Kp K f h3 ∧ Ca K d f (fs ++ as) ((kwNames ks).zip kv) h3 Q) (hd : c.d = d + 1)
    (hb : ∀ whole, attributeBase o name c.env whole = whole := by intro _; kernel_rfl) (hx : (starEach args c.env).any (·.1) = false := by kernel_rfl) (hk : (keywordEach ks c.env).all (·.1.isSome) = true := by kernel_rfl)
    (hf : methodCallForm (args.length + ks.length) (backTo pos (starEach args c.env)) (backToKw pos (keywordEach ks c.env)) = true := by kernel_rfl) (hp : (apos.endLine == pos.line) = true := by kernel_rfl) :
    Ev K c (.Call (.Attribute o name apos) args ks pos) h Q := fun A G s hA R => by
  rw [arm_eval_Call, hb]
  refine wpAny_bind (wpAny_mono (x A G s hA R) (fun u s1 zp => PE.use zp fun G1 a h1 x1 R1 v1 q1 => ?_) fun _ _ z => z)
  refine wpAny_bind (wpAny_standAt ?_)
  unfold methodCall calleeOf
  rw [hf]
  refine wpAny_bind (wpAny_holding (wpAny_mono (q1 A G1 s1 u _ hA R1 v1) (fun r s2 ⟨G2, f, fs, h2, x2, R2, v2, vs2, q2⟩ => ?_) fun _ _ z => z))
  obtain ⟨fv, first⟩ := r
  have e : methodCallPos true o c.env apos pos = pure pos := by unfold methodCallPos; rw [hp]; rfl
  refine wpAny_bind (wpAny_of_eq e ?_)
  exact wpAny_mono (wpAny_callWith hd hA R2 v2 vs2 q2 hx hk) (fun _ _ p => PostE.trans (x1.trans x2) p) fun _ _ z => z
end
end Mine
end

section
open PySem PySem.W PySem.Calls PyProof.Rows
namespace Mine
section
variable {K : Bse} {c : Cx} {h : Hp} {G G' : Gh} {s s' s'' : Shared} {A : Around} {hp hp' : Heap} {Q : AV → Hp → Prop}

/-! list operations -/
theorem Op2.addL {a b : AV} {xs ys : List AV} (ha : readL h a = some xs) (hb : readL h b = some ys) (hsz : xs.length + ys.length ≤ sizeLine) (hQ : Q (.list (xs ++ ys)) h) : Op2 K c (binaryOp .Add) a b h Q := fun A G s u v hA R hu hv => by
  obtain ⟨l, vs, n, ho, hx⟩ := R.listAt ha hu
  obtain ⟨l', ws, n', ho', hy⟩ := R.listAt hb hv
  have e1 := hx.length; have e2 := hy.length
  simp only [Array.length_toList] at e1 e2
  exact P.add_list ho ho' (PostE.fresh (av := .list (xs ++ ys)) R rfl ⟨_, _, rfl, by rw [Array.toList_append]; exact hx.append hy⟩ rfl (fun _ a e => ⟨a, rfl, e⟩) hQ) (by rw [e1, e2]; exact hsz)
/-- the sum, to be changed later -/
theorem Op2.addLM {a b : AV} {xs ys : List AV} (ha : readL h a = some xs) (hb : readL h b = some ys) (hsz : xs.length + ys.length ≤ sizeLine) (hQ : ∀ l, h l = none → Q (.obj l) (h.put l (.list (xs ++ ys)))) : Op2 K c (binaryOp .Add) a b h Q := fun A G s u v hA R hu hv => by
  obtain ⟨l, vs, n, ho, hx⟩ := R.listAt ha hu
  obtain ⟨l', ws, n', ho', hy⟩ := R.listAt hb hv
  have e1 := hx.length; have e2 := hy.length
  simp only [Array.length_toList] at e1 e2
  exact P.add_list ho ho' (PostE.freshLoc (ao := .list (xs ++ ys)) R rfl ⟨_, _, rfl, by rw [Array.toList_append]; exact hx.append hy⟩ rfl hQ) (by rw [e1, e2]; exact hsz)

theorem VRs.rep {vs : List Value} {xs : List AV} (hx : VRs G vs xs) : ∀ n, VRs G (List.replicate n vs).flatten (List.replicate n xs).flatten
  | 0 => trivial
  | n + 1 => by rw [List.replicate_succ, List.replicate_succ, List.flatten_cons, List.flatten_cons]; exact hx.append (VRs.rep hx n)
theorem Op2.mulL {a : AV} {x : AV} {i : Int} (ha : readL h a = some [x]) (hi : -(2 ^ 24) ≤ i) (hi' : i ≤ 2 ^ 24) (hQ : Q (.list (List.replicate i.toNat x)) h) : Op2 K c (binaryOp .Mult) a (.int i) h Q := fun A G s u v hA R hu hv => by
  obtain ⟨l, vs, n, ho, hx⟩ := R.listAt ha hu
  obtain ⟨t, rfl⟩ := hv
  have e1 := hx.length
  simp only [Array.length_toList, List.length_cons, List.length_nil] at e1
  have e2 : vs.isEmpty = false := by
    rw [Array.isEmpty_eq_false_iff]; intro q; rw [q] at e1; simp at e1
  refine wpAny_binaryOp_repeat_ref (T := "list") (U := "int") (by decide) ⟨_, ho, rfl⟩ (fun s' => typeIs_int s' i t) noFill_list_mul F.fills_int_mul F.slot_int_rmul repeat_list F.slot_int_index.lookup
    (call_meets F.slot_int_rmul (typeIs_int s i t) F.entry_int_rmul (F.args_int_rmul_2 _ _) (int___rmul___int_list i t l vs n)
      ⟨ho, rfl, ⟨_, ho, rfl⟩, call_meets F.slot_list_mul ⟨_, ho, rfl⟩ F.entry_list_mul (F.args_list_mul_2 _ _)
        (AutoListH.list___mul___list_int_3 l vs n i t (by simp [Builtin.List.listFitsIndex]; omega) (by rw [e1]; omega) (by simp [Builtin.List.listTooLong, sizeLine, e1]; omega))
        ⟨ho, ?_⟩⟩)
  refine PostE.fresh (av := .list (List.replicate i.toNat x)) R rfl ⟨_, _, rfl, ?_⟩ rfl (fun _ a e => ⟨a, rfl, e⟩) hQ
  rw [e2]
  simp only [Bool.false_eq_true, if_false, listMul_foldl]
  have := VRs.rep hx i.toNat
  have e3 : (List.replicate i.toNat [x]).flatten = List.replicate i.toNat x := by
    generalize i.toNat = k
    induction k with
    | zero => rfl
    | succ k ih => rw [List.replicate_succ, List.flatten_cons, ih, List.replicate_succ]; rfl
  rw [e3] at this
  simpa using this

/-! str operations -/
theorem Op2.addS {x y : Str} (hx : x.length + y.length ≤ 1000) (hQ : Q (.str (x ++ y)) h) : Op2 K c (binaryOp .Add) (.str x) (.str y) h Q := fun A G s u v hA R hu hv => by
  obtain ⟨t, rfl⟩ := hu; obtain ⟨t', rfl⟩ := hv
  refine P.add_str ?_
  split
  · rename_i q
    have e : x ++ y = y := by
      have : x.cps = #[] := by simpa [Str.length] using q
      show (⟨x.cps ++ y.cps⟩ : Str) = y
      rw [this]; simp
    exact PostE.now' (av := .str (x ++ y)) R ⟨t', by rw [e]⟩ hQ
  · split
    · rename_i q
      have e : x ++ y = x := by
        have : y.cps = #[] := by simpa [Str.length] using q
        show (⟨x.cps ++ y.cps⟩ : Str) = x
        rw [this]; simp
      exact PostE.now' (av := .str (x ++ y)) R ⟨t, by rw [e]⟩ hQ
    · refine ⟨?_, PostE.now (av := .str (x ++ y)) R ⟨_, rfl⟩ hQ⟩
      have : (x ++ y).length = x.length + y.length := by show (x.cps ++ y.cps).size = _; simp [Str.length]
      rw [this, sizeLine_eq]; omega
noncomputable def repS (x : Str) (n : Nat) : Str := ⟨(List.replicate n x.cps).foldl (· ++ ·) #[]⟩
theorem foldl_size (a : Array Nat) : ∀ (n : Nat) (acc : Array Nat), ((List.replicate n a).foldl (· ++ ·) acc).size = acc.size + n * a.size
  | 0, acc => by simp
  | n + 1, acc => by rw [List.replicate_succ, List.foldl_cons, foldl_size a n]; simp [Nat.add_mul]; omega
theorem repS_length (x : Str) (n : Nat) : (repS x n).length = n * x.length := by
  show (repS x n).cps.size = n * x.cps.size
  unfold repS; rw [foldl_size]; simp
theorem Op2.mulS {x : Str} {i : Int} (hx : x.length = 1) (hi : -1000 ≤ i) (hi' : i ≤ 1000) (hQ : Q (.str (repS x i.toNat)) h) : Op2 K c (binaryOp .Mult) (.str x) (.int i) h Q := fun A G s u v hA R hu hv => by
  obtain ⟨t, rfl⟩ := hu; obtain ⟨t', rfl⟩ := hv
  refine P.mul_str (by simp; omega) (fun h1 h2 => ?_) (fun h1 h2 => ?_) ?_
  · rw [hx]
    have hpos : (0 : Int) < i := by omega
    have : (1 : Int) ≤ (2 ^ 63 - 1) / i := Int.le_ediv_of_mul_le hpos (by omega)
    show ¬ ((1 : Nat) : Int) > _
    omega
  · rw [hx]
    show decide (_ > _) = false
    rw [sizeLine_eq]
    exact decide_eq_false (by omega)
  · split
    · rename_i q
      have : i.toNat = 0 := by omega
      rw [this] at hQ
      exact ⟨by decide, PostE.now (av := .str (repS x 0)) R ⟨_, rfl⟩ hQ⟩
    · split
      · rename_i q1 q2
        have : i = 1 := by rw [hx] at q2; simpa using q2
        subst this
        refine PostE.now' (av := .str (repS x 1)) R ⟨t, ?_⟩ hQ
        congr 1
        show x = (⟨(#[] : Array Nat) ++ x.cps⟩ : Str)
        simp
      · refine ⟨?_, PostE.now (av := .str (repS x i.toNat)) R ⟨_, rfl⟩ hQ⟩
        show (repS x i.toNat).length ≤ sizeLine
        rw [repS_length, hx, sizeLine_eq]; omega

/-! subscripts -/
noncomputable def GetI (K : Bse) (c : Cx) (a b : AV) (h : Hp) (Q : AV → Hp → Prop) : Prop :=
  ∀ A G s u v, OkA c.d A → Rel K c h G s.heap → VR G u a → VR G v b → (∃ T id, s.TypeIs u T ∧ typeLookup (.type T) "__getitem__" = pure (some (.builtin id))) ∧ wpAny K.M A (getItem u v) (PostE K c G s Q) NoE s
theorem Ev.sub {o i pos} (x : Ev K c o h fun a h1 => Ev K c i h1 fun b h2 => GetI K c a b h2 Q) (hs : ∀ o' i', subscripted i false o' i' = operate [o', i'] (getItem o' i') := by intro _ _; kernel_rfl) : Ev K c (.Subscript o i pos) h Q := fun A G s hA R => by
  rw [eval_Subscript]
  refine wpAny_bind (wpAny_mono (x A G s hA R) (fun u s1 ⟨G1, a, h1, x1, R1, v1, q1⟩ => wpAny_bind (wpAny_holding (wpAny_mono (q1 A G1 s1 hA R1) (fun v s2 ⟨G2, b, h2, x2, R2, v2, q2⟩ => ?_) fun _ _ z => z))) fun _ _ z => z)
  obtain ⟨⟨T, id, hT, hl⟩, q2⟩ := q2 A G2 s2 u v hA R2 (v1.mono x2.grow) v2
  refine wpAny_bind (wpAny_standAt (wpAny_bind ?_))
  rw [getitemInPython_of_ne hT.not_modules]
  refine wpAny_bind (wpAny_specialOf hT hl ?_)
  refine wpAny_pure ?_
  rw [hs]
  exact wpAny_bind (wpAny_operating (wpAny_mono q2 (fun r s3 p => wpAny_bind (wpAny_letTemporaryGo (wpAny_pure (PostE.trans (x1.trans x2) p)))) fun _ _ z => z))
theorem GetI.list {a : AV} {xs : List AV} {i : Int} {x : AV} (ha : readL h a = some xs) (h0 : 0 ≤ i) (h1 : i < 2 ^ 62) (hx : xs[i.toNat]? = some x) (hQ : Q x h) : GetI K c a (.int i) h Q := fun A G s u v hA R hu hv => by
  obtain ⟨l, vs, n, ho, hxs⟩ := R.listAt ha hu
  obtain ⟨t, rfl⟩ := hv
  obtain ⟨w, hw, hw'⟩ := hxs.get hx
  refine ⟨⟨"list", _, ⟨_, ho, rfl⟩, list_getitem_lookup⟩, ?_⟩
  exact wpAny_getItem_list ⟨_, ho, rfl, _, rfl⟩ h0 (by omega) (x := w) (by simpa using hw) (PostE.now' R hw' hQ)
theorem GetI.tuple {xs : List AV} {i : Int} {x : AV} (h0 : 0 ≤ i) (h1 : i < xs.length) (hl : xs.length < 2 ^ 62) (hx : xs[i.toNat]? = some x) (hQ : Q x h) : GetI K c (.tup xs) (.int i) h Q := fun A G s u v hA R hu hv => by
  obtain ⟨l, vs, n, ho, hxs⟩ := R.tupAt hu
  obtain ⟨t, rfl⟩ := hv
  obtain ⟨w, hw, hw'⟩ := hxs.get hx
  have e := hxs.length
  simp only [Array.length_toList] at e
  refine ⟨⟨"tuple", _, ⟨_, ho, rfl⟩, F.slot_tuple_getitem.lookup⟩, ?_⟩
  exact P.getItem_tuple ho (by omega) (by omega) (k := i.toNat) (seqIndex_of h0 (by rw [e]; exact h1)) (by simpa using hw) (PostE.now' R hw' hQ)
theorem GetI.str {x : Str} {i : Int} {cp : Nat} (h0 : 0 ≤ i) (h1 : i < x.length) (hl : x.length < 2 ^ 62) (hx : x.cps[i.toNat]? = some cp) (hQ : Q (.str ⟨#[cp]⟩) h) : GetI K c (.str x) (.int i) h Q := fun A G s u v hA R hu hv => by
  obtain ⟨t, rfl⟩ := hu
  obtain ⟨t', rfl⟩ := hv
  refine ⟨⟨"str", _, typeIs_str s x t, F.slot_str_getitem.lookup⟩, ?_⟩
  exact P.getItem_str (c := cp) (by simp; omega) (by rw [seqIndex_of h0 h1]; exact hx) (PostE.now (av := .str ⟨#[cp]⟩) R ⟨_, rfl⟩ hQ)

/-- a part of a slice -/
noncomputable def EvO (K : Bse) (c : Cx) (e : Option Expr) (h : Hp) (Q : Option Int → Hp → Prop) : Prop :=
  match e with
  | none => Q none h
  | some e => Ev K c e h fun a h1 => ∃ i, a = .int i ∧ Q (some i) h1
theorem evO_run {e : Option Expr} {Q : Option Int → Hp → Prop} (x : EvO K c e h Q) (hA : OkA c.d A) (R : Rel K c h G s.heap) :
    wpAny K.M A (evalPart e c.env) (fun v s' => PE c.own G s s' (Rel K c) (fun _ i => IsPart v i) Q) NoE s := by
  cases e with
  | none => exact wpAny_pure ⟨G, none, h, Stp.refl _ _ _, R, .none, x⟩
  | some e => exact wpAny_mono (x A G s hA R) (fun v s1 ⟨G1, a, h1, x1, R1, v1, i, e1, q1⟩ => by
      subst e1; obtain ⟨t, rfl⟩ := v1; exact ⟨G1, some i, h1, x1, R1, .int i t, q1⟩) fun _ _ z => z

noncomputable def pickL (xs : List AV) (lo hi st : Option Int) : List AV :=
  (sliceRange (sliceBounds lo hi st xs.length).1 (sliceBounds lo hi st xs.length).2.1 (sliceBounds lo hi st xs.length).2.2).filterMap (xs[·]?)
theorem VRs.pick {vs : List Value} {xs : List AV} (hx : VRs G vs xs) : ∀ l : List Nat, VRs G (l.filterMap (vs[·]?)) (l.filterMap (xs[·]?))
  | [] => trivial
  | i :: l => by
    simp only [List.filterMap_cons]
    cases e : xs[i]? with
    | none =>
      have : vs[i]? = none := by rw [List.getElem?_eq_none_iff] at e ⊢; rw [hx.length]; exact e
      rw [this]; exact VRs.pick hx l
    | some x =>
      obtain ⟨v, hv, hv'⟩ := hx.get e
      rw [hv]; exact ⟨hv', VRs.pick hx l⟩
theorem Ev.sliceL {o lo hi st p pos} (x : Ev K c o h fun a h1 => EvO K c lo h1 fun i h2 => EvO K c hi h2 fun j h3 => EvO K c st h3 fun k h4 => ∃ xs, readL h4 a = some xs ∧ xs.length ≤ sizeLine ∧ k ≠ some 0 ∧ Q (.list (pickL xs i j k)) h4) :
    Ev K c (.Subscript o (.Slice lo hi st p) pos) h Q := fun A G s hA R => by
  rw [eval_Subscript]
  refine wpAny_bind (wpAny_mono (x A G s hA R) (fun u s1 ⟨G1, a, h1, x1, R1, v1, q1⟩ => wpAny_bind (wpAny_holding ?_)) fun _ _ z => z)
  refine wpAny_Slice (wpAny_mono (evO_run q1 hA R1) (fun v2 s2 ⟨G2, i, h2, x2, R2, p2, q2⟩ => wpAny_mono (evO_run q2 hA R2) (fun v3 s3 ⟨G3, j, h3, x3, R3, p3, q3⟩ => wpAny_mono (evO_run q3 hA R3) (fun v4 s4 ⟨G4, k, h4, x4, R4, p4, xs, hr, hsz, hk, q4⟩ => ?_) fun _ _ z => z) fun _ _ z => z) fun _ _ z => z)
  obtain ⟨l, vs, n, ho, hxs⟩ := R4.listAt hr (((v1.mono x2.grow).mono x3.grow).mono x4.grow)
  have e := hxs.length
  simp only [Array.length_toList] at e
  have ho' := Heap.get?_push_of_some { cls := .type "slice", data := .fields #[v2, v3, v4] } ho
  have hT : Shared.TypeIs { s4 with heap := s4.heap.push { cls := .type "slice", data := .fields #[v2, v3, v4] } } (.ref l) "list" := ⟨_, ho', rfl⟩
  refine wpAny_bind (wpAny_standAt (wpAny_bind ?_))
  rw [getitemInPython_of_ne hT.not_modules]
  refine wpAny_bind (wpAny_specialOf hT list_getitem_lookup ?_)
  refine wpAny_pure ?_
  have fin : wpAny K.M A (getItem (.ref l) (.ref s4.heap.objs.size)) (PostE K c G s Q) NoE { s4 with heap := s4.heap.push { cls := .type "slice", data := .fields #[v2, v3, v4] } } := by
    refine wpAny_getItem_list_slice ⟨_, ho', rfl, _, rfl⟩ (Heap.IsSliceOf.new ..) p2 p3 p4 hk ?_ (by rw [e]; exact hsz)
    refine PostE.trans (((x1.trans x2).trans x3).trans x4) (PostE.trans (Stp.push (o := { cls := .type "slice", data := .fields #[v2, v3, v4] })) ?_)
    refine PostE.fresh (av := .list (pickL xs i j k)) R4.push rfl ⟨_, _, rfl, ?_⟩ rfl (fun _ a e => ⟨a, rfl, e⟩) q4
    unfold slicePick pickL
    rw [e]
    have := hxs.pick (sliceRange (sliceBounds i j k xs.length).1 (sliceBounds i j k xs.length).2.1 (sliceBounds i j k xs.length).2.2)
    simpa using this
  cases st with
  | none =>
    show wpAny _ _ (operate [.ref s4.heap.objs.size, .ref l] (getItem (.ref l) (.ref s4.heap.objs.size)) >>= _) _ _ _
    exact wpAny_bind (wpAny_operating (wpAny_mono fin (fun r s3 p => wpAny_bind (wpAny_letTemporaryGo (wpAny_pure p))) fun _ _ z => z))
  | some st =>
    show wpAny _ _ (operate [.ref l, .ref s4.heap.objs.size] (getItem (.ref l) (.ref s4.heap.objs.size)) >>= _) _ _ _
    exact wpAny_bind (wpAny_operating (wpAny_mono fin (fun r s3 p => wpAny_bind (wpAny_letTemporaryGo (wpAny_pure p))) fun _ _ z => z))
end
end Mine
end

section
open PySem PySem.W PySem.Calls PyProof.Rows PySem.SeqAt
namespace Mine

/-- values that can be compared, and whether they are equal -/
inductive Cmp : Nat → AV → AV → Bool → Prop
  | int (n i j) : Cmp n (.int i) (.int j) (i == j)
  | bool (n a b) : Cmp n (.bool a) (.bool b) (a == b)
  | str (n x y) : Cmp n (.str x) (.str y) (x == y)
  | list (n xs ys) (e : Nat → Bool) : (∀ (j : Nat) (x y : AV), xs[j]? = some x → ys[j]? = some y → Cmp n x y (e j)) → Cmp (n + 1) (.list xs) (.list ys) (xs.length == ys.length && (List.range xs.length).all e)
  | tup (n xs ys) (e : Nat → Bool) : (∀ (j : Nat) (x y : AV), xs[j]? = some x → ys[j]? = some y → Cmp n x y (e j)) → Cmp (n + 1) (.tup xs) (.tup ys) (xs.length == ys.length && (List.range xs.length).all e)
  | dict (n) (es fs : List (Str × AV)) (w : Str → AV) : es.length = fs.length → (∀ (k : Str) (v : AV), (k, v) ∈ es → (k, w k) ∈ fs) → (∀ (k : Str) (v : AV), (k, v) ∈ es → Cmp n v (w k) true) → Cmp (n + 1) (.dict es) (.dict fs) true

theorem lookup_of_nodup {α : Type} : ∀ {es : List (Str × α)} {j : Nat} {k : Str} {v : α}, (es.map (·.1)).Nodup → es[j]? = some (k, v) → es.lookup k = some v
  | [], j, k, v, _, h => by simp at h
  | (k', v') :: r, 0, k, v, _, h => by simp at h; obtain ⟨rfl, rfl⟩ := h; simp
  | (k', v') :: r, j + 1, k, v, hn, h => by
    simp only [List.map_cons, List.nodup_cons] at hn
    have h' : r[j]? = some (k, v) := by simpa using h
    have hne : (k == k') = false := by
      have : k ≠ k' := fun q => hn.1 (by rw [← q]; exact List.mem_map.mpr ⟨(k, v), List.mem_of_getElem? h', rfl⟩)
      simpa using this
    simp only [List.lookup_cons, hne]
    exact lookup_of_nodup hn.2 h'

theorem DictO.nodup {p w} {G : Gh} {o : Obj} {es} (h : DictO p w G o es) : (es.map (·.1)).Nodup := by
  obtain ⟨kvs, ⟨_, _, _, _, _, _, hn⟩, e, _⟩ := h
  rw [← e]; exact hn

section
variable {K : Bse} {c : Cx} {h : Hp} {G G' : Gh} {s s' s'' : Shared} {A : Around} {hp hp' : Heap}

inductive DicR (K : Bse) (G : Gh) (hp : Heap) (es : List (Str × AV)) : Value → Prop
  | mk (a o) (ho : hp.get? a = some o) (hd : DictO K.prog K.w G o es) (hl : (a == sysModules) = false) : DicR K G hp es (.ref a)
theorem DicR.inv {K : Bse} {G : Gh} {hp : Heap} {es : List (Str × AV)} {v : Value} : DicR K G hp es v → ∃ a o, v = .ref a ∧ hp.get? a = some o ∧ DictO K.prog K.w G o es ∧ (a == sysModules) = false
  | .mk a o ho hd hl => ⟨a, o, rfl, ho, hd, hl⟩
theorem Rel.dictAt {es : List (Str × AV)} {v : Value} (R : Rel K c h G hp) (hv : VR G v (.dict es)) : DicR K G hp es v := by
  obtain ⟨a, rfl, hg⟩ := hv
  obtain ⟨o, ho, hd⟩ := R.cells _ _ hg
  refine ⟨a, o, ho, hd, ?_⟩
  obtain ⟨os, hos⟩ := K.sysm
  have := R.base _ _ hos
  have hne : a ≠ sysModules := fun q => by rw [q, this] at hg; cases hg
  simpa using hne

theorem Cmp.same {n a b r} (x : Cmp n a b r) : ∀ {c : Cx} {h : Hp} {G : Gh} {hp : Heap} {v : Value}, Rel K c h G hp → VR G v a → a = b → r = true := by
  induction x with
  | int n i j => intro _ _ _ _ _ _ _ e; cases e; simp
  | bool n i j => intro _ _ _ _ _ _ _ e; cases e; simp
  | str n i j => intro _ _ _ _ _ _ _ e; cases e; simp
  | list n xs ys e he ih =>
    intro c h G hp v R hv q; cases q
    obtain ⟨a, vs, k, _, hx⟩ := R.listAt (av := .list xs) rfl hv
    simp only [beq_self_eq_true, Bool.true_and, List.all_eq_true, List.mem_range]
    intro j hj
    have hxj : xs[j]? = some xs[j] := List.getElem?_eq_getElem hj
    obtain ⟨w, _, hw⟩ := hx.get hxj
    exact ih j _ _ hxj hxj R hw rfl
  | tup n xs ys e he ih =>
    intro c h G hp v R hv q; cases q
    obtain ⟨a, vs, k, _, hx⟩ := R.tupAt' hv
    simp only [beq_self_eq_true, Bool.true_and, List.all_eq_true, List.mem_range]
    intro j hj
    have hxj : xs[j]? = some xs[j] := List.getElem?_eq_getElem hj
    obtain ⟨w, _, hw⟩ := hx.get hxj
    exact ih j _ _ hxj hxj R hw rfl
  | dict n es fs w h1 h2 he ih => intro _ _ _ _ _ _ _ _; rfl

theorem valueAt_mem {kvs : List (Str × Value)} {k : Str} {v : Value} (hn : (kvs.map (·.1)).Nodup) (hm : (k, v) ∈ kvs) : valueAt kvs k = some v := by
  induction kvs with
  | nil => cases hm
  | cons p r ih =>
    obtain ⟨k', v'⟩ := p
    simp only [List.map_cons, List.nodup_cons] at hn
    simp only [valueAt, List.find?_cons]
    by_cases q : k' = k
    · subst q
      simp only [decide_true]
      rcases List.mem_cons.mp hm with e | e
      · cases e; rfl
      · exact absurd (List.mem_map.mpr ⟨_, e, rfl⟩) hn.1
    · simp only [q, decide_false]
      rcases List.mem_cons.mp hm with e | e
      · cases e; exact absurd rfl q
      · exact ih hn.2 e

theorem findIdx_congr {α : Type} (p q : α → Bool) : ∀ l : List α, (∀ e ∈ l, p e = q e) → l.findIdx? p = l.findIdx? q
  | [], _ => rfl
  | e :: l, h => by simp only [List.findIdx?_cons, h e (List.mem_cons_self ..), findIdx_congr p q l fun e' hm => h e' (List.mem_cons_of_mem _ hm)]

theorem samePairs_yes {prog : Program} {w : World} {p0 : Program} {w0 : World} {nm : String} {a b : Addr} {ka kb : List (Str × Value)} {E : Value → Shared → Prop} {Q : Bool → Shared → Prop} (ha : (a == sysModules) = false) (hb : (b == sysModules) = false)
    {oa ob : Obj} (ga : s.heap.get? a = some oa) (gb : s.heap.get? b = some ob) (da : oa.IsDictOf (strKind p0 w0) ka) (db : ob.IsDictOf (strKind p0 w0) kb) (hl : ka.length = kb.length)
    (he : ∀ k v, (k, v) ∈ ka → ∃ y, (k, y) ∈ kb ∧ EqAt A s v y true) (h : Q true s) : wpAny (model prog w) A (Builtin.Dict.samePairs nm a b) Q E s := by
  obtain ⟨es, ep, _, d1, k1, p1, n1⟩ := da
  obtain ⟨fs, ep', _, d2, k2, p2, n2⟩ := db
  have l1 := p1.length; have l2 := p2.length
  simp only [Array.length_toList] at l1 l2
  have ex : (fs.all fun e => isExactStrKey e.key) = true := by
    rw [Array.all_eq_true]
    intro i hi
    obtain ⟨k, hk, _⟩ := k2 fs[i] (Array.getElem_mem hi)
    obtain ⟨t, e⟩ := Value.isStrOf_shape hk
    rw [e]; rfl
  unfold Builtin.Dict.samePairs Builtin.Dict.showsAll
  rw [ha, hb]
  simp only [Bool.false_eq_true, if_false]
  refine wpAny_bind (wpAny_pure (wpAny_bind (wpAny_pure (wpAny_bind (wpAny_dictEntries ga d1 ?_)))))
  refine wpAny_bind (wpAny_dictEntries gb d2 ?_)
  rw [if_neg (by simp; omega)]
  refine wpAny_bind (wpAny_dictEpoch ga d1 (wpAny_bind ?_))
  rw [Std.Legacy.Range.forIn_eq_forIn_range']
  refine wpAny_forIn_list _ (fun rest q s' => s' = s ∧ q = (none, ()) ∧ ∀ x ∈ rest, x < es.size) _ ?_ ?_ _ _ ⟨rfl, rfl, fun x hx => ?_⟩
  · rintro i rest q s' ⟨rfl, rfl, hlt⟩
    have hi := hlt i (List.mem_cons_self ..)
    refine wpAny_bind (wpAny_dictEntries ga d1 ?_)
    rw [Array.getElem?_eq_getElem hi]
    have hj : i < ka.length := by omega
    obtain ⟨hk, hv⟩ := p1.get? (i := i) (e := es[i]) (k := ka[i].1) (v := ka[i].2) (by simp [hi]) (by simp [hj])
    obtain ⟨y, hy, hyv⟩ := he ka[i].1 ka[i].2 (List.getElem_mem hj)
    obtain ⟨t, hkey⟩ := Value.isStrOf_shape hk
    have hfind : fs.findIdx? (fun e => e.key.isStr ka[i].1) = kb.findIdx? fun kv => decide (kv.1 = ka[i].1) := by
      rw [← p2.findIdx ka[i].1]
      obtain ⟨l⟩ := fs
      have : ∀ e ∈ l, e.key.isStr ka[i].1 = (strKind p0 w0).is ka[i].1 e.key := fun e hm => by
        obtain ⟨k', hk', _⟩ := k2 e (by simpa using hm)
        obtain ⟨t', e'⟩ := Value.isStrOf_shape hk'
        rw [e']; rfl
      simp only [List.findIdx?_toArray]
      exact findIdx_congr _ _ _ this
    show wpAny _ _ (holding [es[i].key, es[i].val] _ >>= _) _ _ _
    rw [hkey, hv]
    refine wpAny_bind (wpAny_holding (wpAny_bind (KTD.kt_dictFind_strs gb d2 ex ?_)))
    rw [hfind]
    cases hf : kb.findIdx? fun kv => decide (kv.1 = ka[i].1) with
    | none =>
      rw [List.findIdx?_eq_none_iff] at hf
      have := hf _ hy
      simp at this
    | some j =>
      rw [List.findIdx?_eq_some_iff_getElem] at hf
      obtain ⟨hj', hjk, _⟩ := hf
      have hjk' : kb[j].1 = ka[i].1 := by simpa using hjk
      have hyj : kb[j].2 = y := by
        have e1 := valueAt_mem n2 hy
        have e2 := valueAt_mem (k := kb[j].1) (v := kb[j].2) n2 (List.getElem_mem hj')
        rw [hjk'] at e2
        exact Option.some.inj (e2.symm.trans e1)
      have hjs : j < fs.size := by omega
      obtain ⟨_, hv2⟩ := p2.get? (i := j) (e := fs[j]) (k := kb[j].1) (v := kb[j].2) (by simp [hjs]) (by simp [hj'])
      refine wpAny_bind (wpAny_dictEntries gb d2 ?_)
      rw [Array.getElem?_eq_getElem hjs]
      show wpAny _ _ (holding [fs[j].val] _) _ _ _
      rw [hv2, hyj]
      refine wpAny_holding (hyv prog w _ _ ?_)
      show wpAny _ _ (if (!true) = true then _ else _) _ _ _
      rw [if_neg (by decide)]
      refine wpAny_bind (wpAny_dictEpoch ga d1 ?_)
      rw [if_neg (by simp)]
      exact wpAny_pure ⟨rfl, rfl, fun x hx => hlt x (List.mem_cons_of_mem _ hx)⟩
  · rintro q s' ⟨rfl, rfl, _⟩
    exact wpAny_pure h
  · simp only [Std.Legacy.Range.size] at hx
    have := List.mem_range'_1.mp hx
    omega

theorem RcAt.dicts {p0 : Program} {w0 : World} {a b : Addr} {ka kb : List (Str × Value)} (ha : (a == sysModules) = false) (hb : (b == sysModules) = false)
    {oa ob : Obj} (ga : s.heap.get? a = some oa) (gb : s.heap.get? b = some ob) (da : oa.IsDictOf (strKind p0 w0) ka) (db : ob.IsDictOf (strKind p0 w0) kb) (hl : ka.length = kb.length) (hu : A.units < cLine)
    (he : ∀ k v, (k, v) ∈ ka → ∃ y, (k, y) ∈ kb ∧ EqAt A.in1 s v y true) : RcAt A s (.ref a) (.ref b) true := fun prog w E Q h => by
  have ta : s.TypeIs (.ref a) "dict" := ⟨oa, ga, by obtain ⟨_, _, x, _⟩ := da; exact x.1⟩
  have tb : s.TypeIs (.ref b) "dict" := ⟨ob, gb, by obtain ⟨_, _, x, _⟩ := db; exact x.1⟩
  refine wpAny_richCompare_same_room (op := .Eq) ta tb PySem.F.slot_dict_eq (wpAny_call_entry PySem.F.slot_dict_eq ta PySem.F.entry_dict_eq ?_ (PySem.F.args_dict_eq_2 _ _)) hu
  refine wpAny_bind ?_
  unfold Builtin.Dict.dictSlotArgs
  refine wpAny_bind (wpAny_notOrdered_dict ta (wpAny_pure ?_))
  refine wpAny_bind (wpAny_isInstance (T := "dict") tb PySem.F.sub_dict_dict ?_)
  simp only [Bool.not_true, Bool.false_eq_true, if_false]
  refine wpAny_bind (wpAny_pure (wpAny_bind (wpAny_pure (wpAny_bind (samePairs_yes ha hb ga gb da db hl he ?_)))))
  exact wpAny_pure ⟨_, rfl, (fun x => nomatch x), h⟩
theorem RcNeAt.dicts {p0 : Program} {w0 : World} {a b : Addr} {ka kb : List (Str × Value)} (ha : (a == sysModules) = false) (hb : (b == sysModules) = false)
    {oa ob : Obj} (ga : s.heap.get? a = some oa) (gb : s.heap.get? b = some ob) (da : oa.IsDictOf (strKind p0 w0) ka) (db : ob.IsDictOf (strKind p0 w0) kb) (hl : ka.length = kb.length) (hu : A.units < cLine)
    (he : ∀ k v, (k, v) ∈ ka → ∃ y, (k, y) ∈ kb ∧ EqAt A.in1 s v y true) : RcNeAt A s (.ref a) (.ref b) false := fun prog w E Q h => by
  have ta : s.TypeIs (.ref a) "dict" := ⟨oa, ga, by obtain ⟨_, _, x, _⟩ := da; exact x.1⟩
  have tb : s.TypeIs (.ref b) "dict" := ⟨ob, gb, by obtain ⟨_, _, x, _⟩ := db; exact x.1⟩
  refine wpAny_richCompare_same_room (op := .NotEq) ta tb PySem.F.slot_dict_ne (wpAny_call_entry PySem.F.slot_dict_ne ta PySem.F.entry_dict_ne ?_ (PySem.F.args_dict_ne_2 _ _)) hu
  refine wpAny_bind ?_
  unfold Builtin.Dict.dictSlotArgs
  refine wpAny_bind (wpAny_notOrdered_dict ta (wpAny_pure ?_))
  refine wpAny_bind (wpAny_isInstance (T := "dict") tb PySem.F.sub_dict_dict ?_)
  simp only [Bool.not_true, Bool.false_eq_true, if_false]
  refine wpAny_bind (wpAny_pure (wpAny_bind (wpAny_pure (wpAny_bind (samePairs_yes ha hb ga gb da db hl he ?_)))))
  exact wpAny_pure ⟨_, rfl, (fun x => nomatch x), h⟩

theorem dict_in : ∀ {kvs : List (Str × Value)} {es : List (Str × AV)} {k : Str} {v : Value}, kvs.map (·.1) = es.map (·.1) → VRs G (kvs.map (·.2)) (es.map (·.2)) → (k, v) ∈ kvs → ∃ av, (k, av) ∈ es ∧ VR G v av
  | [], _, _, _, _, _, hm => nomatch hm
  | (k1, v1) :: kvs, (k2, a2) :: es, k, v, hk, hx, hm => by
    simp only [List.map_cons, List.cons.injEq] at hk
    obtain ⟨rfl, hk⟩ := hk
    rcases List.mem_cons.mp hm with e | e
    · cases e; exact ⟨a2, List.mem_cons_self .., hx.1⟩
    · obtain ⟨av, h1, h2⟩ := dict_in hk hx.2 e
      exact ⟨av, List.mem_cons_of_mem _ h1, h2⟩
  | _ :: _, [], _, _, hk, _, _ => by simp at hk
theorem dict_out : ∀ {kvs : List (Str × Value)} {es : List (Str × AV)} {k : Str} {av : AV}, kvs.map (·.1) = es.map (·.1) → VRs G (kvs.map (·.2)) (es.map (·.2)) → (k, av) ∈ es → ∃ v, (k, v) ∈ kvs ∧ VR G v av
  | _, [], _, _, _, _, hm => nomatch hm
  | (k1, v1) :: kvs, (k2, a2) :: es, k, v, hk, hx, hm => by
    simp only [List.map_cons, List.cons.injEq] at hk
    obtain ⟨rfl, hk⟩ := hk
    rcases List.mem_cons.mp hm with e | e
    · cases e; exact ⟨v1, List.mem_cons_self .., hx.1⟩
    · obtain ⟨av, h1, h2⟩ := dict_out hk hx.2 e
      exact ⟨av, List.mem_cons_of_mem _ h1, h2⟩
  | [], _ :: _, _, _, hk, _, _ => by simp at hk

theorem OkA.in1' {A : Around} {n : Nat} (h : A.units + n + 1 ≤ cLine) : A.in1.units + n ≤ cLine := by simp only [Around.in1]; omega

theorem Cmp.at {n a b r} (x : Cmp n a b r) : ∀ {c : Cx} {h : Hp} {G : Gh} {s : Shared} {A : Around} {u v : Value}, A.units + n < cLine → Rel K c h G s.heap → VR G u a → VR G v b → EqAt A s u v r := by
  induction x with
  | int n i j => intro c h G s A u v _ R ⟨t, e⟩ ⟨t', e'⟩; subst e; subst e'; exact EqAt.int_int _ _ _ _
  | bool n a b => intro c h G s A u v _ R e e'; cases e; cases e'; exact EqAt.bool_bool _ _
  | str n i j => intro c h G s A u v _ R ⟨t, e⟩ ⟨t', e'⟩; subst e; subst e'; exact EqAt.str_str _ _ _ _
  | list n xs ys e he ih =>
    intro c h G s A u v hu R hv hv'
    have sm := (Cmp.list n xs ys e he).same R hv
    obtain ⟨g, hg⟩ : ∃ g, u = .ref g := by obtain ⟨g, e, _⟩ := hv; exact ⟨g, e⟩
    obtain ⟨g', hg'⟩ : ∃ g, v = .ref g := by obtain ⟨g, e, _⟩ := hv'; exact ⟨g, e⟩
    obtain ⟨l, vs, k, e1, ho, hx⟩ := (R.listAt (av := .list xs) rfl hv).inv
    obtain ⟨l', vs', k', e1', ho', hx'⟩ := (R.listAt (av := .list ys) rfl hv').inv
    by_cases q : l = l'
    · subst q
      obtain ⟨a1, e2, g1⟩ := hv
      obtain ⟨a2, e3, g2⟩ := hv'
      have : a1 = a2 := by rw [e1] at e2; rw [e1'] at e3; cases e2; cases e3; rfl
      subst this
      rw [g1] at g2
      cases g2
      rw [sm rfl, e1, e1']
      exact EqAt.same _
    · rw [e1, e1']
      have z1 := hx.length; have z2 := hx'.length
      simp only [Array.length_toList] at z1 z2
      refine EqAt.of_refs q ?_
      by_cases hs : xs.length = ys.length
      · have := RcAt.lists (A := A) (s := s) (e := e) ⟨_, ho, rfl, _, rfl⟩ ⟨_, ho', rfl, _, rfl⟩ (by omega) (by omega) fun j h1 h2 => by
          obtain ⟨w, hw, hw'⟩ := hx.get (i := j) (x := xs[j]) (by simp)
          obtain ⟨w2, hw2, hw2'⟩ := hx'.get (i := j) (x := ys[j]) (by simp)
          have q1 : vs[j] = w := by simpa [h1] using hw
          have q2 : vs'[j] = w2 := by simpa [h2] using hw2
          rw [q1, q2]
          exact ih j _ _ (List.getElem?_eq_getElem _) (List.getElem?_eq_getElem _) (by simp only [Around.in1]; omega) R hw' hw2'
        rw [z1] at this
        simpa [hs] using this
      · have := RcAt.lists_lengths (A := A) (s := s) (items := vs) (items2 := vs') ⟨_, ho, rfl, _, rfl⟩ ⟨_, ho', rfl, _, rfl⟩ (by simp; omega) (by omega)
        have hs' : (xs.length == ys.length) = false := by simpa using hs
        rw [hs', Bool.false_and]; exact this
  | tup n xs ys e he ih =>
    intro c h G s A u v hu R hv hv'
    have sm := (Cmp.tup n xs ys e he).same R hv
    obtain ⟨l, vs, k, e1, ho, hx⟩ := (R.tupAt hv).inv
    obtain ⟨l', vs', k', e1', ho', hx'⟩ := (R.tupAt hv').inv
    by_cases q : l = l'
    · subst q
      obtain ⟨a1, e2, g1⟩ := hv
      obtain ⟨a2, e3, g2⟩ := hv'
      have : a1 = a2 := by rw [e1] at e2; rw [e1'] at e3; cases e2; cases e3; rfl
      subst this
      rw [g1] at g2
      cases g2
      rw [sm rfl, e1, e1']
      exact EqAt.same _
    · rw [e1, e1']
      have z1 := hx.length; have z2 := hx'.length
      simp only [Array.length_toList] at z1 z2
      refine EqAt.of_refs q ?_
      have := RcAt.tuples (A := A) (s := s) (e := e) ⟨_, ho, rfl, _, rfl⟩ ⟨_, ho', rfl, _, rfl⟩ (by omega) fun j h1 h2 => by
        obtain ⟨w, hw, hw'⟩ := hx.get (i := j) (x := xs[j]) (by simp)
        obtain ⟨w2, hw2, hw2'⟩ := hx'.get (i := j) (x := ys[j]) (by simp)
        have q1 : vs[j] = w := by simpa [h1] using hw
        have q2 : vs'[j] = w2 := by simpa [h2] using hw2
        rw [q1, q2]
        exact ih j _ _ (List.getElem?_eq_getElem _) (List.getElem?_eq_getElem _) (by simp only [Around.in1]; omega) R hw' hw2'
      rw [z1, z2] at this
      by_cases hs : xs.length = ys.length
      · rw [hs] at this ⊢; simpa using this
      · have hs' : (xs.length == ys.length) = false := by simpa using hs
        rw [hs', Bool.and_false] at this
        rw [hs', Bool.false_and]; exact this
  | dict n es fs w h1 h2 he ih =>
    intro c h G s A u v hu R hv hv'
    obtain ⟨l, o, e1, ho, ⟨kvs, hd, hk, hx⟩, hl⟩ := (R.dictAt hv).inv
    obtain ⟨l', o', e1', ho', ⟨kvs', hd', hk', hx'⟩, hl'⟩ := (R.dictAt hv').inv
    rw [e1, e1']
    by_cases q : l = l'
    · rw [q]; exact EqAt.same _
    refine EqAt.of_refs q (RcAt.dicts hl hl' ho ho' hd hd' ?_ (by omega) fun k v hm => ?_)
    · have a1 := congrArg List.length hk; have a2 := congrArg List.length hk'
      simp only [List.length_map] at a1 a2; omega
    · obtain ⟨av, hm1, hv1⟩ := dict_in hk hx hm
      obtain ⟨y, hm2, hv2⟩ := dict_out hk' hx' (h2 k av hm1)
      exact ⟨y, hm2, ih k av hm1 (by simp only [Around.in1]; omega) R hv1 hv2⟩

/-! the operators -/
/-- the items of two lists that are compared -/
noncomputable def Cmps (n : Nat) (xs ys : List AV) (e : Nat → Bool) : Prop := ∀ (j : Nat) (x y : AV), xs[j]? = some x → ys[j]? = some y → Cmp n x y (e j)

theorem lists_at {n : Nat} {a b : AV} {xs ys : List AV} {e : Nat → Bool} {u v : Value} (ha : readL h a = some xs) (hb : readL h b = some ys) (he : Cmps n xs ys e) (hu : A.units + n + 1 < cLine) (R : Rel K c h G s.heap) (h1 : VR G u a) (h2 : VR G v b) :
    ∃ l l', u = .ref l ∧ v = .ref l' ∧ RcAt A s u v (xs.length == ys.length && (List.range xs.length).all e) ∧ RcNeAt A s u v (!(xs.length == ys.length && (List.range xs.length).all e)) := by
  obtain ⟨l, vs, k, e1, ho, hx⟩ := (R.listAt ha h1).inv
  obtain ⟨l', vs', k', e1', ho', hx'⟩ := (R.listAt hb h2).inv
  refine ⟨l, l', e1, e1', ?_⟩
  rw [e1, e1']
  have z1 := hx.length; have z2 := hx'.length
  simp only [Array.length_toList] at z1 z2
  have hit : ∀ j (h1 : j < vs.size) (h2 : j < vs'.size), EqAt A.in1 s vs[j] vs'[j] (e j) := fun j h1 h2 => by
    obtain ⟨w, hw, hw'⟩ := hx.get (i := j) (x := xs[j]) (by simp)
    obtain ⟨w2, hw2, hw2'⟩ := hx'.get (i := j) (x := ys[j]) (by simp)
    have q1 : vs[j] = w := by simpa [h1] using hw
    have q2 : vs'[j] = w2 := by simpa [h2] using hw2
    rw [q1, q2]
    exact (he j _ _ (List.getElem?_eq_getElem _) (List.getElem?_eq_getElem _)).at (by simp only [Around.in1]; omega) R hw' hw2'
  by_cases hs : xs.length = ys.length
  · have p1 := RcAt.lists (A := A) (s := s) (e := e) ⟨_, ho, rfl, _, rfl⟩ ⟨_, ho', rfl, _, rfl⟩ (by omega) (by omega) hit
    have p2 := RcNeAt.lists (A := A) (s := s) (e := e) ⟨_, ho, rfl, _, rfl⟩ ⟨_, ho', rfl, _, rfl⟩ (by omega) (by omega) hit
    rw [z1] at p1 p2
    have hs' : (xs.length == ys.length) = true := by simpa using hs
    rw [hs', Bool.true_and]
    exact ⟨p1, p2⟩
  · have hs' : (xs.length == ys.length) = false := by simpa using hs
    rw [hs', Bool.false_and]
    exact ⟨RcAt.lists_lengths (A := A) (s := s) (items := vs) (items2 := vs') ⟨_, ho, rfl, _, rfl⟩ ⟨_, ho', rfl, _, rfl⟩ (by simp; omega) (by omega),
      RcNeAt.lists_lengths (A := A) (s := s) (items := vs) (items2 := vs') ⟨_, ho, rfl, _, rfl⟩ ⟨_, ho', rfl, _, rfl⟩ (by simp; omega) (by omega)⟩

variable {Q : AV → Hp → Prop}
theorem OkA.cmp {d : Nat} {A : Around} (h : OkA d A) {n : Nat} (hn : n ≤ 8) : A.units + n + 1 < cLine := by have := h.2.2; omega
theorem Op2.eqL {n : Nat} {a b : AV} {xs ys : List AV} {e : Nat → Bool} (ha : readL h a = some xs) (hb : readL h b = some ys) (he : Cmps n xs ys e) (hn : n ≤ 8) (hQ : Q (.bool (xs.length == ys.length && (List.range xs.length).all e)) h) : Op2 K c (compareOp .Eq) a b h Q := fun A G s u v hA R h1 h2 => by
  obtain ⟨l, l', rfl, rfl, p, _⟩ := lists_at ha hb he (hA.cmp hn) R h1 h2
  exact p K.prog K.w _ _ (PostE.now' (av := .bool _) R rfl hQ)
theorem Op2.neL {n : Nat} {a b : AV} {xs ys : List AV} {e : Nat → Bool} (ha : readL h a = some xs) (hb : readL h b = some ys) (he : Cmps n xs ys e) (hn : n ≤ 8) (hQ : Q (.bool (!(xs.length == ys.length && (List.range xs.length).all e))) h) : Op2 K c (compareOp .NotEq) a b h Q := fun A G s u v hA R h1 h2 => by
  obtain ⟨l, l', rfl, rfl, _, p⟩ := lists_at ha hb he (hA.cmp hn) R h1 h2
  exact p K.prog K.w _ _ (PostE.now' (av := .bool _) R rfl hQ)
theorem Op2.eqT {n : Nat} {xs ys : List AV} {e : Nat → Bool} (he : Cmps n xs ys e) (hn : n ≤ 8) (hQ : Q (.bool (xs.length == ys.length && (List.range xs.length).all e)) h) : Op2 K c (compareOp .Eq) (.tup xs) (.tup ys) h Q := fun A G s u v hA R h1 h2 => by
  obtain ⟨l, vs, k, ho, hx⟩ := R.tupAt h1
  obtain ⟨l', vs', k', ho', hx'⟩ := R.tupAt h2
  have hu := hA.cmp hn
  have z1 := hx.length; have z2 := hx'.length
  simp only [Array.length_toList] at z1 z2
  have this := RcAt.tuples (A := A) (s := s) (e := e) ⟨_, ho, rfl, _, rfl⟩ ⟨_, ho', rfl, _, rfl⟩ (by omega) fun j h1 h2 => by
    obtain ⟨w, hw, hw'⟩ := hx.get (i := j) (x := xs[j]) (by simp)
    obtain ⟨w2, hw2, hw2'⟩ := hx'.get (i := j) (x := ys[j]) (by simp)
    have q1 : vs[j] = w := by simpa [h1] using hw
    have q2 : vs'[j] = w2 := by simpa [h2] using hw2
    rw [q1, q2]
    exact (he j _ _ (List.getElem?_eq_getElem _) (List.getElem?_eq_getElem _)).at (by simp only [Around.in1]; omega) R hw' hw2'
  rw [z1, z2] at this
  refine this K.prog K.w _ _ ?_
  have e2 : ((List.range (min xs.length ys.length)).all e && xs.length == ys.length) = (xs.length == ys.length && (List.range xs.length).all e) := by
    by_cases hs : xs.length = ys.length
    · rw [hs]; simp
    · have hs' : (xs.length == ys.length) = false := by simpa using hs
      rw [hs', Bool.and_false, Bool.false_and]
  rw [e2]
  exact PostE.now' (av := .bool _) R rfl hQ
theorem Op2.neD {n : Nat} {es fs : List (Str × AV)} (x : Cmp (n + 1) (.dict es) (.dict fs) true) (hn : n ≤ 8) (hQ : Q (.bool false) h) : Op2 K c (compareOp .NotEq) (.dict es) (.dict fs) h Q := fun A G s u v hA R hv hv' => by
  have hu := hA.cmp hn
  obtain ⟨l, o, ho, ⟨kvs, hd, hk, hx⟩, hl⟩ := R.dictAt hv
  obtain ⟨l', o', ho', ⟨kvs', hd', hk', hx'⟩, hl'⟩ := R.dictAt hv'
  cases x with
  | dict _ _ _ w h1 h2 he =>
    refine (RcNeAt.dicts (A := A) hl hl' ho ho' hd hd' ?_ (by omega) fun k v hm => ?_) K.prog K.w _ _ (PostE.now' (av := .bool false) R rfl hQ)
    · have a1 := congrArg List.length hk; have a2 := congrArg List.length hk'
      simp only [List.length_map] at a1 a2; omega
    · obtain ⟨av, hm1, hv1⟩ := dict_in hk hx hm
      obtain ⟨y, hm2, hv2⟩ := dict_out hk' hx' (h2 k av hm1)
      exact ⟨y, hm2, (he k av hm1).at (by simp only [Around.in1]; omega) R hv1 hv2⟩
theorem Op2.eqB {a b : Bool} (hQ : Q (.bool (a == b)) h) : Op2 K c (compareOp .Eq) (.bool a) (.bool b) h Q := fun A G s u v hA R h1 h2 => by
  cases h1; cases h2
  exact (RcAt.bool_bool a b) K.prog K.w _ _ (PostE.now' (av := .bool _) R rfl hQ)
theorem Op2.eqS {a b : Str} (hQ : Q (.bool (a == b)) h) : Op2 K c (compareOp .Eq) (.str a) (.str b) h Q := fun A G s u v hA R ⟨t, h1⟩ ⟨t', h2⟩ => by
  subst h1; subst h2
  exact (RcAt.str_str a t b t') K.prog K.w _ _ (PostE.now' (av := .bool _) R rfl hQ)
theorem Op2.neS {a b : Str} (hQ : Q (.bool (!(a == b))) h) : Op2 K c (compareOp .NotEq) (.str a) (.str b) h Q := fun A G s u v hA R ⟨t, h1⟩ ⟨t', h2⟩ => by
  subst h1; subst h2
  exact (RcNeAt.str_str a t b t') K.prog K.w _ _ (PostE.now' (av := .bool _) R rfl hQ)
end
end Mine
end

section
open PySem PySem.W PySem.Calls PyProof.Rows PySem.SeqAt
namespace Mine
section
variable {K : Bse} {c : Cx} {h : Hp} {G G' : Gh} {s s' s'' : Shared} {A : Around} {hp hp' : Heap} {Q : AV → Hp → Prop} {d : Nat}

/-! membership -/
noncomputable def cmpable : AV → Bool
  | .int _ | .bool _ | .str _ | .list _ | .tup _ | .dict _ => true
  | _ => false
theorem Cmp.able {n a b r} (x : Cmp n a b r) : cmpable a = true := by cases x <;> rfl
noncomputable def decV (G : Gh) : Value → Option AV
  | .bool b => some (.bool b)
  | .int i _ => some (.int i)
  | .str x _ => some (.str x)
  | .ref a => (G a).bind fun | .val x => some x | _ => none
  | _ => none
theorem VR.dec {v : Value} {a : AV} (ha : cmpable a = true) (h : VR G v a) : decV G v = some a := by
  cases a <;> first
    | (obtain ⟨t, rfl⟩ := h; rfl)
    | (obtain ⟨t, rfl, g⟩ := h; show (G t).bind _ = _; rw [g]; rfl)
    | (cases h; rfl)
    | cases ha
theorem VR.uniq {v : Value} {a b : AV} (ha : cmpable a = true) (hb : cmpable b = true) (h1 : VR G v a) (h2 : VR G v b) : a = b :=
  Option.some.inj ((h1.dec ha).symm.trans (h2.dec hb))

/-- whether a is among xs, by the comparisons e -/
noncomputable def Among (n : Nat) (xs : List AV) (a : AV) (e : AV → Bool) : Prop := ∀ x ∈ xs, Cmp n x a (e x)

theorem vrs_any : ∀ {vs : List Value} {xs : List AV} {f : Value → Bool} {e : AV → Bool}, VRs G vs xs → (∀ v x, v ∈ vs → x ∈ xs → VR G v x → f v = e x) → vs.any f = xs.any e
  | [], [], _, _, _, _ => rfl
  | v :: vs, x :: xs, f, e, hx, he => by
    simp only [List.any_cons]
    rw [he v x (List.mem_cons_self ..) (List.mem_cons_self ..) hx.1, vrs_any hx.2 fun v' x' h1 h2 h3 => he v' x' (List.mem_cons_of_mem _ h1) (List.mem_cons_of_mem _ h2) h3]
  | [], _ :: _, _, _, h, _ => h.elim
  | _ :: _, [], _, _, h, _ => h.elim

theorem among_at {n : Nat} {xs : List AV} {a : AV} {e : AV → Bool} {vs : Array Value} {v : Value} (he : Among n xs a e) (hu : A.units + n < cLine) (R : Rel K c h G s.heap) (hx : VRs G vs.toList xs) (hv : VR G v a) :
    ∃ f : Value → Bool, (∀ y, y ∈ vs → EqAt A s y v (f y)) ∧ vs.any f = xs.any e := by
  classical
  refine ⟨fun y => decide (∃ x ∈ xs, VR G y x ∧ e x = true), fun y hm => ?_, ?_⟩
  · obtain ⟨j, hj, ey⟩ := Array.mem_iff_getElem.mp hm
    have hl := hx.length
    simp only [Array.length_toList] at hl
    obtain ⟨w, hw, hw'⟩ := hx.get (i := j) (x := xs[j]) (by simp)
    have q1 : vs[j] = w := by simpa [hj] using hw
    have hmem : xs[j] ∈ xs := List.getElem_mem _
    have q2 : decide (∃ x ∈ xs, VR G y x ∧ e x = true) = e xs[j] := by
      cases hb : e xs[j] with
      | true => rw [decide_eq_true_eq]; exact ⟨_, hmem, by rw [← ey, q1]; exact hw', hb⟩
      | false =>
        rw [decide_eq_false_iff_not]
        rintro ⟨x, hx1, hx2, hx3⟩
        have := VR.uniq (he _ hx1).able (he _ hmem).able hx2 (by rw [← ey, q1]; exact hw')
        rw [this, hb] at hx3; cases hx3
    show EqAt A s y v (decide (∃ x ∈ xs, VR G y x ∧ e x = true))
    rw [q2, ← ey, q1]
    exact (he _ hmem).at hu R hw' hv
  · rw [← Array.any_toList]
    refine vrs_any hx fun y x h1 h2 h3 => ?_
    cases hb : e x with
    | true => rw [decide_eq_true_eq]; exact ⟨_, h2, h3, hb⟩
    | false =>
      rw [decide_eq_false_iff_not]
      rintro ⟨x', hx1, hx2, hx3⟩
      have := VR.uniq (he _ hx1).able (he _ h2).able hx2 h3
      rw [this, hb] at hx3; cases hx3

theorem Op2.inL {n : Nat} {a b : AV} {xs : List AV} {e : AV → Bool} (hb : readL h b = some xs) (he : Among n xs a e) (hn : n ≤ 8) (hQ : Q (.bool (xs.any e)) h) : Op2 K c (compareOp .In) a b h Q := fun A G s u v hA R h1 h2 => by
  obtain ⟨l, vs, k, ho, hx⟩ := R.listAt hb h2
  obtain ⟨f, h3, h4⟩ := among_at (A := A.in1) he (by have := hA.cmp hn; simp only [Around.in1]; omega) R hx h1
  exact in_listAt f ⟨_, ho, rfl, _, rfl⟩ h3 (by rw [h4]; exact PostE.now' (av := .bool _) R rfl hQ)
theorem Op2.notInT {n : Nat} {a : AV} {xs : List AV} {e : AV → Bool} (he : Among n xs a e) (hn : n ≤ 8) (hQ : Q (.bool (!xs.any e)) h) : Op2 K c (compareOp .NotIn) a (.tup xs) h Q := fun A G s u v hA R h1 h2 => by
  obtain ⟨l, vs, k, ho, hx⟩ := R.tupAt h2
  obtain ⟨f, h3, h4⟩ := among_at (A := A.in1) he (by have := hA.cmp hn; simp only [Around.in1]; omega) R hx h1
  exact notIn_tupleAt f ⟨_, ho, rfl, _, rfl⟩ h3 (by rw [h4]; exact PostE.now' (av := .bool _) R rfl hQ)

/-! truth of a list -/
theorem Tru.listR {a : AV} {xs : List AV} {Q : Bool → Hp → Prop} (ha : readL h a = some xs) (hl : xs.length < 2 ^ 62) (hQ : Q (!xs.isEmpty) h) : Tru K c a h Q := fun A G s u hA R hu => by
  obtain ⟨l, vs, n, ho, hx⟩ := R.listAt ha hu
  have e := hx.length
  simp only [Array.length_toList] at e
  refine wpAny_truthy_list ⟨_, ho, rfl, _, rfl⟩ (by rw [e]; omega) ?_
  have e2 : vs.isEmpty = xs.isEmpty := by rw [Bool.eq_iff_iff, Array.isEmpty_iff_size_eq_zero, List.isEmpty_iff_length_eq_zero, e]
  rw [e2]
  exact PostB.now R hQ

/-! stores at a key -/
noncomputable def SetI (K : Bse) (c : Cx) (a i b : AV) (h : Hp) (Q : Hp → Prop) : Prop :=
  ∀ A G s u j v, OkA c.d A → Rel K c h G s.heap → VR G u a → VR G j i → VR G v b → wpAny K.M A (setItem u j v) (fun _ s' => PB c.own G s s' (Rel K c) Q) NoE s
theorem As.sub {o i pos b} {Q : Lc → Hp → Prop} (x : Ev K c o h fun a h1 => Ev K c i h1 fun ib h2 => SetI K c a ib b h2 fun h3 => Q c.L h3) : As K c (.Subscript o i pos) b h Q := fun A G s v hA R hv => by
  rw [arm_assign_Subscript]
  refine wpAny_bind (wpAny_holding (wpAny_mono (x A G s hA R) (fun u s1 zp => PE.use zp fun G1 a h1 x1 R1 v1 q1 => wpAny_bind (wpAny_holding (wpAny_mono (q1 A G1 s1 hA R1) (fun j s2 ⟨G2, ib, h2, x2, R2, v2, q2⟩ => ?_) fun _ _ z => z))) fun _ _ z => z))
  exact wpAny_bind (wpAny_standAt (wpAny_bind (wpAny_holding (wpAny_mono (q2 A G2 s2 u j v hA R2 (v1.mono x2.grow) v2 ((hv.mono x1.grow).mono x2.grow)) (fun _ s3 zp => PB.use zp fun G3 h3 x3 R3 q3 => wpAny_release ⟨G3, c.L, h3, (x1.trans x2).trans x3, R3, q3⟩) fun _ _ z => z))))

theorem setItem_plainList {prog : Program} {w : World} {E : Value → Shared → Prop} {l : Addr} {items : Array Value} {n : Nat} {x : Int} {t : Tok} {v : Value} {Q : Unit → Shared → Prop} (ho : IsL s.heap l items n)
    (h0 : 0 ≤ x) (hk : x < items.size) (hfit : x < 2 ^ 63) (hQ : ∀ h' n', IsL h' l (items.setIfInBounds x.toNat v) n' → Heap.SameBut l s.heap h' → Q () { s with heap := h' }) : wpAny (model prog w) A (setItem (.ref l) (.int x t) v) Q E s := by
  have hT : s.TypeIs (.ref l) "list" := ⟨_, ho, rfl⟩
  have fits : Builtin.List.listFitsIndex x = true := fitsIndex_of h0 hfit
  clear hfit
  unfold setItem
  try with_reducible refine wpAny_holding ?_
  refine wpAny_bind (wpAny_sequenceKey hT (by decide) ?_)
  refine wpAny_bind (wpAny_callSpecial?_slot (name := Str.ofString "__setitem__") hT PySem.F.slot_list_setitem
    (wpAny_call_entry PySem.F.slot_list_setitem hT PySem.F.entry_list_setitem ?_ (PySem.F.args_list_setitem_3 _ _ _)))
  show wpAny _ _ (Builtin.List.listSubscript? (.int x t) >>= _) _ _ s
  refine wpAny_bind (wpAny_listSubscript_int fits ?_)
  obtain ⟨k, rfl⟩ := Int.eq_ofNat_of_zero_le h0
  have hk' : k < items.size := by omega
  show wpAny _ _ ((seqItemAt l k >>= fun r => pure (r.map (k, ·))) >>= _) _ _ s
  refine wpAny_bind (wpAny_bind (wpAny_seqItemAt ho rfl (wpAny_pure ?_)))
  rw [Array.getElem?_eq_getElem hk']
  show wpAny _ _ (setSeqItemAt l k v >>= _) _ _ s
  refine wpAny_bind (wpAny_setSeqItemAt ho rfl ?_)
  have done := hQ _ _ (IsL.update ho (·.setIfInBounds k v)) (Heap.SameBut.update ..)
  exact wpAny_pure ⟨.none, rfl, wpAny_pure done⟩

theorem SetI.list {l : Nat} {xs : List AV} {i : Nat} {b : AV} {Q : Hp → Prop} (hl : h l = some (.list xs)) (h1 : i < xs.length) (hsz : xs.length < 2 ^ 62) (hQ : Q (h.put l (.list (xs.set i b)))) : SetI K c (.obj l) (.int i) b h Q := fun A G s u j v hA R hu hj hv => by
  obtain ⟨a, o, hg, ho, vs, n, rfl, hx⟩ := R.objAt hu hl
  obtain ⟨t, rfl⟩ := hj
  have e := hx.length
  simp only [Array.length_toList] at e
  refine setItem_plainList ho (by omega) (by omega) (by omega) fun h' n' hl' hs' => ?_
  refine ⟨G, _, Stp.atLoc (t := s.toks) hg hs', R.upd hg hs' hl' (ao := .list (xs.set i b)) ⟨_, _, rfl, ?_⟩, hQ⟩
  rw [Array.toList_setIfInBounds]
  exact hx.set hv
theorem SetI.dict {l : Nat} {es : List (Str × AV)} {x : Str} {b : AV} {Q : Hp → Prop} (hl : h l = some (.dict es)) (hn : es.all (fun e => e.1 != x) = true) (hsz : es.length ≤ 1000) (hQ : Q (h.put l (.dict (es ++ [(x, b)])))) : SetI K c (.obj l) (.str x) b h Q := fun A G s u j v hA R hu hj hv => by
  obtain ⟨a, o, hg, ho, kvs, hd, hk, hx⟩ := R.objAt hu hl
  obtain ⟨t, rfl⟩ := hj
  have e := congrArg List.length hk
  simp only [List.length_map] at e
  refine wpAny_setItem_pairs (knd := strKind K.prog K.w) (k := x) (strKind_is _ _ _ _) (Heap.dictOf_iff.mpr ⟨o, ho, hd⟩) (fun h' hd' hs' => ?_) (by rw [sizeLine_eq]; omega)
  obtain ⟨o', ho', hd'⟩ := Heap.dictOf_iff.mp hd'
  refine ⟨G, _, Stp.atLoc (t := s.toks + 1) hg hs', R.upd hg hs' ho' (ao := .dict (es ++ [(x, b)])) ⟨_, hd', ?_, ?_⟩, hQ⟩
  all_goals
    have hno : kvs.any (fun kv => kv.1 = x) = false := by
      rw [List.any_eq_false]
      intro kv hm q
      have q' : kv.1 = x := by simpa using q
      have : kv.1 ∈ es.map (·.1) := by rw [← hk]; exact List.mem_map_of_mem hm
      obtain ⟨e', he', e2⟩ := List.mem_map.mp this
      have := List.all_eq_true.mp hn e' he'
      simp [e2, q'] at this
    unfold stored
    rw [hno]
  · simp [hk]
  · simp only [Bool.false_eq_true, if_false, List.map_append, List.map_cons, List.map_nil]
    exact hx.append ⟨hv, trivial⟩

/-! sum, max -/
theorem ints_items {G : Gh} : ∀ {vs : List Value} {ns : List Int}, VRs G vs (ns.map .int) → ∃ xs : List (Int × Tok), vs = xs.map (fun p => Value.int p.1 p.2) ∧ xs.map (·.1) = ns
  | [], [], _ => ⟨[], rfl, rfl⟩
  | v :: vs, n :: ns, ⟨⟨t, e⟩, r⟩ => by
    obtain ⟨xs, h1, h2⟩ := ints_items r
    exact ⟨(n, t) :: xs, by rw [e, h1]; rfl, by simp [h2]⟩
  | [], _ :: _, h => h.elim
  | _ :: _, [], h => h.elim
theorem Ca.sum {a : AV} {ns : List Int} (hr : readL h a = some (ns.map .int)) (hQ : Q (.int ns.sum) h) : Ca K d (.raw (.builtin "sum")) [a] [] h Q := Ca.mk1 fun c A G s u hA R hu => by
  obtain ⟨l, vs, n, ho, hx⟩ := R.listAt hr hu
  obtain ⟨xs, h1, h2⟩ := ints_items hx
  have e : vs = intItems xs.toArray := by rw [← Array.toArray_toList (xs := vs), h1]; simp [intItems]
  subst e
  refine wpAny_sz (sum_intListG (xs := xs.toArray) hA.1 ⟨_, ho, rfl, _, rfl⟩ fun h' tk t' hk hsz => ?_)
  refine res_keep (av := .int ns.sum) (t := tk) R hk hsz ⟨t', ?_⟩ hQ
  rw [preSum_eq]
  congr 1
  rw [← h2, List.take_of_length_le (by simp)]
theorem Ca.max {a : AV} {ns : List Int} (hr : readL h a = some (ns.map .int)) (hne : ns ≠ []) (hQ : ∀ m ∈ ns, (∀ x ∈ ns, x ≤ m) → Q (.int m) h) : Ca K d (.raw (.builtin "max")) [a] [] h Q := Ca.mk1 fun c A G s u hA R hu => by
  obtain ⟨l, vs, n, ho, hx⟩ := R.listAt hr hu
  obtain ⟨xs, h1, h2⟩ := ints_items hx
  have e : vs = intItems xs.toArray := by rw [← Array.toArray_toList (xs := vs), h1]; simp [intItems]
  subst e
  have hlen : xs.length = ns.length := by rw [← h2]; simp
  have hpos : 0 < ns.length := List.length_pos_iff.mpr hne
  refine wpAny_sz (max_intList (xs := xs.toArray) hA.1 ⟨_, ho, rfl, _, rfl⟩ (by simpa using (by omega : 0 < xs.length)) fun v h' tk hv hk hsz => ?_)
  obtain ⟨t, rfl⟩ := intItems_at hv
  obtain ⟨b1, b2⟩ := argBest_gt (numAt xs.toArray) (xs.toArray.size - 1)
  have hnum : ∀ i (hi : i < ns.length), numAt xs.toArray i = ns[i] := fun i hi => by
    subst h2
    simp only [numAt, List.getElem?_toArray, List.getElem_map]
    rw [List.getElem?_eq_getElem (by simpa using hi)]; rfl
  have hsz2 : xs.toArray.size = ns.length := by simpa using hlen
  rw [hsz2] at b1 b2
  have hbl : argBest (fun i j => decide (numAt xs.toArray i > numAt xs.toArray j)) (ns.length - 1) < ns.length := by omega
  rw [hsz2]
  refine res_keep (av := .int _) (t := tk) R hk hsz ⟨t, rfl⟩ (hQ _ ?_ ?_)
  · rw [hnum _ hbl]; exact List.getElem_mem _
  · intro x hx'
    obtain ⟨j, hj, rfl⟩ := List.mem_iff_getElem.mp hx'
    rw [← hnum j hj]
    exact b2 j (by omega)

/-! append -/
theorem Meth.append {l : Nat} {xs : List AV} {Q : AV → List AV → Hp → Prop} (hl : h l = some (.list xs)) (hQ : Q (.raw (.builtin "list.append")) [.obj l] h) : Meth K c "append" (.obj l) h Q := fun A G s u pl hA R hu => by
  obtain ⟨a, o, hg, ho, vs, n, rfl, hx⟩ := R.objAt hu hl
  exact getMethod_list_append ho rfl rfl ⟨G, .raw (.builtin "list.append"), [.obj l], h, Stp.refl _ _ _, R, rfl, ⟨⟨a, rfl, hg⟩, trivial⟩, hQ⟩
theorem call_append {l : Nat} {xs : List AV} {b : AV} {u v : Value} (hl : h l = some (.list xs)) (hsz : xs.length ≤ 1000) (R : Rel K c h G s.heap) (hu : VR G u (.obj l)) (hv : VR G v b) (hQ : Q .none (h.put l (.list (xs ++ [b])))) :
    wpAny K.M A (call (.builtin "list.append") [u, v]) (fun v s' => PE [] G s s' (Rel K c) (fun G' a => VR G' v a) Q) NoE s := by
  obtain ⟨a, o, hg, ho, vs, n, rfl, hx⟩ := R.objAt hu hl
  have e := hx.length
  simp only [Array.length_toList] at e
  refine wpAny_list_append_plain ⟨n, ho⟩ (fun h' ⟨n', ho'⟩ hs' => ?_) (by rw [sizeLine_eq]; omega)
  refine ⟨G, .none, _, Stp.atLoc (t := s.toks) hg hs', R.upd hg hs' ho' (ao := .list (xs ++ [b])) ⟨_, _, rfl, ?_⟩, rfl, hQ⟩
  rw [Array.toList_push]
  exact hx.append ⟨hv, trivial⟩
theorem Ca.append {l : Nat} {xs : List AV} {b : AV} (hl : h l = some (.list xs)) (hsz : xs.length ≤ 1000) (hQ : Q .none (h.put l (.list (xs ++ [b])))) : Ca K d (.raw (.builtin "list.append")) [.obj l, b] [] h Q := Ca.mk2 fun c A G s u v hA R hu hv =>
  call_append hl hsz R hu hv hQ

/-! join -/
theorem Meth.join {x : Str} {Q : AV → List AV → Hp → Prop} (hQ : Q (.raw (.builtin "str.join")) [.str x] h) : Meth K c "join" (.str x) h Q := fun A G s u pl hA R hu => by
  obtain ⟨t, rfl⟩ := hu
  exact GM.join ⟨G, .raw (.builtin "str.join"), [.str x], h, Stp.refl _ _ _, R, rfl, ⟨⟨t, rfl⟩, trivial⟩, hQ⟩

theorem strs_items {G : Gh} : ∀ {vs : List Value} {ns : List Str}, VRs G vs (ns.map .str) → ∃ xs : List (Str × Tok), vs = strValues xs ∧ xs.map (·.1) = ns
  | [], [], _ => ⟨[], rfl, rfl⟩
  | v :: vs, n :: ns, ⟨⟨t, e⟩, r⟩ => by
    obtain ⟨xs, h1, h2⟩ := strs_items r
    exact ⟨(n, t) :: xs, by rw [e, h1]; rfl, by simp [h2]⟩
  | [], _ :: _, h => h.elim
  | _ :: _, [], h => h.elim
open Builtin Builtin.Str in
theorem Ca.join {sep : Str} {a : AV} {ns : List Str} (hr : readL h a = some (ns.map .str)) (hl : ns.toArray.foldl (· + ·.length + sep.length) 0 ≤ sizeLine) (hg : (glued sep ns).length ≤ sizeLine) (hQ : Q (.str (glued sep ns)) h) : Ca K d (.raw (.builtin "str.join")) [.str sep, a] [] h Q := Ca.mk2 fun c A G s w u hA R ⟨t, hw⟩ hu => by
  subst hw
  obtain ⟨l, vs, n, ho, hx⟩ := R.listAt hr hu
  obtain ⟨xs, h1, h2⟩ := strs_items hx
  have e : vs = (strValues xs).toArray := by rw [← Array.toArray_toList (xs := vs), h1]
  subst e
  refine call_meets PySem.F.slot_str_join (typeIs_str _ _ _) PySem.F.entry_str_join (PySem.F.args_str_join_2 _ _) (meets_str_join_list sep t l xs ?_) ⟨⟨_, ho, rfl, _, rfl⟩, ?_⟩
  · rw [h2]; unfold tooLong; exact decide_eq_false (by omega)
  · subst h2
    match xs, hg, hQ with
    | [p], hg, hQ =>
      have e : glued sep ([p].map (·.1)) = p.1 := rfl
      rw [e] at hQ
      exact res_now (av := .str p.1) (t := s.toks) R ⟨_, rfl⟩ hQ
    | [], hg, hQ => exact ⟨hg, res_now (av := .str (glued sep [])) R ⟨_, rfl⟩ hQ⟩
    | p :: q :: r, hg, hQ => exact ⟨hg, res_now (av := .str (glued sep ((p :: q :: r).map (·.1)))) R ⟨_, rfl⟩ hQ⟩

/-! x[1:] of a str -/
theorem range_pick (l : List Nat) : (List.range l.length).filterMap (fun k => l[k]?) = l := by
  induction l with
  | nil => rfl
  | cons a l ih =>
    rw [List.length_cons, List.range_succ_eq_map, List.filterMap_cons, List.filterMap_map]
    simp only [List.getElem?_cons_zero]
    congr 1
theorem slicePicked_one (y : Str) (t : Tok) : slicePicked y (some (1, t)) none none = (List.range (y.length - 1)).map (· + 1) := by
  unfold slicePicked Builtin.Str.strSliceIndices sliceRange
  simp only [Option.map_some, Option.map_none, Option.getD_none]
  by_cases q : y.length = 0
  · rw [q]; rfl
  · have h1 : max 0 (min (1 : Int) (y.length : Int)) = 1 := by omega
    simp only [show ((1 : Int) > 0) = True by simp, if_true, show ((1:Int) < 0) = False by simp, if_false, h1]
    by_cases q2 : y.length = 1
    · rw [q2]; rfl
    · have h2 : (1 : Int) < (y.length : Int) := by omega
      rw [if_pos h2]
      have h3 : (((y.length : Int) - 1 + 1 - 1) / 1).toNat = y.length - 1 := by rw [Int.ediv_one]; omega
      rw [h3]
      apply List.map_congr_left
      intro k _
      omega
theorem slice_one (y : Str) (t : Tok) : (slicePicked y (some (1, t)) none none).filterMap (y.cps[·]?) = y.cps.toList.drop 1 := by
  rw [slicePicked_one, List.filterMap_map]
  show (List.range (y.cps.size - 1)).filterMap (fun k => y.cps[k + 1]?) = _
  obtain ⟨⟨l⟩⟩ := y
  cases l with
  | nil => rfl
  | cons a l =>
    simp only [List.size_toArray, List.length_cons, Nat.add_sub_cancel, List.drop_succ_cons, List.drop_zero, List.getElem?_toArray, List.getElem?_cons_succ]
    exact range_pick l
theorem slice_one_full (y : Str) (t : Tok) (h : (slicePicked y (some (1, t)) none none).length = y.length) : y.length = 0 := by
  rw [slicePicked_one] at h
  simp at h; omega
theorem Ev.sliceS1 {o p k pos kp} (x : Ev K c o h fun a h1 => ∃ y : Str, a = .str y ∧ y.length ≤ 1000 ∧ Q (.str ⟨y.cps.extract 1 y.cps.size⟩) h1) : Ev K c (.Subscript o (.Slice (some (.Constant (.int 1) k kp)) none none p) pos) h Q := fun A G s hA R => by
  rw [eval_Subscript]
  refine wpAny_bind (wpAny_mono (x A G s hA R) (fun u s1 ⟨G1, a, h1, x1, R1, v1, y, e1, hl, q1⟩ => wpAny_bind (wpAny_holding ?_)) fun _ _ z => z)
  subst e1
  obtain ⟨t, rfl⟩ := v1
  refine wpAny_Slice ?_
  show wpAny _ _ (eval (.Constant (.int 1) k kp) c.env) _ _ _
  refine wpAny_Constant_int ?_
  show wpAny _ _ (pure Value.none) _ _ _
  refine wpAny_pure ?_
  show wpAny _ _ (pure Value.none) _ _ _
  refine wpAny_pure ?_
  refine wpAny_bind (wpAny_standAt (wpAny_bind ?_))
  have hT := typeIs_str { s1 with heap := s1.heap.push { cls := .type "slice", data := .fields #[.int 1 s1.toks, .none, .none] }, toks := s1.toks + 1 } y t
  rw [getitemInPython_of_ne hT.not_modules]
  refine wpAny_bind (wpAny_specialOf hT PySem.F.slot_str_getitem.lookup ?_)
  refine wpAny_pure ?_
  have Rp : Rel K c h1 G1 (s1.heap.push { cls := .type "slice", data := .fields #[.int 1 s1.toks, .none, .none] }) := R1.push
  have stp : Stp c.own G1 G1 s1 { s1 with heap := s1.heap.push { cls := .type "slice", data := .fields #[.int 1 s1.toks, .none, .none] }, toks := s1.toks + 1 } := (Stp.push (own := c.own) (o := { cls := .type "slice", data := .fields #[.int 1 s1.toks, .none, .none] })).toks
  have fin : wpAny K.M A (getItem (.str y t) (.ref s1.heap.objs.size)) (PostE K c G s Q) NoE { s1 with heap := s1.heap.push { cls := .type "slice", data := .fields #[.int 1 s1.toks, .none, .none] }, toks := s1.toks + 1 } := by
    refine wpAny_getItem_str_slice (l := some (1, s1.toks)) (u := none) (st := none) ⟨_, Heap.get?_push_size _ rfl, rfl, rfl⟩ rfl ?_
    have e1 : (slicePicked y (some (1, s1.toks)) none none).filterMap (y.cps[·]?) = y.cps.toList.drop 1 := slice_one y _
    have e2 : (sliceMade y t (some (1, s1.toks)) none none) = if (slicePicked y (some (1, s1.toks)) none none).length == y.length then .val (.str y t) else .str ⟨y.cps.extract 1 y.cps.size⟩ := by
      unfold sliceMade
      rw [e1]
      have e3 : (y.cps.toList.drop 1).toArray = y.cps.extract 1 y.cps.size := by
        rw [← Array.toList_inj]; simp
        rw [List.take_of_length_le]
        simp
      rw [e3]; simp
    rw [e2]
    split
    · rename_i q
      have e4 : y.length = 0 := slice_one_full y _ (by simpa using q)
      have e5 : y.cps = #[] := by simpa [Str.length] using e4
      refine PostE.trans (x1.trans stp) (PostE.now' (av := .str ⟨y.cps.extract 1 y.cps.size⟩) Rp ⟨t, ?_⟩ q1)
      congr 1
      rw [e5]; exact (show y = ⟨#[]⟩ by rw [← e5])
    · refine ⟨?_, PostE.trans (x1.trans stp) (PostE.now (s := { s1 with heap := s1.heap.push { cls := .type "slice", data := .fields #[.int 1 s1.toks, .none, .none] }, toks := s1.toks + 1 }) (av := .str ⟨y.cps.extract 1 y.cps.size⟩) Rp ⟨_, rfl⟩ q1)⟩
      show (y.cps.extract 1 y.cps.size).size ≤ sizeLine
      rw [sizeLine_eq]; have : y.cps.size ≤ 1000 := hl
      simp; omega
  show wpAny _ _ (operate [.ref s1.heap.objs.size, .str y t] (getItem (.str y t) (.ref s1.heap.objs.size)) >>= _) _ _ _
  exact wpAny_bind (wpAny_operating (wpAny_mono fin (fun r s3 p => wpAny_bind (wpAny_letTemporaryGo (wpAny_pure p))) fun _ _ z => z))
end
end Mine
end

section
open PySem PySem.W PySem.Calls PyProof.Rows Builtin Builtin.ObjectAttr
namespace Mine
theorem lslot_ga' : Slot "list" "__getattribute__" "list.__getattribute__" :=
  .of (owner := "list") (n := "__getattribute__") (by rw [typeLookup_type, builtinLookup_eq_fast]; kernel_rfl) (by decide +kernel) (by decide +kernel) (by decide +kernel)
    (by first | exact .inl (by decide +kernel) | exact .inr (by decide +kernel)) (by rw [isSubtype_type]; kernel_rfl)
theorem l_entry_ga : entryFor table "list.__getattribute__" = some Builtin.«object.__getattribute__» := am_entry_list_getattribute
theorem l_args_ga (a b : Value) : argsOk "list.__getattribute__" ⟨[a, b], []⟩ := by unfold argsOk; kernel_rfl
theorem l_lookup_append : typeLookup (.type "list") "append" = pure (some (.builtin "list.append")) := by rw [typeLookup_type, builtinLookup_eq_fast]; kernel_rfl
theorem l_typeof_append : typeOf (.builtin "list.append") = pure (.type "method_descriptor") := by show builtinType _ = _; rw [builtinType_eq_fast]; kernel_rfl
theorem md_get : typeLookup (.type "method_descriptor") "__get__" = pure (some (.builtin "method_descriptor.__get__")) := by rw [typeLookup_type, builtinLookup_eq_fast]; kernel_rfl
theorem md_set : typeLookup (.type "method_descriptor") "__set__" = pure none := by rw [typeLookup_type, builtinLookup_eq_fast]; kernel_rfl
theorem md_delete : typeLookup (.type "method_descriptor") "__delete__" = pure none := by rw [typeLookup_type, builtinLookup_eq_fast]; kernel_rfl
theorem md_slot : Slot "method_descriptor" "__get__" "method_descriptor.__get__" :=
  .of (owner := "method_descriptor") (n := "__get__") (by rw [typeLookup_type, builtinLookup_eq_fast]; kernel_rfl) (by decide +kernel) (by decide +kernel) (by decide +kernel)
    (by first | exact .inl (by decide +kernel) | exact .inr (by decide +kernel)) (by rw [isSubtype_type]; kernel_rfl)
theorem md_entry : entryFor table "method_descriptor.__get__" = some Builtin.«method_descriptor.__get__» := entryFor_of_tree (by kernel_rfl)
theorem md_args (a b c : Value) : argsOk "method_descriptor.__get__" ⟨[a, b, c], []⟩ := by unfold argsOk; kernel_rfl

section
variable {prog : Program} {w : World} {A : Around} {E : Value → Shared → Prop} {s : Shared}

theorem md_run {l : Addr} {P : Fin → Shared → Prop} (hT : s.TypeIs (.ref l) "list") (h : P (.done (.ret (.ref s.heap.objs.size))) { s with heap := s.heap.push { cls := .type "builtin_function_or_method", data := .fields #[.builtin "list.append", .ref l] } }) :
    wpAny (model prog w) A (Builtin.«method_descriptor.__get__» ⟨[.builtin "list.append", .ref l, .type "list"], []⟩) P E s := by
  unfold Builtin.«method_descriptor.__get__»
  refine wpAny_bind (wpAny_of_eq (a := (.builtin "list.append", some (.ref l), some (.type "list"))) (by first | rfl | kernel_rfl) ?_)
  dsimp only
  rw [show Manifest.toldItsClass.contains "list.append" = false by decide +kernel]
  show wpAny _ _ (_ >>= fun _ => (newFields "builtin_function_or_method" [.builtin "list.append", .ref l] >>= fun v => ret v)) _ _ _
  refine wpAny_bind ?_
  refine wpAny_bind (wpAny_of_eq (a := (("append" : Str), Value.type "list")) (by first | rfl | kernel_rfl) ?_)
  refine wpAny_bind (wpAny_isInstance (T := "list") hT PySem.F.sub_list_list ?_)
  refine wpAny_pure ?_
  refine wpAny_bind (wpAny_newObj_type (wpAny_pure h))

theorem list_ga_append {l : Addr} {items : Array Value} {n : Nat} {tk : Tok} {P : Fin → Shared → Prop} (ho : IsL s.heap l items n)
    (h : P (.done (.ret (.ref s.heap.objs.size))) { s with heap := s.heap.push { cls := .type "builtin_function_or_method", data := .fields #[.builtin "list.append", .ref l] } }) :
    wpAny (model prog w) A (Builtin.«object.__getattribute__» ⟨[.ref l, .str "append" tk], []⟩) P E s := by
  have hT : s.TypeIs (.ref l) "list" := ⟨_, ho, rfl⟩
  unfold Builtin.«object.__getattribute__»
  refine wpAny_bind (wpAny_of_eq (a := (Value.ref l, [Value.str "append" tk])) (by first | rfl | kernel_rfl) ?_)
  refine wpAny_bind (wpAny_pure ?_)
  refine wpAny_bind (wpAny_typeOf hT ?_)
  refine wpAny_bind ?_
  unfold ObjectAttr.find
  refine wpAny_bind (wpAny_of_eq l_lookup_append ?_)
  refine wpAny_bind (wpAny_bind (wpAny_of_eq l_typeof_append (wpAny_of_eq md_get ?_)))
  refine wpAny_bind (wpAny_bind (m := takesStores _) (wpAny_bind (wpAny_bind (wpAny_of_eq l_typeof_append (wpAny_of_eq md_set ?_)))))
  refine wpAny_bind (wpAny_bind (wpAny_of_eq l_typeof_append (wpAny_of_eq md_delete ?_)))
  refine wpAny_pure (wpAny_pure ?_)
  show wpAny _ _ (ownThenClass _ _ _ _) _ _ _
  unfold ownThenClass
  refine wpAny_bind ?_
  show wpAny _ _ (ownDict l >>= inDict _) _ _ _
  unfold ObjectAttr.ownDict loadHead
  refine wpAny_bind (wpAny_bind (AutoSeq1.wpAny_loadPart' ho ?_))
  show wpAny _ _ (instanceDict l false) _ _ _
  unfold instanceDict
  refine wpAny_bind (AutoSeq1.wpAny_loadPart' ho ?_)
  show wpAny _ _ (pure none) _ _ _
  refine wpAny_pure ?_
  show wpAny _ _ (pure none) _ _ _
  refine wpAny_pure ?_
  show wpAny _ _ (copiedAttributeGuard _ _ >>= _) _ _ _
  refine wpAny_bind (wpAny_of_eq (a := ()) (by rfl) ?_)
  show wpAny _ _ (_ >>= fun _ => pure (Found.bind (.builtin "method_descriptor.__get__") (.builtin "list.append"))) _ _ _
  refine wpAny_bind (wpAny_rule (wpAny_pure ?_))
  show wpAny _ _ (holding [.builtin "list.append"] (call (.builtin "method_descriptor.__get__") [.builtin "list.append", .ref l, .type "list"]) >>= fun v => ret v) _ _ _
  refine wpAny_bind (wpAny_holding (wpAny_call_entry md_slot l_typeof_append md_entry (md_run hT ⟨_, rfl, wpAny_pure h⟩) (md_args _ _ _)))

theorem getAttr_list_append {l : Addr} {items : Array Value} {n : Nat} {ex : Bool} {Q : Value → Shared → Prop} (ho : IsL s.heap l items n)
    (h : Q (.ref s.heap.objs.size) { s with heap := s.heap.push { cls := .type "builtin_function_or_method", data := .fields #[.builtin "list.append", .ref l] }, toks := s.toks + 1 }) :
    wpAny (model prog w) A (getAttr (.ref l) "append" ex) Q E s := by
  unfold getAttr
  refine wpAny_bind (wpAny_mkText ?_)
  have hT : Shared.TypeIs { s with toks := s.toks + 1 } (.ref l) "list" := ⟨_, ho, rfl⟩
  unfold getAttrBy
  refine wpAny_holding (wpAny_bind (wpAny_typeOf hT (wpAny_bind (wpAny_of_eq list_getattribute ?_))))
  show wpAny _ _ (getAttrByItsOwn (.ref l) (.str "append" s.toks) (.type "list") (.builtin "list.__getattribute__") true ex) _ _ _
  unfold getAttrByItsOwn
  refine wpAny_bind (wpAny_of_eq (a := none) (by rfl) ?_)
  refine wpAny_bind (wpAny_attempt (wpAny_holding ?_))
  have hcg : callGetattribute (.ref l) (.str "append" s.toks) (.builtin "list.__getattribute__") ex = boundAndCalled (.builtin "list.__getattribute__") (.ref l) (.str "append" s.toks) := by
    unfold callGetattribute onTheHeap
    simp
  rw [hcg]
  unfold boundAndCalled
  rw [lslot_ga'.bind]
  refine wpAny_bind (wpAny_pure ?_)
  refine wpAny_call_entry lslot_ga' hT l_entry_ga ?_ (l_args_ga _ _)
  exact list_ga_append ho ⟨.ref s.heap.objs.size, rfl, wpAny_pure h⟩

noncomputable def appendSig : Manifest.Signature := ((Manifest.signature? "list.append").getD ⟨.noArgs, "", "", .self, []⟩)
theorem append_sig : Manifest.signature? "list.append" = some appendSig := by
  unfold appendSig; first | rfl | kernel_rfl
theorem append_kind : builtinKind "list.append" = some .method := by decide +kernel
theorem append_args {l : Addr} {v : Value} : Bind.checkArgs "list.append" { appendSig with full := "list.append" } ⟨[.ref l, v], []⟩ = pure () := by kernel_rfl
theorem check_append {l : Addr} {items : Array Value} {n : Nat} {v : Value} {Q : Unit → Shared → Prop} (ho : IsL s.heap l items n) (hQ : Q () s) : wpAny (model prog w) A (checkBoundCall "list.append" ⟨[.ref l, v], []⟩) Q E s := by
  have hT : s.TypeIs (.ref l) "list" := ⟨_, ho, rfl⟩
  unfold checkBoundCall
  rw [append_sig, append_kind]
  dsimp only
  rw [if_neg (by decide)]
  refine wpAny_bind (wpAny_isInstance (T := "list") (b := false) hT (by rw [isSubtype_type]; kernel_rfl) ?_)
  rw [if_neg (by decide +kernel)]
  have ht : wpAny (model prog w) A (isType (.ref l)) (fun b s' => b = false ∧ s' = s) E s := by
    unfold isType loadHead
    exact wpAny_bind (AutoSeq1.wpAny_loadPart' ho (wpAny_pure ⟨rfl, rfl⟩))
  refine wpAny_bind (wpAny_mono ht (fun b s' ⟨e1, e2⟩ => ?_) fun _ _ z => z)
  subst e1; subst e2
  rw [if_neg (by decide)]
  refine wpAny_bind (wpAny_typeOf hT ?_)
  exact wpAny_of_eq append_args hQ
theorem quiet_append {as : Args} : (Code.builtin "list.append" as).quiet = true := Code.quiet_builtin _ (by decide +kernel)

theorem call_boundAppend {x l : Addr} {items : Array Value} {n : Nat} {v : Value} {Q : Value → Shared → Prop} (hx : s.heap.get? x = some { cls := .type "builtin_function_or_method", data := .fields #[.builtin "list.append", .ref l] }) (ho : IsL s.heap l items n)
    (h : codeAny (model prog w) A (.builtin "list.append" ⟨[.ref l, v], []⟩) (fun r s' => match r with | .ok (.ret v) => Q v s' | .ok _ => False | .error e => E e s') s) : wpAny (model prog w) A (call (.ref x) [v]) Q E s := by
  refine wpAny_call (codeAny_of_tree ?_)
  show wpAny _ A.in1 (callAny (.ref x) ⟨[v], []⟩) _ _ s
  simp only [callAny]
  refine wpAny_bind (wpAny_load hx ?_)
  dsimp only
  rw [if_pos (by decide)]
  show wpAny _ _ (if (Value.type "builtin_function_or_method" != Value.type "method") = true then _ else _) _ _ _
  rw [if_pos (by decide)]
  refine wpAny_bind (check_append ho ?_)
  exact wpAny_bind (wpAny_pure (wpAny_pure ⟨quiet_append, h⟩))

end
section
variable {K : Bse} {c : Cx} {h : Hp} {G G' : Gh} {s s' s'' : Shared} {A : Around} {Q : AV → Hp → Prop} {d : Nat}

theorem Attr.append {l : Nat} {xs : List AV} (hl : h l = some (.list xs)) (hQ : Q (.bnd (.obj l) "list.append") h) : Attr K c "append" (.obj l) h Q := fun A G s u ex hA R hu => by
  obtain ⟨a, o, hg, ho, vs, n, rfl, hx⟩ := R.objAt hu hl
  refine getAttr_list_append ho ?_
  have := res_push (own := c.own) (Q := Q) (av := .bnd (.obj l) "list.append") (t := s.toks + 1) (o := { cls := .type "builtin_function_or_method", data := .fields #[.builtin "list.append", .ref a] }) R rfl ⟨a, ⟨a, rfl, hg⟩, rfl⟩ (fun _ a e => ⟨a, rfl, e⟩) hQ
  exact this
inductive BndR (G : Gh) (hp : Heap) (self : AV) (id : String) : Value → Prop
  | mk (x a) (ho : hp.get? x = some { cls := .type "builtin_function_or_method", data := .fields #[.builtin id, .ref a] }) (h1 : VR G (.ref a) self) : BndR G hp self id (.ref x)
theorem Rel.bndAt {hp : Heap} {self : AV} {id : String} {v : Value} (R : Rel K c h G hp) (hv : VR G v (.bnd self id)) : BndR G hp self id v := by
  obtain ⟨x, rfl, hg⟩ := hv
  obtain ⟨o, ho, a, h1, rfl⟩ := R.cells _ _ hg
  exact ⟨x, a, ho, h1⟩
theorem Kp.bnd {self : AV} {id : String} : Kp K (.bnd self id) h := fun c A G s fv P R hf hP => by
  obtain ⟨x, a, ho, _⟩ := R.bndAt hf
  unfold keeperOf
  refine wpAny_bind (wpAny_load ho ?_)
  dsimp only
  rw [if_pos (by decide)]
  exact wpAny_pure (hP _)
theorem l_entry_append : entryFor table "list.append" = some Builtin.«list.append» := entry_list_append
theorem Ca.bndAppend {l : Nat} {xs : List AV} {b : AV} (hl : h l = some (.list xs)) (hsz : xs.length ≤ 1000) (hQ : Q .none (h.put l (.list (xs ++ [b])))) : Ca K d (.bnd (.obj l) "list.append") [b] [] h Q := fun c A G s fv us ks hA R hf hu hks => by
  match us, ks, hu, hks with
  | [v], [], ⟨hv, _⟩, _ =>
    obtain ⟨x, a', hox, hu'⟩ := R.bndAt hf
    obtain ⟨a, o, e, hg, ho, vs, n, rfl, hx⟩ := (R.objAt hu' hl).inv
    cases e
    have e := hx.length
    simp only [Array.length_toList] at e
    show wpAny _ _ (call (.ref x) [v]) _ _ _
    refine call_boundAppend hox ho (codeAny_builtin l_entry_append ?_)
    show wpAny _ _ (updateSeq a' (·.push v) >>= fun _ => ret .none) _ _ s
    refine wpAny_bind (wpAny_updateSeq ho rfl (wpAny_pure ?_) (by rw [sizeLine_eq]; omega))
    refine ⟨G, .none, _, Stp.atLoc (t := s.toks) hg (Heap.SameBut.update ..), R.upd hg (Heap.SameBut.update ..) (IsL.update ho (·.push v)) (ao := .list (xs ++ [b])) ⟨_, _, rfl, ?_⟩, rfl, hQ⟩
    rw [Array.toList_push]
    exact hx.append ⟨hv, trivial⟩
end
end Mine
end

section
open PySem PySem.W PySem.Calls PyProof.Rows
namespace Mine

section
variable {prog : Program} {w : World} {A : Around} {E : Value → Shared → Prop} {s : Shared}

theorem dictPut_pairs {d : Addr} {kvs : List (Str × Value)} {k : Str} {key v : Value} {Q : Unit → Shared → Prop} (hkey : (strKind prog w).is k key = true) (hm : s.heap.DictOf (strKind prog w) d kvs)
    (hQ : ∀ h', h'.DictOf (strKind prog w) d (stored kvs k v) → Heap.SameBut d s.heap h' → Q () { s with heap := h' }) (hsz : kvs.length ≤ 1000) :
    wpAny (model prog w) A (dictPut d ((strKind prog w).hash k) key v) Q E s := by
  obtain ⟨o, es, ep, ho, hc, hd, hk, hp, hn⟩ := hm
  have hl := hp.length
  simp only [Array.length_toList] at hl
  unfold dictPut
  refine wpAny_bind (wpAny_dictFind_of hkey ho hd hk ?_)
  have hidx : (es.findIdx? fun e => (strKind prog w).is k e.key) = kvs.findIdx? fun kv => decide (kv.1 = k) := by
    rw [← hp.findIdx k]; obtain ⟨l⟩ := es; simp
  cases hi : es.findIdx? fun e => (strKind prog w).is k e.key with
  | some i =>
    have hst : stored kvs k v = kvs.map (fun kv => if kv.1 = k then (kv.1, v) else kv) := by rw [stored, if_pos (any_of_findIdx_some (hidx ▸ hi))]
    refine wpAny_updateDict ho hd (hQ _ ⟨_, _, ep, Heap.get?_update_self _ ho (Obj.isFreed_of_dict (Obj.data_mapDict hd _)), hc.mapDict _, Obj.data_mapDict hd _, hk.modify _ _, ?_, ?_⟩ (Heap.SameBut.update ..))
    · have hl : (es.toList.findIdx? fun e => (strKind prog w).is k e.key) = some i := by rw [← hi]; obtain ⟨l⟩ := es; simp
      have := hp.modify hn hl v
      rw [hst]
      obtain ⟨l⟩ := es
      simpa using this
    · rw [hst, keys_map_store]; exact hn
  | none =>
    have hnot : k ∉ kvs.map (·.1) := not_mem_of_findIdx_none (hidx ▸ hi)
    have hany : ¬ (kvs.any fun kv => decide (kv.1 = k)) = true := by
      rw [List.any_eq_true]; rintro ⟨kv, hkv, he⟩
      exact hnot (List.mem_map.mpr ⟨kv, hkv, of_decide_eq_true he⟩)
    have hst : stored kvs k v = kvs ++ [(k, v)] := by rw [stored, if_neg hany]
    refine wpAny_updateDictKeys (hz := by rw [sizeLine_eq]; omega) ho hd (hQ _ ⟨_, _, ep + 1, Heap.get?_update_self _ ho (Obj.isFreed_of_dict (Obj.data_mapDictKeys hd _)), hc.mapDictKeys _, Obj.data_mapDictKeys hd _, hk.push hkey _, ?_, ?_⟩ (Heap.SameBut.update ..))
    · rw [hst]
      have := hp.append hkey ((strKind prog w).hash k) v
      obtain ⟨l⟩ := es
      simpa using this
    · rw [hst, List.map_append, List.nodup_append]
      refine ⟨hn, by simp, fun a ha b hb e => ?_⟩
      simp only [List.map_cons, List.map_nil, List.mem_singleton] at hb
      exact hnot (hb ▸ e ▸ ha)

theorem mergeMapping_pairs {d o : Addr} {kvs more : List (Str × Value)} {Q : Unit → Shared → Prop} (hdo : d ≠ o) (hoS : (o == sysModules) = false)
    (hd : s.heap.DictOf (strKind prog w) d kvs) (ho : s.heap.DictOf (strKind prog w) o more)
    (hQ : ∀ h', h'.DictOf (strKind prog w) d (merged kvs more) → Heap.SameBut d s.heap h' → Q () { s with heap := h' }) (hsz : kvs.length + more.length ≤ 1000) :
    wpAny (model prog w) A (mergeMapping d (.ref o) false) Q E s := by
  obtain ⟨od, esd, epd, hod, hcd, hdd, hkd, hpd, hnd⟩ := id hd
  obtain ⟨oo, eso, epo, hoo, hco, hdo', hko, hpo, hno⟩ := id ho
  have hT : s.TypeIs (.ref o) "dict" := ⟨oo, hoo, hco.1⟩
  have hlen : more.length = eso.size := by rw [← hpo.length]; simp
  unfold mergeMapping
  refine wpAny_bind (wpAny_isInstance (T := "dict") hT PySem.F.sub_dict_dict ?_)
  rw [if_pos rfl]
  refine wpAny_bind (wpAny_specialOf (r := some (.builtin "dict.__iter__")) hT (by rw [typeLookup_type, builtinLookup_eq_fast]; kernel_rfl) (wpAny_bind (wpAny_pure ?_)))
  rw [show (some (Value.builtin "dict.__iter__") == some (.builtin "dict.__iter__")) = true by simp]
  dsimp only
  rw [if_neg (by rw [hoS]; exact Bool.false_ne_true)]
  have loop : wpAny (model prog w) A (do
      let l ← dictEntries o
      let epoch ← dictEpoch o
      forIn (List.range l.size) PUnit.unit fun i (_ : PUnit) => (do
        match (← dictEntries o)[i]? with
        | some e => do
          holding [e.key, e.val] (dictPut d e.hash e.key e.val)
          if (← dictEpoch o) != epoch then do
            (unsupported "dict.changed-during-merge" : Sem PUnit)
            pure (ForInStep.yield PUnit.unit)
          else pure (ForInStep.yield PUnit.unit)
        | _ => do
          (unsupported "dict.changed-during-merge" : Sem PUnit)
          pure (ForInStep.yield PUnit.unit) : Sem (ForInStep PUnit))
      pure ()) Q E s := by
    refine wpAny_bind (wpAny_dictEntries hoo hdo' (wpAny_bind (wpAny_dictEpoch hoo hdo' (wpAny_bind ?_))))
    refine wpAny_forIn_list _
      (fun rest _ s' => ∃ h' i, s' = { s with heap := h' } ∧ rest = List.range' i (eso.size - i) ∧ i ≤ eso.size ∧ h'.DictOf (strKind prog w) d (merged kvs (more.take i)) ∧ h'.get? o = some oo ∧ Heap.SameBut d s.heap h')
      _ ?_ ?_ _ _ ⟨s.heap, 0, rfl, by rw [List.range_eq_range']; rfl, Nat.zero_le _, by simpa [merged] using hd, hoo, Heap.SameBut.refl _ _⟩
    · rintro x rest b s' ⟨h', i, rfl, hr, hi, hd', hoo', hs'⟩
      have hlt : i < eso.size := by
        rcases Nat.lt_or_ge i eso.size with h | h
        · exact h
        · rw [Nat.sub_eq_zero_of_le h] at hr; simp at hr
      have e : eso.size - i = (eso.size - (i + 1)) + 1 := by omega
      rw [e, List.range'_succ] at hr
      injection hr with h1 h2
      subst h1
      refine wpAny_bind (wpAny_dictEntries hoo' hdo' ?_)
      rw [Array.getElem?_eq_getElem hlt]
      have hj : x < more.length := by omega
      obtain ⟨hkey, hval⟩ := hpo.get? (i := x) (e := eso[x]) (k := more[x].1) (v := more[x].2) (by simp [hlt]) (by simp [hj])
      obtain ⟨k', hk', hh⟩ := hko eso[x] (Array.getElem_mem hlt)
      have ek : k' = more[x].1 := (strKind prog w).inj _ _ _ hk' hkey
      rw [ek] at hh
      dsimp only
      rw [hh, hval]
      have hml := merged_length_le kvs (more.take x)
      refine wpAny_bind (wpAny_holding (dictPut_pairs hkey hd' (fun h'' hd'' hs'' => ?_) (by rw [List.length_take] at hml; omega)))
      have hoo'' : h''.get? o = some oo := (hs''.2 o (Ne.symm hdo)).trans hoo'
      refine wpAny_bind (wpAny_dictEpoch (s := { s with heap := h'' }) hoo'' hdo' ?_)
      rw [if_neg (by simp)]
      refine wpAny_pure ⟨h'', x + 1, rfl, h2, by omega, ?_, hoo'', hs'.trans hs''⟩
      rw [merged_take_succ kvs more x more[x] (List.getElem?_eq_getElem hj)]
      exact hd''
    · rintro b s' ⟨h', i, rfl, hr, hi, hd', hoo', hs'⟩
      have hie : i = eso.size := by
        rcases Nat.lt_or_ge i eso.size with h | h
        · have e : eso.size - i = (eso.size - (i + 1)) + 1 := by omega
          rw [e, List.range'_succ] at hr; cases hr
        · omega
      subst hie
      rw [← hlen, List.take_length] at hd'
      exact wpAny_pure (hQ h' hd' hs')
  refine wpAny_bind (wpAny_dictEntries hod hdd ?_)
  split
  · refine wpAny_bind (wpAny_dictEntries hoo hdo' (wpAny_bind ?_))
    refine wpAny_mono (Q := fun _ s' => s' = s) ?_ (fun _ s' e => by subst e; exact loop) fun _ _ z => z
    obtain ⟨l⟩ := eso
    rw [← Array.forIn_toList]
    refine wpAny_forIn_list _ (fun rest _ s' => s' = s ∧ ∀ e ∈ rest, ∃ x t, e.key = .str x t) _ ?_ ?_ _ _ ⟨rfl, fun e he => ?_⟩
    · rintro e rest b s' ⟨rfl, hall⟩
      obtain ⟨x, t, e1⟩ := hall e (List.mem_cons_self ..)
      rw [e1]
      exact wpAny_pure ⟨rfl, fun e he => hall e (List.mem_cons_of_mem _ he)⟩
    · rintro b s' ⟨rfl, _⟩
      rfl
    · obtain ⟨k', hk', _⟩ := hko e (by simpa using he)
      obtain ⟨t, e1⟩ := Value.isStrOf_shape hk'
      exact ⟨_, t, e1⟩
  · exact loop

end
section
variable {K : Bse} {c : Cx} {h : Hp} {G G' : Gh} {s s' s'' : Shared} {A : Around} {Q : AV → Hp → Prop} {d : Nat}

/-- dicts that may be read: frozen, changing, or of the start -/
noncomputable def ReadD (K : Bse) (h : Hp) : AV → List (Str × AV) → Prop
  | .dict es, fs => fs = es
  | .obj l, fs => h l = some (.dict fs)
  | .raw (.ref a), fs => fs = [] ∧ (a == sysModules) = false ∧ ∃ o, K.B a = some o ∧ o.IsDictOf (strKind K.prog K.w) []
  | _, _ => False

theorem Rel.dictR {hp : Heap} {av : AV} {es : List (Str × AV)} {v : Value} (R : Rel K c h G hp) (hr : ReadD K h av es) (hv : VR G v av) :
    ∃ a o kvs, v = .ref a ∧ hp.get? a = some o ∧ o.IsDictOf (strKind K.prog K.w) kvs ∧ kvs.map (·.1) = es.map (·.1) ∧ VRs G (kvs.map (·.2)) (es.map (·.2)) ∧ (a == sysModules) = false ∧ G a ≠ none := by
  cases av with
  | dict fs =>
    cases hr
    obtain ⟨a, o, e, ho, ⟨kvs, h1, h2, h3⟩, h4⟩ := (R.dictAt hv).inv
    obtain ⟨a', e', hg⟩ := hv
    rw [e] at e'; cases e'
    exact ⟨a, o, kvs, e, ho, h1, h2, h3, h4, by rw [hg]; simp⟩
  | obj l =>
    obtain ⟨a, o, e, hg, ho, kvs, h1, h2, h3⟩ := (R.objAt hv hr).inv
    refine ⟨a, o, kvs, e, ho, h1, h2, h3, ?_, by rw [hg]; simp⟩
    obtain ⟨os, hos⟩ := K.sysm
    have := R.base _ _ hos
    have hne : a ≠ sysModules := fun q => by rw [q, this] at hg; cases hg
    simpa using hne
  | raw u =>
    cases u with
    | ref a =>
      obtain ⟨rfl, h1, o, h2, h3⟩ := hr
      cases hv
      have hb := R.base _ _ h2
      obtain ⟨o', ho', hs⟩ := R.cells _ _ hb
      cases hs
      exact ⟨a, o, [], rfl, ho', h3, rfl, trivial, h1, by rw [hb]; simp⟩
    | _ => exact hr.elim
  | none => exact hr.elim
  | bool _ => exact hr.elim
  | int _ => exact hr.elim
  | str _ => exact hr.elim
  | tup _ => exact hr.elim
  | list _ => exact hr.elim
  | attrs _ => exact hr.elim
  | inst _ _ => exact hr.elim
  | range _ _ _ => exact hr.elim
  | bnd _ _ => exact hr.elim
  | cell _ => exact hr.elim

noncomputable def mrg (es fs : List (Str × AV)) : List (Str × AV) := fs.foldl (fun acc p => setL acc p.1 p.2) es
theorem stored_set {G : Gh} {kvs : List (Str × Value)} {k : Str} {v : Value} {x : AV} : ∀ {es : List (Str × AV)}, kvs.map (·.1) = es.map (·.1) → (kvs.map (·.1)).Nodup → VRs G (kvs.map (·.2)) (es.map (·.2)) → VR G v x →
    (stored kvs k v).map (·.1) = (setL es k x).map (·.1) ∧ VRs G ((stored kvs k v).map (·.2)) ((setL es k x).map (·.2)) := by
  induction kvs with
  | nil =>
    intro es hk hn hv hx
    cases es with
    | nil => exact ⟨rfl, hx, trivial⟩
    | cons _ _ => simp at hk
  | cons p kvs ih =>
    intro es hk hn hv hx
    cases es with
    | nil => simp at hk
    | cons q es =>
      obtain ⟨k1, v1⟩ := p
      obtain ⟨k2, a2⟩ := q
      simp only [List.map_cons, List.cons.injEq] at hk
      obtain ⟨rfl, hk⟩ := hk
      simp only [List.map_cons, List.nodup_cons] at hn
      by_cases e : k1 = k
      · subst e
        have hno : ∀ q ∈ kvs, q.1 ≠ k1 := fun q hq e => hn.1 (e ▸ List.mem_map_of_mem hq)
        have e1 : stored ((k1, v1) :: kvs) k1 v = (k1, v) :: kvs := by
          unfold stored
          rw [if_pos (by simp)]
          simp only [List.map_cons, if_true]
          congr 1
          rw [List.map_congr_left (g := id)]
          · simp
          · intro q hq; rw [if_neg (hno q hq)]; rfl
        have e2 : setL ((k1, a2) :: es) k1 x = (k1, x) :: es := by unfold setL; rw [if_pos rfl]
        rw [e1, e2]
        exact ⟨by simp [hk], hx, hv.2⟩
      · obtain ⟨i1, i2⟩ := ih hk hn.2 hv.2 hx
        have e1 : stored ((k1, v1) :: kvs) k v = (k1, v1) :: stored kvs k v := by
          unfold stored
          by_cases q : (kvs.any fun kv => decide (kv.1 = k)) = true
          · rw [if_pos (by simp only [List.any_cons, q, Bool.or_true]), if_pos q]
            simp [e]
          · rw [if_neg (by simp only [List.any_cons, e, decide_false, Bool.false_or]; exact q), if_neg q]; rfl
        have e2 : setL ((k1, a2) :: es) k x = (k1, a2) :: setL es k x := by
          show (if k1 = k then _ else _) = _
          rw [if_neg e]
        rw [e1, e2]
        exact ⟨by simp [i1], hv.1, i2⟩
theorem stored_nodup {kvs : List (Str × Value)} {k : Str} {v : Value} (hn : (kvs.map (·.1)).Nodup) : ((stored kvs k v).map (·.1)).Nodup := by
  unfold stored
  split
  · rw [keys_map_store]; exact hn
  · rename_i q
    rw [List.map_append, List.nodup_append]
    refine ⟨hn, by simp, fun a ha b hb e => ?_⟩
    simp only [List.map_cons, List.map_nil, List.mem_singleton] at hb
    subst hb; subst e
    obtain ⟨kv, hkv, e⟩ := List.mem_map.mp ha
    exact q (List.any_eq_true.mpr ⟨kv, hkv, by simpa using e⟩)
theorem merged_mrg {G : Gh} : ∀ {more : List (Str × Value)} {fs : List (Str × AV)} {kvs : List (Str × Value)} {es : List (Str × AV)}, kvs.map (·.1) = es.map (·.1) → (kvs.map (·.1)).Nodup → VRs G (kvs.map (·.2)) (es.map (·.2)) →
    more.map (·.1) = fs.map (·.1) → VRs G (more.map (·.2)) (fs.map (·.2)) → (merged kvs more).map (·.1) = (mrg es fs).map (·.1) ∧ VRs G ((merged kvs more).map (·.2)) ((mrg es fs).map (·.2))
  | [], [], _, _, h1, _, h3, _, _ => ⟨h1, h3⟩
  | (k, v) :: more, (k', x) :: fs, kvs, es, h1, h2, h3, h4, h5 => by
    simp only [List.map_cons, List.cons.injEq] at h4
    obtain ⟨rfl, h4⟩ := h4
    obtain ⟨i1, i2⟩ := stored_set (k := k) h1 h2 h3 h5.1
    exact merged_mrg (kvs := stored kvs k v) (es := setL es k x) i1 (stored_nodup h2) i2 h4 h5.2
  | [], _ :: _, _, _, _, _, _, h, _ => by simp at h
  | _ :: _, [], _, _, _, _, _, h, _ => by simp at h

/-- something loose is frozen -/
theorem Rel.valAt {hp : Heap} (R : Rel K c h G hp) {b : Addr} (hl : Loose c G [b]) {o : Obj} (ho : hp.get? b = some o) {av : AV} (hv : OV K G o av) : Rel K c h (Gput G b (.val av)) hp := by
  obtain ⟨h1, h2, h3⟩ := hl b (List.mem_singleton.mpr rfl)
  refine R.put h1 (fun q => ?_) (fun x k e q => h3 x (q ▸ e)) ho (g := .val av) (OV.mono (Gput_grow h1) hv) (fun _ _ => trivial) (fun _ _ _ _ _ x => x) ?_ ?_ ?_
  · rcases Cx.own_cases q with q | ⟨y, q⟩
    · exact h2 q
    · exact h3 y q
  · obtain ⟨n, hb⟩ := R.bound
    refine ⟨n, fun b' l e => ?_⟩
    by_cases q : b' = b
    · subst q; rw [Gput_self] at e; cases e
    · rw [Gput_ne _ _ q] at e; exact hb b' l e
  · intro b1 b' l e e'
    by_cases q : b1 = b
    · subst q; rw [Gput_self] at e; cases e
    · by_cases q' : b' = b
      · subst q'; rw [Gput_self] at e'; cases e'
      · rw [Gput_ne _ _ q] at e; rw [Gput_ne _ _ q'] at e'; exact R.inj b1 b' l e e'
  · intro l o e
    obtain ⟨b', hb'⟩ := R.live l o e
    exact ⟨b', Gput_grow h1 _ _ hb'⟩

/-- a dict that is being built: tracked nowhere -/
noncomputable def AccD (K : Bse) (c : Cx) (G : Gh) (hp : Heap) (D : Addr) (es : List (Str × AV)) : Prop :=
  Loose c G [D] ∧ ∃ o kvs, hp.get? D = some o ∧ o.IsDictOf (strKind K.prog K.w) kvs ∧ kvs.map (·.1) = es.map (·.1) ∧ VRs G (kvs.map (·.2)) (es.map (·.2))
theorem AccD.step {own : List Addr} {D es} (x : AccD K c G s.heap D es) (st : Stp own G G' s s') (hD : D ∉ own) : AccD K c G' s'.heap D es := by
  obtain ⟨hl, o, kvs, ho, h1, h2, h3⟩ := x
  refine ⟨fun b hb => ?_, o, kvs, st.keep D _ (hl D (List.mem_singleton.mpr rfl)).1 hD ho, h1, h2, h3.mono st.grow⟩
  have e := List.mem_singleton.mp hb
  subst e
  exact ⟨st.new b (hl b hb).1 (Heap.lt_size ho), (hl b hb).2⟩
theorem AccD.notOwn {D es} {hp : Heap} (x : AccD K c G hp D es) : D ∉ c.own := fun q => by
  have := x.1 D (List.mem_singleton.mpr rfl)
  rcases Cx.own_cases q with q | ⟨y, q⟩
  · exact this.2.1 q
  · exact this.2.2 y q
theorem AccD.new {R : Rel K c h G s.heap} : AccD K c G (s.heap.push { cls := .type "dict", data := .dict #[] }) s.heap.objs.size [] := by
  refine ⟨fun b hb => ?_, { cls := .type "dict", data := .dict #[] }, [], Heap.get?_push_size _ rfl, ⟨#[], 0, ⟨rfl, rfl, rfl⟩, rfl, fun e he => absurd he (by simp), Pairs.nil, List.nodup_nil⟩, rfl, trivial⟩
  have e := List.mem_singleton.mp hb
  subst e
  exact ⟨R.none_of_ge (Nat.le_refl _), fun q => absurd (R.own1 _ c.own0).2 (by rw [← q]; exact Nat.lt_irrefl _), fun x q => absurd (R.cell_lt q) (Nat.lt_irrefl _)⟩
/-- a change of the dict that is being built -/
theorem AccD.set {D es fs} {hp' : Heap} {t : Nat} (x : AccD K c G s.heap D es) (R : Rel K c h G s.heap) (hs : Heap.SameBut D s.heap hp') {kvs : List (Str × Value)} (hd : hp'.DictOf (strKind K.prog K.w) D kvs) (h1 : kvs.map (·.1) = fs.map (·.1)) (h2 : VRs G (kvs.map (·.2)) (fs.map (·.2))) :
    Stp [D] G G s { s with heap := hp', toks := t } ∧ Rel K c h G hp' ∧ AccD K c G hp' D fs := by
  obtain ⟨o, ho, hd'⟩ := Heap.dictOf_iff.mp hd
  exact ⟨Stp.one hs (x.1 D (List.mem_singleton.mpr rfl)).1, R.one hs x.1, x.1, o, kvs, ho, hd', h1, h2⟩
end
end Mine
end

section
open PySem PySem.W PySem.Calls PyProof.Rows
namespace Mine
section
variable {K : Bse} {c : Cx} {h : Hp} {G G' : Gh} {s s' s'' : Shared} {A : Around} {Q : AV → Hp → Prop} {d : Nat}

/-- pairs of a display, evaluated -/
noncomputable def Prs (K : Bse) (c : Cx) (pairs : List (Sem Value × Sem Value)) (h : Hp) (Q : List (Str × AV) → Hp → Prop) : Prop :=
  ∀ A G s, OkA c.d A → Rel K c h G s.heap → wpAny K.M A (evalPairs pairs) (fun vs s' => ∃ G' es h' kvs, Stp c.own G G' s s' ∧ Rel K c h' G' s'.heap ∧ Carries (strKind K.prog K.w) vs kvs ∧ kvs.map (·.1) = es.map (·.1) ∧ VRs G' (kvs.map (·.2)) (es.map (·.2)) ∧ Q es h') NoE s
theorem Prs.nil {Q} (hQ : Q [] h) : Prs K c [] h Q := fun A G s hA R => evalPairs_nil ⟨G, [], h, [], Stp.refl _ _ _, R, trivial, rfl, trivial, hQ⟩
theorem Prs.cons {x : Str} {k kp v pos rest Q} (y : Ev K c v h fun a h1 => Prs K c rest h1 fun es h2 => Q ((x, a) :: es) h2) :
    Prs K c ((eval (.Constant (.str x) k kp) c.env, (do let r ← eval v c.env; standAt pos; pure r)) :: rest) h Q := fun A G s hA R => by
  refine evalPairs_cons (wpAny_Constant_str (wpAny_bind (wpAny_mono (y A G _ hA R) (fun u s1 zp => PE.use zp fun G1 a h1 x1 R1 v1 q1 => wpAny_bind (wpAny_standAt (wpAny_pure ?_))) fun _ _ z => z)))
  refine wpAny_mono (q1 A G1 s1 hA R1) (fun vs s2 ⟨G2, es, h2, kvs, x2, R2, c2, n2, v2, q2⟩ => ?_) fun _ _ z => z
  exact ⟨G2, (x, a) :: es, h2, (x, u) :: kvs, (x1.toksL).trans x2, R2, ⟨strKind_is _ _ _ _, rfl, c2⟩, by simp [n2], ⟨v1.mono x2.grow, v2⟩, q2⟩

theorem AccD.finV {D : Addr} {es : List (Str × AV)} {u : Value} (x : AccD K c G' s'.heap D es) (R : Rel K c h G' s'.heap) (st : Stp c.own G G' s s') (hD : s.heap.objs.size ≤ D) (hu : u = .ref D) (hQ : Q (.dict es) h) : PostE K c G s Q u s' := by
  obtain ⟨hl, o, kvs, ho, h1, h2, h3⟩ := x
  subst hu
  exact ⟨_, .dict es, h, st.late (g := .val (.dict es)) hD (hl D (List.mem_singleton.mpr rfl)).1, R.valAt hl ho (av := .dict es) ⟨kvs, h1, h2, h3⟩, ⟨D, rfl, Gput_self ..⟩, hQ⟩
theorem AccD.finL {D : Addr} {es : List (Str × AV)} {u : Value} (x : AccD K c G' s'.heap D es) (R : Rel K c h G' s'.heap) (st : Stp c.own G G' s s') (hD : s.heap.objs.size ≤ D) (hu : u = .ref D) (hQ : ∀ l, h l = none → Q (.obj l) (h.put l (.dict es))) : PostE K c G s Q u s' := by
  obtain ⟨hl, o, kvs, ho, h1, h2, h3⟩ := x
  subst hu
  obtain ⟨l, hn, R'⟩ := R.locAt hl ho (ao := .dict es) ⟨kvs, h1, h2, h3⟩
  exact ⟨_, .obj l, _, st.late (g := .loc l) hD (hl D (List.mem_singleton.mpr rfl)).1, R', ⟨D, rfl, Gput_self ..⟩, hQ l hn⟩

theorem Stp.push' {own : List Addr} {o : Obj} : Stp own G G s { s with heap := s.heap.push o } := Stp.push

/-- a display of pairs -/
theorem Ev.dictF {keys : List (Option Expr)} {values : List Expr} {pos : Pos} {pairs : List (Sem Value × Sem Value)} (x : Prs K c pairs h fun es h1 => (es.map (·.1)).Nodup ∧ Q (.dict es) h1)
    (hshape : (evalEachOpt keys c.env).zip ((evalEach values c.env).map fun v => do let x ← v; standAt pos; pure x) = pairs.map fun p => (some p.1, p.2)) (h0 : pairs ≠ []) (hlen : pairs.length ≤ 15) : Ev K c (.Dict keys values pos) h Q := fun A G s hA R => by
  have a0 : AccD K c G (s.heap.push { cls := .type "dict", data := .dict #[] }) s.heap.objs.size [] := AccD.new (R := R)
  refine wpAny_Dict_pairs (knd := strKind K.prog K.w) hshape h0 hlen (wpAny_mono (x A G { s with heap := s.heap.push { cls := .type "dict", data := .dict #[] } } hA R.push) (fun vs s1 ⟨G1, es, h1, kvs, x1, R1, c1, n1, v1, hnd, q1⟩ => ?_) fun _ _ z => z)
  have a1 := AccD.step (s := { s with heap := s.heap.push { cls := .type "dict", data := .dict #[] } }) a0 x1 a0.notOwn
  obtain ⟨_, o, kv0, ho, hd, hn0, _⟩ := id a1
  have : kv0 = [] := by cases kv0 with | nil => rfl | cons _ _ => simp at hn0
  subst this
  refine ⟨kvs, c1, Heap.dictOf_iff.mpr ⟨o, ho, hd⟩, fun h' hd' hs' => ?_⟩
  rw [merged_nil_of_nodup kvs (by rw [n1]; exact hnd)] at hd'
  obtain ⟨st2, R2, a2⟩ := a1.set (t := s1.toks + vs.length) R1 hs' hd' n1 v1
  have st : Stp c.own G G1 s { s1 with heap := h', toks := s1.toks + vs.length } := by
    have st0 : Stp c.own G G s { s with heap := s.heap.push { cls := .type "dict", data := .dict #[] } } := Stp.push
    exact Stp.dropFresh (wr := [s.heap.objs.size]) (st2.sub fun a ha => List.mem_append_left _ ha) (st0.trans x1) fun b hb => by rw [List.mem_singleton.mp hb]; exact Nat.le_refl _
  exact AccD.finV (s' := { s1 with heap := h', toks := s1.toks + vs.length }) a2 R2 st (Nat.le_refl _) rfl q1

theorem dict_nil_eval {env : Env} {pos : Pos} {Q : Value → Shared → Prop} {M : Model} {E : Value → Shared → Prop} (h : Q (.ref s.heap.objs.size) { s with heap := s.heap.push { cls := .type "dict", data := .dict #[] } }) : wpAny M A (eval (.Dict [] [] pos) env) Q E s := by
  rw [arm_eval_Dict]
  refine wpAny_bind (wpAny_standAt ?_)
  show wpAny _ _ (newDict) _ _ _
  exact wpAny_newObj_type h
theorem Ev.dict0 {pos} (hQ : Q (.dict []) h) : Ev K c (.Dict [] [] pos) h Q := fun A G s hA R => by
  have a0 : AccD K c G (s.heap.push { cls := .type "dict", data := .dict #[] }) s.heap.objs.size [] := AccD.new (R := R)
  exact dict_nil_eval (AccD.finV (s' := { s with heap := s.heap.push { cls := .type "dict", data := .dict #[] } }) a0 R.push Stp.push (Nat.le_refl _) rfl hQ)

/-- one «**m» of a display -/
theorem star_merge {D : Addr} {es fs : List (Str × AV)} {a : AV} {m : Value} {P : Unit → Shared → Prop} (x : AccD K c G s.heap D es) (R : Rel K c h G s.heap) (hm : VR G m a) (hr : ReadD K h a fs) (hsz : es.length + fs.length ≤ 1000)
    (hP : ∀ s', Stp [D] G G s s' → Rel K c h G s'.heap → AccD K c G s'.heap D (mrg es fs) → P () s') : wpAny K.M A (mergeMapping D m false) P NoE s := by
  obtain ⟨a', o', kvs', rfl, ho', hd', hk', hv', hS, hG⟩ := R.dictR hr hm
  obtain ⟨hl, o, kvs, ho, hd, hk, hv⟩ := id x
  have hne : D ≠ a' := fun q => hG (by rw [← q]; exact (hl D (List.mem_singleton.mpr rfl)).1)
  have e1 := congrArg List.length hk; have e2 := congrArg List.length hk'
  simp only [List.length_map] at e1 e2
  have hnd : (kvs.map (·.1)).Nodup := by obtain ⟨_, _, _, _, _, _, hn⟩ := hd; exact hn
  obtain ⟨m1, m2⟩ := merged_mrg hk hnd hv hk' hv'
  refine mergeMapping_pairs hne hS (Heap.dictOf_iff.mpr ⟨o, ho, hd⟩) (Heap.dictOf_iff.mpr ⟨o', ho', hd'⟩) (fun h' hd'' hs' => ?_) (by omega)
  obtain ⟨st, R', x'⟩ := x.set (t := s.toks) R hs' hd'' m1 m2
  exact hP _ st R' x'

theorem dictDisplay_star2 {t1 t2 : Sem Value} {M : Model} {P : Value → Shared → Prop} {E : Value → Shared → Prop}
    (h : wpAny M A t1 (fun m s1 => wpAny M A (mergeMapping s.heap.objs.size m false) (fun _ s2 => wpAny M A t2 (fun m' s3 => wpAny M A (mergeMapping s.heap.objs.size m' false) (fun _ s4 => P (.ref s.heap.objs.size) s4) NoE s3) E s2) NoE s1) E { s with heap := s.heap.push { cls := .type "dict", data := .dict #[] } }) :
    wpAny M A (dictDisplay [(none, t1), (none, t2)]) P E s := by
  unfold dictDisplay
  dsimp only
  rw [List.forIn_cons]
  refine wpAny_bind (wpAny_bind ?_)
  dsimp only
  refine wpAny_bind (wpAny_pure ?_)
  dsimp only
  refine wpAny_bind (wpAny_alloc ?_)
  refine wpAny_bind (wpAny_holding (wpAny_mono h (fun m s1 h1 => ?_) fun _ _ z => z))
  refine wpAny_bind (wpAny_onRaise (wpAny_tryCatch (wpAny_onRaise (wpAny_holding (wpAny_mono h1 (fun _ s2 h2 => ?_) fun _ _ z => z.elim)))))
  refine wpAny_pure ?_
  dsimp only
  rw [List.forIn_cons]
  refine wpAny_bind ?_
  dsimp only
  refine wpAny_bind (wpAny_pure ?_)
  dsimp only
  refine wpAny_bind (wpAny_pure ?_)
  refine wpAny_bind (wpAny_holding (wpAny_mono h2 (fun m s3 h3 => ?_) fun _ _ z => z))
  refine wpAny_bind (wpAny_onRaise (wpAny_tryCatch (wpAny_onRaise (wpAny_holding (wpAny_mono h3 (fun _ s4 h4 => ?_) fun _ _ z => z.elim)))))
  refine wpAny_pure ?_
  dsimp only
  rw [List.forIn_nil]
  refine wpAny_pure ?_
  refine wpAny_bind (wpAny_pure ?_)
  exact wpAny_pure h4
theorem dictDisplay_star1 {t1 : Sem Value} {M : Model} {P : Value → Shared → Prop} {E : Value → Shared → Prop}
    (h : wpAny M A t1 (fun m s1 => wpAny M A (mergeMapping s.heap.objs.size m false) (fun _ s2 => P (.ref s.heap.objs.size) s2) NoE s1) E { s with heap := s.heap.push { cls := .type "dict", data := .dict #[] } }) :
    wpAny M A (dictDisplay [(none, t1)]) P E s := by
  unfold dictDisplay
  dsimp only
  rw [List.forIn_cons]
  refine wpAny_bind (wpAny_bind ?_)
  dsimp only
  refine wpAny_bind (wpAny_pure ?_)
  dsimp only
  refine wpAny_bind (wpAny_alloc ?_)
  refine wpAny_bind (wpAny_holding (wpAny_mono h (fun m s1 h1 => ?_) fun _ _ z => z))
  refine wpAny_bind (wpAny_onRaise (wpAny_tryCatch (wpAny_onRaise (wpAny_holding (wpAny_mono h1 (fun _ s2 h2 => ?_) fun _ _ z => z.elim)))))
  refine wpAny_pure ?_
  dsimp only
  rw [List.forIn_nil]
  refine wpAny_pure ?_
  refine wpAny_bind (wpAny_pure ?_)
  exact wpAny_pure h2

theorem mrg_length : ∀ (fs es : List (Str × AV)), (mrg es fs).length ≤ es.length + fs.length := by
  have one : ∀ (es : List (Str × AV)) k v, (setL es k v).length ≤ es.length + 1 := fun es k v => by
    induction es with
    | nil => exact Nat.le_refl _
    | cons p r ih => obtain ⟨y, u⟩ := p; unfold setL; split <;> simp <;> omega
  intro fs
  induction fs with
  | nil => intro es; exact Nat.le_refl _
  | cons p fs ih =>
    intro es
    have := ih (setL es p.1 p.2); have := one es p.1 p.2
    show (mrg (setL es p.1 p.2) fs).length ≤ _
    simp only [List.length_cons]; omega

/-- {**e, **f}, to be changed later -/
theorem Ev.star2M {e f pos} (x : Ev K c e h fun a h1 => ∃ es, ReadD K h1 a es ∧ es.length ≤ 100 ∧ Ev K c f h1 fun b h2 => ∃ fs, ReadD K h2 b fs ∧ fs.length ≤ 100 ∧ ∀ l, h2 l = none → Q (.obj l) (h2.put l (.dict (mrg (mrg [] es) fs)))) :
    Ev K c (.Dict [none, none] [e, f] pos) h Q := fun A G s hA R => by
  rw [arm_eval_Dict]
  refine wpAny_bind (wpAny_standAt ?_)
  show wpAny _ _ (dictDisplay [(none, (do let r ← eval e c.env; standAt pos; pure r)), (none, (do let r ← eval f c.env; standAt pos; pure r))]) _ _ _
  have a0 : AccD K c G (s.heap.push { cls := .type "dict", data := .dict #[] }) s.heap.objs.size [] := AccD.new (R := R)
  have st0 : Stp c.own G G s { s with heap := s.heap.push { cls := .type "dict", data := .dict #[] } } := Stp.push
  refine dictDisplay_star2 (wpAny_bind (wpAny_mono (x A G { s with heap := s.heap.push { cls := .type "dict", data := .dict #[] } } hA R.push) (fun m s1 ⟨G1, a, h1, x1, R1, v1, es, r1, l1, q1⟩ => wpAny_bind (wpAny_standAt (wpAny_pure ?_))) fun _ _ z => z))
  have a1 := AccD.step (s := { s with heap := s.heap.push { cls := .type "dict", data := .dict #[] } }) a0 x1 a0.notOwn
  refine star_merge a1 R1 v1 r1 (by simp; omega) fun s2 st2 R2 a2 => ?_
  refine wpAny_bind (wpAny_mono (q1 A G1 s2 hA R2) (fun m s3 ⟨G3, b, h3, x3, R3, v3, fs, r3, l3, q3⟩ => wpAny_bind (wpAny_standAt (wpAny_pure ?_))) fun _ _ z => z)
  have a3 := a2.step x3 a2.notOwn
  have := mrg_length es []
  refine star_merge a3 R3 v3 r3 (by simp at this; omega) fun s4 st4 R4 a4 => ?_
  have c1 : Stp ([s.heap.objs.size] ++ c.own) G G3 s s4 := ((((st0.trans x1).sub fun a ha => List.mem_append_right _ ha).trans (st2.sub fun a ha => List.mem_append_left _ ha)).trans (x3.sub fun a ha => List.mem_append_right _ ha)).trans (st4.sub fun a ha => List.mem_append_left _ ha)
  have c2 : Stp c.own G G3 s s4 := Stp.dropFresh c1 (Stp.refl _ _ _) fun b hb => by rw [List.mem_singleton.mp hb]; exact Nat.le_refl _
  exact AccD.finL a4 R4 c2 (Nat.le_refl _) rfl q3
/-- {**e} -/
theorem Ev.star1 {e pos} (x : Ev K c e h fun a h1 => ∃ es, ReadD K h1 a es ∧ es.length ≤ 100 ∧ Q (.dict (mrg [] es)) h1) : Ev K c (.Dict [none] [e] pos) h Q := fun A G s hA R => by
  rw [arm_eval_Dict]
  refine wpAny_bind (wpAny_standAt ?_)
  show wpAny _ _ (dictDisplay [(none, (do let r ← eval e c.env; standAt pos; pure r))]) _ _ _
  have a0 : AccD K c G (s.heap.push { cls := .type "dict", data := .dict #[] }) s.heap.objs.size [] := AccD.new (R := R)
  have st0 : Stp c.own G G s { s with heap := s.heap.push { cls := .type "dict", data := .dict #[] } } := Stp.push
  refine dictDisplay_star1 (wpAny_bind (wpAny_mono (x A G { s with heap := s.heap.push { cls := .type "dict", data := .dict #[] } } hA R.push) (fun m s1 ⟨G1, a, h1, x1, R1, v1, es, r1, l1, q1⟩ => wpAny_bind (wpAny_standAt (wpAny_pure ?_))) fun _ _ z => z))
  have a1 := AccD.step (s := { s with heap := s.heap.push { cls := .type "dict", data := .dict #[] } }) a0 x1 a0.notOwn
  refine star_merge a1 R1 v1 r1 (by simp; omega) fun s2 st2 R2 a2 => ?_
  have c1 : Stp ([s.heap.objs.size] ++ c.own) G G1 s s2 := ((st0.trans x1).sub fun a ha => List.mem_append_right _ ha).trans (st2.sub fun a ha => List.mem_append_left _ ha)
  have c2 : Stp c.own G G1 s s2 := Stp.dropFresh c1 (Stp.refl _ _ _) fun b hb => by rw [List.mem_singleton.mp hb]; exact Nat.le_refl _
  exact AccD.finV a2 R2 c2 (Nat.le_refl _) rfl q1
end
end Mine
end

section
open PySem PySem.W PySem.Calls PyProof.Rows
namespace Mine

noncomputable def tabAt (pos : Pos) : List (Int × Int × Str) → Option Str
  | [] => none
  | (a, b, q) :: r => if (a == (pos.line : Int) && b == (pos.col : Int)) = true then some q else tabAt pos r
noncomputable def tabNew (pos : Pos) (qual : Str) (es : List (Int × Int × Str)) : List (Int × Int × Str) :=
  match tabAt pos es with
  | some _ => es
  | none => es ++ [((pos.line : Int), (pos.col : Int), qual)]

theorem tabFlat.ok {G : Gh} : ∀ {ps : List Value} {es}, tabFlat G ps es → TriplesOk ps
  | [], [], _ => trivial
  | x :: y :: z :: r, (a, b, q) :: es, ⟨h1, h2, _, h6⟩ => by subst h1; subst h2; show TriplesOk r; exact tabFlat.ok h6
  | [], _ :: _, h => h.elim
  | [_], _, h => by cases ‹List (Int × Int × Str)› <;> exact h.elim
  | [_, _], _, h => by cases ‹List (Int × Int × Str)› <;> exact h.elim
  | _ :: _ :: _ :: _, [], h => h.elim
theorem tabFlat.among {G : Gh} (pos : Pos) : ∀ {ps : List Value} {es}, tabFlat G ps es → match tabAt pos es with
    | none => codeAmong pos ps = none
    | some q => ∃ c o vs t, codeAmong pos ps = some (.ref c) ∧ G c = some (.base o) ∧ o.data = .fields vs ∧ vs[1]? = some (.str q t)
  | [], [], _ => rfl
  | x :: y :: z :: r, (a, b, q) :: es, ⟨h1, h2, ⟨c, o, vs, t, h3, h4, h5, h7⟩, h6⟩ => by
    subst h1; subst h2; subst h3
    unfold tabAt
    have ih := tabFlat.among pos h6
    by_cases e : (a == (pos.line : Int) && b == (pos.col : Int)) = true
    · rw [if_pos e]
      refine ⟨c, o, vs, t, ?_, h4, h5, h7⟩
      show (if _ then _ else _) = _
      rw [if_pos e]
    · rw [if_neg e]
      have : codeAmong pos (rawInt a :: rawInt b :: .ref c :: r) = codeAmong pos r := by
        show (if _ then _ else _) = _
        rw [if_neg e]
      rw [this]; exact ih
  | [], _ :: _, h => h.elim
  | [_], _, h => by cases ‹List (Int × Int × Str)› <;> exact h.elim
  | [_, _], _, h => by cases ‹List (Int × Int × Str)› <;> exact h.elim
  | _ :: _ :: _ :: _, [], h => h.elim
theorem tabFlat.snoc {G : Gh} {a b : Int} {q : Str} {c : Addr} {o : Obj} {vs t} (h4 : G c = some (.base o)) (h5 : o.data = .fields vs) (h7 : vs[1]? = some (.str q t)) : ∀ {ps : List Value} {es}, tabFlat G ps es → tabFlat G (ps ++ [rawInt a, rawInt b, .ref c]) (es ++ [(a, b, q)])
  | [], [], _ => ⟨rfl, rfl, ⟨c, o, vs, t, rfl, h4, h5, h7⟩, trivial⟩
  | x :: y :: z :: r, (a', b', q') :: es, ⟨h1, h2, h3, h6⟩ => ⟨h1, h2, h3, tabFlat.snoc h4 h5 h7 h6⟩
  | [], _ :: _, h => h.elim
  | [_], _, h => by cases ‹List (Int × Int × Str)› <;> exact h.elim
  | [_, _], _, h => by cases ‹List (Int × Int × Str)› <;> exact h.elim
  | _ :: _ :: _ :: _, [], h => h.elim

/-- what the start holds of a code object -/
inductive CodeB (K : Bse) (c P : Addr) : Prop
  | mk (o vs file tf flags tg inF text tt) (e : K.B c = some o) (r : o.cls = .type "code" ∧ o.data = .fields vs ∧ vs[11]? = some (.ref P) ∧ vs.getD 11 .none = .ref P ∧ vs.getD 18 .none = .str file tf ∧
    vs.getD 7 .none = .int flags tg ∧ vs.getD 9 .none = .bool inF ∧ vs.getD 10 .none = .int text tt ∧ c ≠ P)
inductive BltB (K : Bse) : Prop
  | mk (bm o) (b1 : K.mg "__builtins__" = some (.ref bm)) (b2 : bm ≠ builtinsNs) (b3 : bm ≠ mainGlobals) (b4 : K.B bm = some o) (r : o.cls = .type "module" ∧ o.dict = some builtinsNs ∧ o.data = .plain)

/-- fd is the function that this lambda makes -/
noncomputable def IsLam (fd : FuncData) (qual : Str) (params : Arguments) (body : Expr) (scope : Scope) (clos : List (Str × Addr)) : Prop := ∃ pm cdv ctv, fd = kla_fn "<lambda>" qual params body scope clos pm cdv ctv

section
variable {K : Bse} {c : Cx} {h : Hp} {G G' : Gh} {s s' s'' : Shared} {A : Around} {Q : AV → Hp → Prop} {d : Nat}

/-- a fresh object of the start's kind -/
theorem Rel.baseAt' {hp : Heap} (R : Rel K c h G hp) {b : Addr} (hl : Loose c G [b]) {o : Obj} (ho : hp.get? b = some o) : Rel K c h (Gput G b (.base o)) hp := by
  obtain ⟨h1, h2, h3⟩ := hl b (List.mem_singleton.mpr rfl)
  refine R.put h1 (fun q => ?_) (fun x k e q => h3 x (q ▸ e)) ho (g := .base o) rfl (fun _ _ => trivial) (fun _ _ _ _ _ x => x) ?_ ?_ ?_
  · rcases Cx.own_cases q with q | ⟨y, q⟩
    · exact h2 q
    · exact h3 y q
  · obtain ⟨n, hb⟩ := R.bound
    refine ⟨n, fun b' l e => ?_⟩
    by_cases q : b' = b
    · subst q; rw [Gput_self] at e; cases e
    · rw [Gput_ne _ _ q] at e; exact hb b' l e
  · intro b1 b' l e e'
    by_cases q : b1 = b
    · subst q; rw [Gput_self] at e; cases e
    · by_cases q' : b' = b
      · subst q'; rw [Gput_self] at e'; cases e'
      · rw [Gput_ne _ _ q] at e; rw [Gput_ne _ _ q'] at e'; exact R.inj b1 b' l e e'
  · intro l o e
    obtain ⟨b', hb'⟩ := R.live l o e
    exact ⟨b', Gput_grow h1 _ _ hb'⟩

theorem loose_fresh (R : Rel K c h G s.heap) {b : Addr} (hb : s.heap.objs.size ≤ b) : Loose c G [b] := fun b' hb' => by
  have e := List.mem_singleton.mp hb'
  subst e
  exact ⟨R.none_of_ge hb, fun q => absurd (R.own1 _ c.own0).2 (by rw [← q]; exact Nat.not_lt.mpr hb), fun x q => absurd (R.cell_lt q) (Nat.not_lt.mpr hb)⟩

theorem Ev.lam {params : Arguments} {body : Expr} {scope : Scope} {pos : Pos} {cc P : Addr} {lt : Nat} {es : List (Int × Int × Str)} {clos : List (Str × Addr)} (hcode : c.env.code = .ref cc) (hcc : CodeB K cc P) (hT : K.T P = some lt) (hb : BltB K) (he : h lt = some (.tab es))
    (hdef : defaultsOf params c.env = ([], [])) (hclo : closureFor scope c.env = pure clos) (hq : ∀ q, tabAt pos es = some q → q = c.env.qual ++ "<lambda>")
    (hQ : ∀ fd l, IsLam fd (c.env.qual ++ "<lambda>") params body scope clos → (h.put lt (.tab (tabNew pos (c.env.qual ++ "<lambda>") es))) l = none → Q (.obj l) ((h.put lt (.tab (tabNew pos (c.env.qual ++ "<lambda>") es))).put l (.lam fd []))) :
    Ev K c (.Lambda params body scope pos) h Q := fun A G s hA R => by
  have hGP := R.tabs _ _ hT
  obtain ⟨oP, hoP, ps, rfl, hflat⟩ := R.locObj hGP he
  obtain ⟨oc, vs, file, tf, flags, tg, inF, text, tt, c1, cr⟩ := hcc
  have hC : CodeHd s.heap cc P := ⟨oc, vs, file, tf, flags, tg, inF, text, tt, R.baseAt c1, cr⟩
  obtain ⟨bm, ob, b1, b2, b3, b4, br⟩ := hb
  have hbP : bm ≠ P := fun q => by have := R.base _ _ b4; rw [q, hGP] at this; cases this
  have hB : s.heap.BuiltinsAt K.mg P := ⟨bm, ob, b1, b2, b3, hbP, R.baseAt b4, br⟩
  have hmg : mainGlobals ≠ P := fun q => by
    obtain ⟨o, xs, ep, e, _⟩ := K.glob
    have := R.base _ _ e; rw [q, hGP] at this; cases this
  have hg := R.globNs.1
  rw [R.glob.1] at hg
  refine kla_eval hdef ?_
  have ham := hflat.among pos
  cases ht : tabAt pos es with
  | some q =>
    rw [ht] at ham
    obtain ⟨k, o, vs', t, e1, e2, e3, e4⟩ := ham
    have hqq := hq q ht
    subst hqq
    have etab : tabNew pos (c.env.qual ++ "<lambda>") es = es := by unfold tabNew; rw [ht]
    rw [etab, h.put_eq he] at hQ
    refine kla_makeFunctionHit hclo R.glob.1 hg hcode hC hoP hflat.ok e1 hB fun ctv h' tk hk hsz => ?_
    have st1 : Stp c.own G G s { s with heap := h', toks := tk } := Stp.heap hk hsz
    have R1 : Rel K c h G h' := R.keep hk hsz
    have := PostE.freshLoc (s := { s with heap := h', toks := tk }) (ao := .lam (kla_fn "<lambda>" (c.env.qual ++ "<lambda>") params body scope clos ((K.mg "__name__").getD .none) (.ref k) ctv) []) (Q := Q) (v := .ref h'.objs.size) (c := c) (h := h) R1 rfl
      ⟨rfl, ⟨k, o, vs', t, rfl, e2, e3, e4⟩, fun x av e => by cases e⟩ rfl (fun l hl => hQ _ l ⟨_, _, _, rfl⟩ hl)
    exact PostE.trans st1 this
  | none =>
    rw [ht] at ham
    have etab : tabNew pos (c.env.qual ++ "<lambda>") es = es ++ [((pos.line : Int), (pos.col : Int), c.env.qual ++ "<lambda>")] := by unfold tabNew; rw [ht]
    rw [etab] at hQ
    refine wpAny_sz (kla_makeFunction hclo R.glob.1 hg hcode hC hoP hflat.ok ham hmg hB fun c' ctv h' tk hx hge hlt hrec hP' hszAll => ?_)
    obtain ⟨_, oc', vs', t, ec, e2, e3, e4⟩ := hrec
    cases ec
    have hsz : s.heap.objs.size ≤ h'.objs.size := Nat.le_of_lt (Nat.lt_of_le_of_lt hge hlt)
    have hkP : ∀ b o, b ≠ P → s.heap.get? b = some o → h'.get? b = some o := fun b o hbp e => hx b o hbp e
    have st1 : Stp c.own G G s { s with heap := h', toks := tk } := Stp.updX (t := tk) hGP hkP hsz
    have R1 : Rel K c (h.put lt .other) G h' := R.updX hGP hkP hsz hP' (ao := .other) trivial
    have hl : Loose c G [c'] := loose_fresh R hge
    have hnone := (hl c' (List.mem_singleton.mpr rfl)).1
    have R2 := R1.baseAt' hl e2
    have st2 : Stp c.own G (Gput G c' (.base oc')) s { s with heap := h', toks := tk } := st1.late hge hnone
    have hGP2 : Gput G c' (.base oc') P = some (.loc lt) := Gput_grow hnone _ _ hGP
    have R3 := R2.updX (hp' := h') hGP2 (fun _ _ _ e => e) (Nat.le_refl _) hP' (ao := .tab (es ++ [((pos.line : Int), (pos.col : Int), c.env.qual ++ "<lambda>")]))
      ⟨_, rfl, by rw [Array.toList_append]; exact tabFlat.snoc (Gput_self ..) e3 e4 (hflat.mono (Gput_grow hnone))⟩
    rw [Hp.put_put] at R3
    have := PostE.freshLoc (s := { s with heap := h', toks := tk }) (ao := .lam (kla_fn "<lambda>" (c.env.qual ++ "<lambda>") params body scope clos ((K.mg "__name__").getD .none) (.ref c') ctv) []) (Q := Q) (v := .ref h'.objs.size) (c := c) R3 rfl
      ⟨rfl, ⟨c', oc', vs', t, rfl, Gput_self .., e3, e4⟩, fun x av e => by cases e⟩ rfl (fun l hl => hQ _ l ⟨_, _, _, rfl⟩ hl)
    exact PostE.trans st2 this
end
end Mine
end

section
open PySem PySem.W PySem.Calls PyProof.Rows
namespace Mine

noncomputable def relab (h : Hp) (ls : List Nat) (x0 : Str) (av : AV) : Hp := fun l => if l ∈ ls then (match h l with | some (.lam fd _) => some (.lam fd [(x0, av)]) | o => o) else h l
noncomputable def lamEnv (fd : FuncData) (L a : Addr) : Env := newEnv fd.scope L fd.globals fd.closure (fd.qualname ++ ".<locals>.") (some a) fd.code none fd.builtins

section
variable {K : Bse} {c : Cx} {h : Hp} {G G' : Gh} {s s' s'' : Shared} {A : Around} {Q : AV → Hp → Prop} {d : Nat}

theorem Rel.relab {hp : Heap} {ls : List Nat} {x0 : Str} {av : AV} {k : Addr} (R : Rel K c h G hp) (hls : ∀ l ∈ ls, ∃ fd, h l = some (.lam fd []) ∧ fd.closure = [(x0, k)]) (hk : G k = some (.val (.cell av))) : Rel K c (relab h ls x0 av) G hp :=
  { R with
    cells := fun a g e => by
      obtain ⟨o, ho, x⟩ := R.cells a g e
      refine ⟨o, ho, ?_⟩
      cases g with
      | base _ => exact x
      | val _ => exact x
      | loc l =>
        simp only [Sat] at x ⊢
        unfold Mine.relab
        by_cases hm : l ∈ ls
        · rw [if_pos hm]
          obtain ⟨fd, e1, e2⟩ := hls l hm
          rw [e1] at x ⊢
          obtain ⟨p1, p2, p3⟩ := x
          refine ⟨p1, p2, fun y av' e3 => ?_⟩
          by_cases q : y = x0
          · subst q
            simp only [List.lookup_cons, beq_self_eq_true] at e3
            cases e3
            exact ⟨k, by rw [e2]; simp, hk⟩
          · have : (y == x0) = false := by simpa using q
            simp [List.lookup_cons, this] at e3
        · rw [if_neg hm]; exact x
    live := fun l o e => by
      unfold Mine.relab at e
      split at e
      · rename_i hm
        obtain ⟨fd, e1, e2⟩ := hls l hm
        exact R.live l _ e1
      · exact R.live l o e }

/-- a call of a def whose cell is closed for good at the end -/
theorem CaC.fnP {a : Addr} {fd : FuncData} {body : List Stmt} {as : List AV} {names : List Str} {x0 : Str} (F : FnOk K a fd body) (hl : names.length = as.length) (hb : ∀ us : List Value, us.length = names.length → bindArgs fd ⟨us, []⟩ = pure (names.zip us)) (hnd : names.Nodup) (hkind : kindsOk fd names = true)
    (hx0 : fd.scope.names.lookup x0 = some .cell)
    (x : ∀ L k : Addr, (callEnvC fd L a).cells.lookup x0 = some k → Exs K ⟨d, callEnvC fd L a, true, names.zip as⟩ body h fun f L' h2 => match f with
      | .ret av => ∃ avc ls, L'.lookup x0 = some avc ∧ (∀ l ∈ ls, ∃ fd, h2 l = some (.lam fd []) ∧ fd.closure = [(x0, k)]) ∧ Q av (relab h2 ls x0 avc)
      | _ => False) : CaC K (d + 1) (.raw (.ref a)) as [] h Q := fun c A G s fv us ks hA R hf hu hks => by
  cases hf
  obtain ⟨o, ho, hdata⟩ := F.ho
  have hoa := R.baseAt ho
  obtain ⟨cc, co, vs, t, e1, e2, e3, e4⟩ := F.hcd
  have hbind : Bnd K fd as [] h (names.zip as) h := Bnd.of hl hb
  refine codeAny_call_function hA.room hoa hdata F.hco F.hgen F.hbody ⟨cc, co, vs, t, e1, R.baseAt e2, e3, e4⟩ ?_
  have hA1 : OkA d A.in1 := hA.in1
  refine wpAny_mono (hbind c A.in1 G s us ks hA1.1 R hu hks) (fun binds s1 ⟨G1, st1, R1, n1, v1⟩ => ?_) fun _ _ z => z.elim
  have hnm : (names.zip as).map (·.1) = names := by rw [List.map_fst_zip (by omega)]
  have hkd : ∀ y ∈ names, fd.scope.names.lookup y = some .local ∨ fd.scope.names.lookup y = some .cell := fun y hy => by
    have := List.all_eq_true.mp hkind y hy
    simpa using this
  rw [F.hcl]
  have hsome : ∀ n y, fd.scope.names.lookup y = some .cell → ((cellsFrom n fd.scope.names []).lookup y).isSome = true := fun n y e => cellsFrom_some _ _ _ (.inl e)
  refine wpAny_newFunctionEnv_cells F.hk (fun y hy => ?_) fun env he s2 x2 => ?_
  · have : y.1 ∈ names := by rw [← hnm, ← n1]; exact List.mem_map_of_mem hy
    exact (hkd _ this).imp id fun q => ⟨q, hsome _ _ q⟩
  · have R2 := Rel.enter (e := d) R1 x2 n1 v1 (by rw [hnm]; exact hnd) (by rw [he]; exact F.hk) (by rw [he]; exact F.hgl) (fun y hy => by
      rw [he]
      have : y.1 ∈ names := by rw [← hnm]; exact List.mem_map_of_mem hy
      exact (hkd _ this).imp id fun q => ⟨q, hsome _ _ q⟩)
    have he' : env = callEnvC fd s1.heap.objs.size a := he
    subst he'
    obtain ⟨R2, st2, hfr⟩ := R2
    obtain ⟨k, hk⟩ : ∃ k, (callEnvC fd s1.heap.objs.size a).cells.lookup x0 = some k := Option.isSome_iff_exists.mp (hsome _ _ hx0)
    refine ⟨R2.noLimit, codeAny_func (wpAny_mono (x s1.heap.objs.size k hk (A.deeper (callEnvC fd s1.heap.objs.size a)) G1 s2 hA.deeper R2) (fun f s3 p => ?_) fun _ _ z => z.elim)⟩
    obtain ⟨G3, f3, L3, h3, x3, R3, v3, q3⟩ := p
    have st : Stp [] G G3 s s3 := st1.trans (Stp.frame st2 x3 hfr)
    have Rb : Rel K c h3 G3 s3.heap := R.back R3 st
    cases f <;> cases f3 <;> try exact v3.elim
    · exact q3.elim
    · exact q3.elim
    · exact q3.elim
    · obtain ⟨avc, ls, hlk, hls, hQ⟩ := q3
      obtain ⟨m, hn, hbm⟩ := R3.ns
      obtain ⟨v, hv, ⟨q, _⟩ | ⟨_, k', hk', oc, hoc, hdc⟩⟩ := hbm x0 avc hlk
      · exfalso
        have q' : fd.scope.names.lookup x0 = some .local := q
        rw [hx0] at q'; cases q'
      · have hkk : (callEnvC fd s1.heap.objs.size a).cells.lookup x0 = some k' := hk'
        rw [hk] at hkk; cases hkk
        have hown : k ∈ (Cx.mk d (callEnvC fd s1.heap.objs.size a) true (names.zip as)).own := Cx.ownC rfl hk
        have hown3 : k ∈ (Cx.at ⟨d, callEnvC fd s1.heap.objs.size a, true, names.zip as⟩ L3).own := hown
        have hg3 : G3 k = none := (R3.own1 k hown3).1
        have hks : s.heap.objs.size ≤ k := Nat.le_trans st1.size (hfr k hown)
        have hloose : Loose c G3 [k] := fun b hb => by
          have e := List.mem_singleton.mp hb
          subst e
          exact ⟨hg3, fun w => absurd (R.own1 _ c.own0).2 (by rw [← w]; exact Nat.not_lt.mpr hks), fun y w => absurd (R.cell_lt w) (Nat.not_lt.mpr hks)⟩
        have R4 := Rb.valAt hloose hoc (av := .cell avc) ⟨v, hv, hdc⟩
        have R5 := R4.relab hls (Gput_self ..)
        exact ⟨_, _, _, st.late hks hg3, R5, v3.mono (Gput_grow hg3), hQ⟩

/-- into the frame of a lambda -/
theorem Rel.enterX {env : Env} {binds : List (Str × Value)} {bs : Lc} {cl : List (Str × AV)} {e : Nat} {hp1 : Heap} {o0 : Obj} (R : Rel K c h G s.heap) (hloc : env.locals = s.heap.objs.size) (hns : hp1.Ns s.heap.objs.size (fun x => binds.reverse.lookup x)) (hsb : Heap.SameBut s.heap.objs.size (s.heap.push o0) hp1)
    (hb1 : binds.map (·.1) = bs.map (·.1)) (hb2 : VRs G (binds.map (·.2)) (bs.map (·.2))) (hb3 : (bs.map (·.1)).Nodup) (hk : env.scope.kind = .function) (hg : env.globals = mainGlobals ∧ env.builtins = builtinsNs)
    (hkind : ∀ y ∈ bs, env.kindOf y.1 = some .local) (hfree : ∀ y ∈ cl, env.kindOf y.1 = some .free) (hcl : CellsG G env.cells cl) (hall : ∀ x k, env.cells.lookup x = some k → ∃ av, cl.lookup x = some av) (hone : env.cells.length ≤ 1) :
    Rel K ⟨e, env, false, bs ++ cl⟩ h G hp1 ∧ (∀ b o, s.heap.get? b = some o → hp1.get? b = some o) ∧ s.heap.objs.size ≤ hp1.objs.size := by
  have hk1 : ∀ b o, s.heap.get? b = some o → hp1.get? b = some o := fun b o e => hsb.extBut b o (Nat.ne_of_lt (Heap.lt_size e)) (Heap.get?_push_of_some _ e)
  have hsz : s.heap.objs.size ≤ hp1.objs.size := by rw [hsb.1, Heap.size_push]; exact Nat.le_succ _
  have R' := R.keep hk1 hsz
  have hlt : s.heap.objs.size < hp1.objs.size := by rw [hsb.1, Heap.size_push]; exact Nat.lt_succ_self _
  have cellOf : ∀ x k, env.cells.lookup x = some k → ∃ av o v, cl.lookup x = some av ∧ G k = some (.val (.cell av)) ∧ hp1.get? k = some o ∧ o.data = .cell (some v) ∧ VR G v av := fun x k e => by
    obtain ⟨av, e1⟩ := hall x k e
    obtain ⟨k', e2, e3⟩ := hcl x av e1
    rw [e] at e2; cases e2
    obtain ⟨o, ho, v, hv, hd⟩ := R'.cells _ _ e3
    exact ⟨av, o, v, e1, e3, ho, hd, hv⟩
  refine ⟨⟨R'.cells, R.bound, R.inj, R.live, R.base, R.tabs, hk, hg, ⟨_, by rw [hloc]; exact hns, fun y av e => ?_⟩, fun a ha => ?_, fun y k e => ?_, ?_⟩, hk1, hsz⟩
  · have e' : (bs ++ cl).lookup y = some av := e
    rw [List.lookup_append] at e'
    cases hby : bs.lookup y with
    | some av' =>
      rw [hby] at e'; cases e'
      obtain ⟨v, hv, h1, _⟩ := bind_has (kindOf := env.kindOf) (m := fun _ => Option.none) (cm := fun _ => Option.none) hb1 hb2 hb3 hby
      have hl := hkind _ (mem_of_lookup hby)
      refine ⟨v, hv, .inl ⟨hl, ?_⟩⟩
      have hnd : (binds.map (·.1)).Nodup := by rw [hb1]; exact hb3
      have hmem : binds.lookup y = some v := by
        have h2 := h1 hl
        clear h1 hns
        have : ∀ (bb : List (Str × Value)) (m : Str → Option Value), (∀ z ∈ bb, env.kindOf z.1 = some .local) → (bb.map (·.1)).Nodup → y ∈ bb.map (·.1) → bindL env.kindOf bb m y = bb.lookup y := by
          intro bb
          induction bb with
          | nil => intro m _ _ hy; simp at hy
          | cons p r ih =>
            intro m hall hnd hy
            obtain ⟨n, u⟩ := p
            simp only [List.map_cons, List.nodup_cons] at hnd
            have hn := hall (n, u) (List.mem_cons_self ..)
            unfold bindL
            rw [if_pos hn]
            by_cases q : y = n
            · subst q
              rw [bindL_of hnd.1]; simp
            · have q' : (y == n) = false := by simpa using q
              simp only [List.lookup_cons, q']
              exact ih _ (fun z hz => hall z (List.mem_cons_of_mem _ hz)) hnd.2 (by
                simp only [List.map_cons, List.mem_cons] at hy
                exact hy.resolve_left q)
        have hy : y ∈ binds.map (·.1) := by rw [hb1]; exact List.mem_map.mpr ⟨(y, av), mem_of_lookup hby, rfl⟩
        rw [this binds _ (fun z hz => by
          have : z.1 ∈ bs.map (·.1) := by rw [← hb1]; exact List.mem_map_of_mem hz
          obtain ⟨z', hz', e2⟩ := List.mem_map.mp this
          rw [← e2]; exact hkind z' hz') hnd hy] at h2
        exact h2
      exact (lookup_reverse_of_nodup _ hnd y).trans hmem
    | none =>
      rw [hby] at e'
      have e'' : cl.lookup y = some av := by simpa using e'
      obtain ⟨k, e1, e2⟩ := hcl y av e''
      obtain ⟨o, ho, v, hv, hd⟩ := R'.cells _ _ e2
      exact ⟨v, hv, .inr ⟨.inr (hfree _ (mem_of_lookup e'')), k, e1, o, ho, hd⟩⟩
  · have : a = s.heap.objs.size := by
      rcases List.mem_cons.mp ha with q | q
      · exact q.trans hloc
      · simp at q
    subst this
    exact ⟨R.none_of_ge (Nat.le_refl _), hlt⟩
  · obtain ⟨av, o, v, e1, e2, e3, e4, e5⟩ := cellOf y k e
    refine ⟨fun q => ?_, .inr ⟨av, e2⟩, _, o, e3, e4⟩
    have q' : k = s.heap.objs.size := q.trans hloc
    have := R.lt e2
    rw [q'] at this; exact Nat.lt_irrefl _ this
  · show env.cells.Pairwise _
    match env.cells, hone with
    | [], _ => exact .nil
    | [_], _ => exact List.pairwise_singleton _ _

theorem CaC.lam {l : Nat} {fd : FuncData} {cl : List (Str × AV)} {body : Expr} {as : List AV} {names : List Str} (hl : h l = some (.lam fd cl)) (hbody : fd.body = .expr body) (hgl : fd.globals = mainGlobals ∧ fd.builtins = builtinsNs) (hco : fd.scope.isCoroutine = false) (hgen : fd.scope.isGenerator = false) (hk : fd.scope.kind = .function)
    (hcell : ∀ x ∈ fd.scope.names, x.2 ≠ .cell) (hlen : names.length = as.length) (hb : ∀ us : List Value, us.length = names.length → bindArgs fd ⟨us, []⟩ = pure (names.zip us)) (hnd : names.Nodup) (hkind : ∀ n ∈ names, fd.scope.names.lookup n = some .local)
    (hfree : ∀ y ∈ cl, fd.scope.names.lookup y.1 = some .free) (hall : ∀ x k, fd.closure.lookup x = some k → ∃ av, cl.lookup x = some av) (hone : fd.closure.length ≤ 1)
    (x : ∀ L a : Addr, Ev K ⟨d, lamEnv fd L a, false, names.zip as ++ cl⟩ body h Q) : CaC K (d + 1) (.obj l) as [] h Q := fun c A G s fv us ks hA R hf hu hks => by
  obtain ⟨a, o, hg, ho, ho', hcode, hcells⟩ := R.objAt hf hl
  obtain ⟨cc, co, vs, t, e1, e2, e3, e4⟩ := hcode
  obtain ⟨oc, hoc, hs⟩ := R.cells _ _ e2
  cases hs
  have hdata : o.data = .func fd := by rw [ho']
  refine kla_callFunE hA.room ho hdata hco hgen hbody ⟨cc, co, vs, t, e1, hoc, e3, e4⟩ ?_
  have hkz : (([] : List (Str × AV)).map (·.1)).zip ks = [] := rfl
  have hul : us.length = names.length := by rw [hu.length, hlen]
  show wpAny _ _ (bindArgs fd ⟨us, []⟩) _ _ _
  rw [hb us hul]
  refine wpAny_pure (wpAny_newFunctionEnv hcell (fun y hy => ?_) (fun h1 hns hsb => ?_) hk)
  · exact hkind _ (List.of_mem_zip hy).1
  have hz1 : (names.zip us).map (·.1) = names := by rw [List.map_fst_zip (by omega)]
  have hz2 : (names.zip us).map (·.2) = us := by rw [List.map_snd_zip (by omega)]
  have hz3 : (names.zip as).map (·.1) = names := by rw [List.map_fst_zip (by omega)]
  have hz4 : (names.zip as).map (·.2) = as := by rw [List.map_snd_zip (by omega)]
  obtain ⟨R2, hk1, hsz⟩ := Rel.enterX (e := d) (env := lamEnv fd s.heap.objs.size a) (binds := names.zip us) (bs := names.zip as) (cl := cl) R rfl hns hsb (by rw [hz1, hz3]) (by rw [hz2, hz4]; exact hu) (by rw [hz3]; exact hnd) hk hgl
    (fun y hy => hkind _ (List.of_mem_zip hy).1) hfree hcells hall hone
  refine ⟨R2.noLimit, kla_codeExpr ?_⟩
  refine wpAny_mono (x s.heap.objs.size a (A.deeper (lamEnv fd s.heap.objs.size a)) G { s with heap := h1, toks := s.toks + (names.zip us).length } hA.deeper R2) (fun v s3 p => ?_) fun _ _ z => z.elim
  obtain ⟨G3, av, h3, x3, R3, v3, q3⟩ := p
  have st1 : Stp [] G G s { s with heap := h1, toks := s.toks + (names.zip us).length } := Stp.heap hk1 hsz
  have st : Stp [] G G3 s s3 := Stp.frame st1 x3 fun b hb => by
    rcases List.mem_cons.mp hb with q | q
    · rw [q]; exact Nat.le_refl _
    · simp at q
  exact ⟨G3, av, h3, st, R.back R3 st, v3, q3⟩
theorem Kp.lam {l : Nat} {fd : FuncData} {cl : List (Str × AV)} (hl : h l = some (.lam fd cl)) : Kp K (.obj l) h := fun c A G s fv P R hf hP => by
  obtain ⟨a, o, hg, ho, ho', _⟩ := R.objAt hf hl
  exact keeper_func (fd := fd) ho (by rw [ho']) hP
end
end Mine
end

section
open PySem PySem.W PySem.Calls PyProof.Rows
namespace Mine

section
variable {K : Bse} {c : Cx} {h : Hp} {G G' : Gh} {s s' s'' : Shared} {A : Around} {Q : AV → Hp → Prop} {d : Nat}

/-- a lambda's object gets its first attribute -/
theorem Rel.asFunc {hp : Heap} {l : Nat} {fd : FuncData} {cl : List (Str × AV)} (R : Rel K c h G hp) (e : h l = some (.lam fd cl)) : Rel K c (h.put l (.func fd none)) G hp := by
  obtain ⟨a, hg⟩ := R.live l _ e
  obtain ⟨o, ho, ho', _⟩ := R.locObj hg e
  exact R.updX hg (fun _ _ _ e => e) (Nat.le_refl _) ho (ao := .func fd none) (by rw [ho']; exact ⟨rfl, rfl, rfl, rfl⟩)
theorem SetA.lam0 {l : Nat} {fd : FuncData} {cl : List (Str × AV)} {name : Str} {b : AV} {Q} (h1 : h l = some (.lam fd cl)) (hn : fnPlain name) (hQ : ∀ dl, h dl = none → Q ((h.put dl (.attrs [(name, b)])).put l (.func fd (some dl)))) : SetA K c name (.obj l) b h Q := fun A G s u v hA R hu hv => by
  refine SetA.func0 (h := h.put l (.func fd none)) (Hp.put_self ..) hn (fun dl hdl => ?_) A G s u v hA (R.asFunc h1) hu hv
  have hne : dl ≠ l := fun q => by rw [q, Hp.put_self] at hdl; cases hdl
  rw [Hp.put_ne _ _ hne] at hdl
  have e : (((h.put l (.func fd none)).put dl (.attrs [(name, b)])).put l (.func fd (some dl))) = (h.put dl (.attrs [(name, b)])).put l (.func fd (some dl)) := by
    funext k
    simp only [Hp.put]
    split
    · rfl
    · split
      · rfl
      · rfl
  rw [e]; exact hQ dl hdl

/-- two objects change; the first keeps its state -/
theorem Rel.upd2 {hp hp' : Heap} (R : Rel K c h G hp) {a b : Addr} {l l' : Nat} (ha : G a = some (.loc l)) (hb : G b = some (.loc l')) (hab : a ≠ b) (hk : ∀ e o, e ≠ b → e ≠ a → hp.get? e = some o → hp'.get? e = some o) (hsz : hp.objs.size ≤ hp'.objs.size)
    {o : Obj} (ho : hp'.get? a = some o) {ao0 : AObj} (hv0 : OL K G o ao0) (h0 : h l = some ao0) {o' : Obj} (ho' : hp'.get? b = some o') {ao : AObj} (hv : OL K G o' ao) : Rel K c (h.put l' ao) G hp' where
  cells e g eg := by
    by_cases q : e = b
    · subst q; rw [hb] at eg; cases eg
      refine ⟨o', ho', ?_⟩
      show match (h.put l' ao) l' with | none => True | some ao => OL K _ o' ao
      rw [Hp.put_self]; exact hv
    · by_cases q' : e = a
      · subst q'; rw [ha] at eg; cases eg
        have hll : l ≠ l' := fun w => hab (R.inj e b l ha (w ▸ hb))
        refine ⟨o, ho, ?_⟩
        show match (h.put l' ao) l with | none => True | some ao => OL K _ o ao
        rw [Hp.put_ne _ _ hll, h0]; exact hv0
      · obtain ⟨oe, hoe, x⟩ := R.cells e g eg
        refine ⟨oe, hk e oe q q' hoe, ?_⟩
        cases g with
        | base _ => exact x
        | val _ => exact x
        | loc le =>
          have : le ≠ l' := fun w => q (R.inj e b l' (w ▸ eg) hb)
          simp only [Sat] at x ⊢
          rw [Hp.put_ne _ _ this]; exact x
  bound := R.bound
  inj := R.inj
  live le oe e := by
    by_cases q : le = l'
    · subst q; exact ⟨b, hb⟩
    · rw [Hp.put_ne _ _ q] at e; exact R.live le oe e
  base := R.base
  tabs := R.tabs
  kind := R.kind
  glob := R.glob
  ns := by
    obtain ⟨m, hn, hbn⟩ := R.ns
    have hl0 := (R.own1 _ c.own0).1
    refine ⟨m, hn.at' fun o e => hk _ o (fun q => by rw [q, hb] at hl0; cases hl0) (fun q => by rw [q, ha] at hl0; cases hl0) e, fun x av e => ?_⟩
    obtain ⟨v, hv, h1 | ⟨h2, k, hk', oc, hoc, hdc⟩⟩ := hbn x av e
    · exact ⟨v, hv, .inl h1⟩
    · exact ⟨v, hv, .inr ⟨h2, k, hk', oc, hk _ oc ((R.cell x k hk').2.1.noLoc hb) ((R.cell x k hk').2.1.noLoc ha) hoc, hdc⟩⟩
  own1 e he := ⟨(R.own1 e he).1, Nat.lt_of_lt_of_le (R.own1 e he).2 hsz⟩
  cell x k e := let ⟨p, q, w, oc, hoc, hdc⟩ := R.cell x k e; ⟨p, q, w, oc, hk _ oc (q.noLoc hb) (q.noLoc ha) hoc, hdc⟩
  cellInj := R.cellInj

/-! the class -/
inductive ObjC (K : Bse) (C N : Addr) (nm q : Str) : Prop
  | mk (bs sn sub ab col dd k0 k1 k2 k3 k5 newId) (e : K.B C = some (excClassObj nm q C N bs [.type "object"] true sn sub ab col dd k0 k1 k2 k3 k5 newId))
theorem ObjC.some {K : Bse} {C N : Addr} {nm q : Str} : ObjC K C N nm q → ∃ o, K.B C = some o
  | .mk _ _ _ _ _ _ _ _ _ _ _ _ e => ⟨_, e⟩
structure ClsOk (K : Bse) (F : Frag) (C N fI : Addr) (nm q : Str) : Prop where
  sub : ∀ a o, F.lookup a = some o → K.B a = some o
  makes : makesIn F C = true
  init : findIn F (.ref C) "__init__" = some (some (.ref fI))
  initT : typeIn F (.ref fI) = some (.type "function")
  obj : ObjC K C N nm q
  ns : ∃ o xs ep, K.B N = some o ∧ o.data = .dict xs ep ∧ StrKeys xs ∧ nsFind xs "__getattribute__" = none ∧ nsFind xs "__getattr__" = none ∧ nsFind xs "__setattr__" = none
inductive ClsNo (K : Bse) (N : Addr) (name : Str) : Prop
  | mk (o xs ep) (e : K.B N = some o) (d : o.data = .dict xs ep) (k : StrKeys xs) (n : nsFind xs name = none)
inductive ClsFn (K : Bse) (N : Addr) (name : Str) (f : Addr) : Prop
  | mk (o xs ep) (e : K.B N = some o) (d : o.data = .dict xs ep) (k : StrKeys xs) (n : nsFind xs name = some (.ref f)) (of) (g : K.B f = some of) (c : of.cls = .type "function")
noncomputable def objPlain (name : Str) : Prop := typeLookup (.type "object") name = pure none

theorem Rel.fragIn {F : Frag} (R : Rel K c h G s.heap) (hF : ∀ a o, F.lookup a = some o → K.B a = some o) : F.In s.heap := fun a o e => R.baseAt (hF a o e)

theorem Attr.cls {F : Frag} {C : Addr} {name : Str} {v : Value} {av : AV} {mc : Value} (hF : ∀ a o, F.lookup a = some o → K.B a = some o) (hr : readsIn F C mc = true) (e : findCls F (.ref C) mc name = some (.val v)) (hh : handedIn v = true) (hv : ∀ G, VR G v av) (hQ : Q av h) :
    Attr K c name (.raw (.ref C)) h Q := fun A G s u ex hA R hu => by
  cases hu
  exact cls_value (R.fragIn hF) hr e hh (PostE.now R (hv G) hQ)

theorem tc_weight (C : Addr) (us : List Value) (kw) : (Code.builtin "type.__call__" ⟨.ref C :: us, kw⟩).weight = 1 := by
  have hf : (Code.builtin "type.__call__" ⟨.ref C :: us, kw⟩).frames = 0 := by rfl
  have hg : (Code.builtin "type.__call__" ⟨.ref C :: us, kw⟩).isGuard = false := by show guardIds.contains "type.__call__" = false; decide +kernel
  have hk : (Code.builtin "type.__call__" ⟨.ref C :: us, kw⟩).isCaller = false := by rfl
  have hc : (Code.builtin "type.__call__" ⟨.ref C :: us, kw⟩).isCreation = true := by rfl
  simp [Code.weight, hf, hg, hk, hc]
theorem tc_units (C : Addr) (us : List Value) (kw) : (Code.builtin "type.__call__" ⟨.ref C :: us, kw⟩).cUnits = 1 := by
  have hf : (Code.builtin "type.__call__" ⟨.ref C :: us, kw⟩).frames = 0 := by rfl
  show 1 + 3 * _ = 1
  rw [hf]
theorem OkA.under {d : Nat} {A : Around} {C : Addr} {us : List Value} {kw} (h : OkA (d + 1) A) : OkA d (A.under (.builtin "type.__call__" ⟨.ref C :: us, kw⟩)) := by
  refine ⟨h.1, ?_, ?_⟩
  · show A.depth + _ + d < _
    rw [tc_weight]; have := h.2.1; omega
  · show A.units + _ + 16 * d + 16 ≤ _
    rw [tc_units]; have := h.2.2; omega

theorem Ca.cls {F : Frag} {C N fI : Addr} {nm q : Str} {as : List AV} (X : ClsOk K F C N fI nm q)
    (x : ∀ l ld, h ld = none → (h.put ld (.attrs [])) l = none → CaC K d (.raw (.ref fI)) (.obj l :: as) [] ((h.put ld (.attrs [])).put l (.inst C ld)) fun v h' => v = .none ∧ Q (.obj l) h') : Ca K (d + 1) (.raw (.ref C)) as [] h Q := fun c A G s fv us ks hA R hf hu hks => by
  cases hf
  refine wpAny_call ?_
  have FI := R.fragIn X.sub
  obtain ⟨hp, g, dr, t, os⟩ := s
  show codeAny _ _ (.call (.ref C) ⟨us, []⟩) _ _
  refine make_core (makes_of FI X.makes) (looks_findIn FI X.init) (fun self => bind_fn FI self X.initT) (.inl rfl) ?_
  have hk1 : ∀ b o, hp.get? b = some o → (hp.push emptyDict).get? b = some o := fun b o e => Heap.get?_push_of_some _ e
  have hsz1 : hp.objs.size ≤ (hp.push emptyDict).objs.size := by rw [Heap.size_push]; exact Nat.le_succ _
  have R0 : Rel K c h G hp := R
  obtain ⟨ld, hld, R1⟩ := R0.loc hk1 hsz1 (Nat.le_refl _) (Heap.get?_push_size _ rfl) (ao := .attrs []) ⟨#[], 0, rfl, fun e he => absurd he (by simp), (by unfold UniqKeys; simp), fun x => rfl⟩
  have hn1 : G hp.objs.size = none := R0.none_of_ge (Nat.le_refl _)
  have st1 : Stp [] G (Gput G hp.objs.size (.loc ld)) ⟨hp, g, dr, t, os⟩ ⟨hp.push emptyDict, g, dr, t, os⟩ := Stp.put (s := ⟨hp, g, dr, t, os⟩) hn1 (Nat.le_refl _) hk1 hsz1
  have hk2 : ∀ b o, (hp.push emptyDict).get? b = some o → ((hp.push emptyDict).push (instObj C hp.objs.size)).get? b = some o := fun b o e => Heap.get?_push_of_some _ e
  have hsz2 : (hp.push emptyDict).objs.size ≤ ((hp.push emptyDict).push (instObj C hp.objs.size)).objs.size := by rw [Heap.size_push (hp.push emptyDict)]; exact Nat.le_succ _
  obtain ⟨l, hl, R2⟩ := R1.loc hk2 hsz2 (Nat.le_refl _) (Heap.get?_push_size _ rfl) (ao := .inst C ld) ⟨rfl, (fun q e => nomatch e), hp.objs.size, rfl, Gput_self ..⟩
  have hn2 : (Gput G hp.objs.size (.loc ld)) (hp.push emptyDict).objs.size = none := R1.none_of_ge (Nat.le_refl _)
  have st2 := st1.trans (Stp.put (own := []) (g := .loc l) (t := t) (s := ⟨hp.push emptyDict, g, dr, t, os⟩) hn2 (Nat.le_refl _) hk2 hsz2)
  have hadr : (hp.push emptyDict).objs.size = hp.objs.size + 1 := Heap.size_push ..
  have gr : Grow G (Gput (Gput G hp.objs.size (.loc ld)) (hp.push emptyDict).objs.size (.loc l)) := (Gput_grow hn1).trans (Gput_grow hn2)
  have hself : VR (Gput (Gput G hp.objs.size (.loc ld)) (hp.push emptyDict).objs.size (.loc l)) (.ref (hp.objs.size + 1)) (.obj l) := ⟨_, rfl, by rw [← hadr]; exact Gput_self ..⟩
  refine codeAny_mono (x l ld hld hl c _ _ ⟨(hp.push emptyDict).push (instObj C hp.objs.size), g, dr, t, os⟩ (.ref fI) (.ref (hp.objs.size + 1) :: us) [] ?_ R2 rfl ⟨hself, hu.mono gr⟩ trivial) fun r s3 p => ?_
  · exact hA.under
  · match r, p with
    | .ok (.ret v), ⟨G3, av, h3, st3, R3, v3, e3, q3⟩ =>
      subst e3
      cases v3
      exact ⟨rfl, G3, _, h3, st2.trans st3, R3, hself.mono st3.grow, q3⟩

/-- an instance with its attributes -/
noncomputable def InstA (h : Hp) (C : Addr) (l : Nat) (es : List (Str × AV)) : Prop := ∃ ld, h l = some (.inst C ld) ∧ (h ld = some (.attrs es) ∨ h ld = some (.iattrs es))

inductive InstR (h : Hp) (G : Gh) (hp : Heap) (C : Addr) (l : Nat) (es : List (Str × AV)) : Value → Prop
  | mk (a o dx m) (hg : G a = some (.loc l)) (ho : hp.get? a = some o) (c3 : o.dict = some dx) (haC : a ≠ C) (hne : dx ≠ a) (I : hp.Inst a C m) (hm : ∀ y, match es.lookup y with | some av => ∃ v, m y = some v ∧ VR G v av | none => m y = none) (hw : Within m (es.map (·.1))) (ld) (h1 : h l = some (.inst C ld)) (c4 : G dx = some (.loc ld)) : InstR h G hp C l es (.ref a)
theorem Rel.instAt {C : Addr} {l : Nat} {es : List (Str × AV)} {v : Value} {hp : Heap} (R : Rel K c h G hp) (hv : VR G v (.obj l)) (hi : InstA h C l es) (hCB : ∃ o, K.B C = some o) : InstR h G hp C l es v := by
  obtain ⟨ld, h1, h2⟩ := hi
  obtain ⟨a, o, hg, ho, c1, c2, dx, c3, c4⟩ := R.objAt hv h1
  obtain ⟨od, hod, hat⟩ : ∃ od, hp.get? dx = some od ∧ AttrsO G od es := by
    rcases h2 with h2 | h2
    · exact R.locObj c4 h2
    · exact R.locObj c4 h2
  obtain ⟨m, n1, n2, n3⟩ := AttrsO.ns1 hod hat
  have hne : dx ≠ a := fun q => by
    rw [q, hg] at c4
    cases c4
    rcases h2 with h2 | h2 <;> (rw [h1] at h2; cases h2)
  obtain ⟨oC, hoC⟩ := hCB
  have haC : a ≠ C := fun q => by have := R.base _ _ hoC; rw [← q, hg] at this; cases this
  exact .mk a o dx m hg ho c3 haC hne ⟨o, ho, c1, c2, .inr ⟨dx, c3, hne, n1⟩⟩ n2 n3 ld h1 c4

inductive ClsR (K : Bse) (hp : Heap) (C N : Addr) (nm q : Str) : Prop
  | mk (bs sn sub ab col dd k0 k1 k2 k3 k5 newId mN) (hC : hp.get? C = some (excClassObj nm q C N bs [.type "object"] true sn sub ab col dd k0 k1 k2 k3 k5 newId)) (hN : hp.Ns N mN) (n1 : mN "__getattribute__" = none) (n2 : mN "__getattr__" = none) (n3 : mN "__setattr__" = none)
    (n4 : ∀ name, ClsNo K N name → mN name = none) (n5 : ∀ name f, ClsFn K N name f → mN name = some (.ref f) ∧ ∃ of, hp.get? f = some of ∧ of.cls = .type "function")
theorem Rel.clsAt {F : Frag} {C N fI : Addr} {nm q : Str} (R : Rel K c h G s.heap) (X : ClsOk K F C N fI nm q) : ClsR K s.heap C N nm q := by
  obtain ⟨bs, sn, sub, ab, col, dd, k0, k1, k2, k3, k5, newId, hC⟩ := X.obj
  obtain ⟨o, xs, ep, hN, hd, hk, n1, n2, n3⟩ := X.ns
  refine ⟨bs, sn, sub, ab, col, dd, k0, k1, k2, k3, k5, newId, nsFind xs, R.baseAt hC, ⟨o, xs, ep, R.baseAt hN, hd, hk, fun _ => rfl⟩, n1, n2, n3, fun name hno => ?_, fun name f hf => ?_⟩
  · obtain ⟨o', xs', ep', hN', hd', hk', n⟩ := hno
    rw [hN] at hN'; cases hN'
    rw [hd] at hd'; cases hd'
    exact n
  · obtain ⟨o', xs', ep', hN', hd', hk', n, of, hof, hoc⟩ := hf
    rw [hN] at hN'; cases hN'
    rw [hd] at hd'; cases hd'
    exact ⟨n, of, R.baseAt hof, hoc⟩

theorem Attr.inst {F : Frag} {C N fI : Addr} {nm q : Str} {l : Nat} {es : List (Str × AV)} {name : Str} {av : AV} (X : ClsOk K F C N fI nm q) (hi : InstA h C l es) (hno : ClsNo K N name) (hB : objPlain name) (he : es.lookup name = some av) (hh : handed av = true) (hQ : Q av h) :
    Attr K c name (.obj l) h Q := fun A G s u ex hA R hu => by
  obtain ⟨bs, sn, sub, ab, col, dd, k0, k1, k2, k3, k5, newId, mN, hC, hN, n1, n2, n3, n4, n5⟩ := R.clsAt X
  obtain ⟨a, o, dx, m, hg, ho, c3, haC, hne, I, hm, hw, ld, h1, c4⟩ := R.instAt hu hi X.obj.some
  have := hm name
  rw [he] at this
  obtain ⟨w, w1, w2⟩ := this
  obtain ⟨hp, g, dr, t, os⟩ := s
  exact load_attr hC hN n1 (n4 name hno) hB I w1 (handed_of w2 hh) (PostE.now (s := ⟨hp, g, dr, t, os⟩) R w2 hQ)
theorem Meth.inst {F : Frag} {C N fI f : Addr} {nm q : Str} {l : Nat} {es : List (Str × AV)} {name : Str} {Q : AV → List AV → Hp → Prop} (X : ClsOk K F C N fI nm q) (hi : InstA h C l es) (hf : ClsFn K N name f) (hB : objPlain name) (he : es.lookup name = none) (hQ : Q (.raw (.ref f)) [.obj l] h) :
    Meth K c name (.obj l) h Q := fun A G s u pl hA R hu => by
  obtain ⟨bs, sn, sub, ab, col, dd, k0, k1, k2, k3, k5, newId, mN, hC, hN, n1, n2, n3, n4, n5⟩ := R.clsAt X
  obtain ⟨a, o, dx, m, hg, ho, c3, haC, hne, I, hm, hw, ld, h1, c4⟩ := R.instAt hu hi X.obj.some
  have := hm name
  rw [he] at this
  obtain ⟨m1, of, hof, hoc⟩ := n5 name f hf
  obtain ⟨hp, g, dr, t, os⟩ := s
  exact method_of hC hN n1 n2 m1 hof hoc hB I this ⟨G, .raw (.ref f), [.obj l], h, Stp.refl _ _ _, R, rfl, ⟨⟨a, rfl, hg⟩, trivial⟩, hQ⟩
theorem SetA.inst {F : Frag} {C N fI : Addr} {nm q : Str} {l ld : Nat} {es : List (Str × AV)} {name : Str} {b : AV} {Q : Hp → Prop} (X : ClsOk K F C N fI nm q) (h1 : h l = some (.inst C ld)) (h2 : h ld = some (.attrs es)) (hsz : es.length ≤ 1000) (hno : ClsNo K N name) (hB : objPlain name) (hQ : Q (h.put ld (.attrs (setL es name b)))) :
    SetA K c name (.obj l) b h Q := fun A G s u v hA R hu hv => by
  obtain ⟨bs, sn, sub, ab, col, dd, k0, k1, k2, k3, k5, newId, mN, hC, hN, n1, n2, n3, n4, n5⟩ := R.clsAt X
  obtain ⟨a, o, dx, m, hg, ho, c3, haC, hne, I, hm, hw, ld', h1', c4⟩ := R.instAt hu ⟨ld, h1, .inl h2⟩ X.obj.some
  rw [h1] at h1'; cases h1'
  obtain ⟨hp, g, dr, t, os⟩ := s
  refine wpAny_sz (store_attr (ns := es.map (·.1)) PySem.F.store_object hC hN n3 (n4 name hno) hB haC I (fun h' tk' I' hk hx hszH => ?_) hw (by rw [List.length_map, sizeLine_eq]; omega))
  have hog : hp.get? a = some o := ho
  obtain ⟨o1, ho1, d1, d2, d3, d4⟩ := hx o hog
  have hdx1 := d4 dx c3
  have hkB : ∀ b o', b ≠ dx → b ≠ a → hp.get? b = some o' → h'.get? b = some o' := fun b o' hb hba e => hk b o' hba (fun o0 dx0 e0 e1 => by rw [hog] at e0; cases e0; rw [c3] at e1; cases e1; exact hb) e
  have hsz' : hp.objs.size ≤ h'.objs.size := hszH
  have hgd : G dx = some (.loc ld) := c4
  have R0 : Rel K c h G hp := R
  obtain ⟨o', ho', c1', c2', hd'⟩ := I'
  rw [ho1] at ho'; cases ho'
  rcases hd' with ⟨e, _⟩ | ⟨dx', e, hne', hm'⟩
  · rw [hdx1] at e; cases e
  rw [hdx1] at e; cases e
  obtain ⟨od, hod, hat⟩ := AttrsO.of (G := G) hm' (attrs_set hv hm)
  have hnl : ld ≠ l := fun q => by rw [q, h1] at h2; cases h2
  have hrel : Rel K c (h.put ld (.attrs (setL es name b))) G h' := by
    -- two objects change: the instance itself and its dictionary
    have hk1 : ∀ b o', b ≠ a → (hp.get? b = some o' → b ≠ dx → h'.get? b = some o') := fun b o' hb e hbd => hkB b o' hbd hb e
    exact R0.upd2 hg hgd (fun q => hne q.symm) hkB hsz' ho1 (show OL K G o1 (.inst C ld) from ⟨c1', c2', dx, hdx1, hgd⟩) h1 hod (ao := .attrs (setL es name b)) hat
  refine ⟨G, _, ⟨Grow.refl _, fun _ e _ => e, hsz', fun b ob hb _ e => hkB b ob (fun q => by rw [q, hgd] at hb; cases hb) (fun q => by rw [q, hg] at hb; cases hb) e, fun b av ob hb e => hkB b ob (fun q => by rw [q, hgd] at hb; cases hb) (fun q => by rw [q, hg] at hb; cases hb) e, rfl, rfl⟩, hrel, hQ⟩
end
end Mine
end

section
open PySem PySem.W PySem.Calls PyProof.Rows
namespace Mine

section
variable {prog : Program} {w : World} {A : Around} {E : Value → Shared → Prop} {s : Shared}

theorem nextOf_range {it : Addr} {x left step : Int} {Q : Value → Shared → Prop} (hit : IsRangeIter s.heap it x left step) (hleft : 0 < left)
    (hQ : ∀ h', IsRangeIter h' it (x + step) (left - 1) step → Heap.SameBut it s.heap h' → Q (.int x s.toks) { s with heap := h', toks := s.toks + 1 }) : wpAny (model prog w) A (Builtin.SmallTypes.nextOf (.ref it)) Q E s := by
  have hT : s.TypeIs (.ref it) "range_iterator" := ⟨_, hit, rfl⟩
  unfold Builtin.SmallTypes.nextOf
  refine wpAny_bind (wpAny_callSpecial?_slot (name := Str.ofString "__next__") hT PySem.F.slot_range_iterator_next
    (call_meets PySem.F.slot_range_iterator_next hT PySem.F.entry_range_iterator_next (PySem.F.args_range_iterator_next_1 _) (AutoRange.range_iterator___next___range_iterator_1 it x left step (by omega)) ⟨hit, ?_⟩))
  exact wpAny_pure (hQ _ (Heap.get?_update_self _ (Heap.get?_update_self _ hit rfl) rfl) ((Heap.SameBut.update ..).trans (Heap.SameBut.update ..)))

theorem nextOf_range_end {it : Addr} {x left step : Int} {Q : Value → Shared → Prop} (hh : A.handled = none) (hit : IsRangeIter s.heap it x left step) (hleft : left ≤ 0)
    (hE : ∀ h' e, Heap.ExtBut it s.heap h' → (∃ o, h'.get? e = some o ∧ o.cls = .type "StopIteration") → E (.ref e) { s with heap := h' }) : wpAny (model prog w) A (Builtin.SmallTypes.nextOf (.ref it)) Q E s := by
  have hT : s.TypeIs (.ref it) "range_iterator" := ⟨_, hit, rfl⟩
  unfold Builtin.SmallTypes.nextOf
  refine wpAny_bind (wpAny_callSpecial?_slot (name := Str.ofString "__next__") hT PySem.F.slot_range_iterator_next
    (wpAny_call_entry PySem.F.slot_range_iterator_next hT PySem.F.entry_range_iterator_next ?_ (PySem.F.args_range_iterator_next_1 _)))
  show wpAny _ _ (field (.ref it) 0 >>= _) _ _ s
  refine wpAny_bind (wpAny_field hit rfl (x := rawInt x) rfl ?_)
  show wpAny _ _ (field (.ref it) 1 >>= _) _ _ s
  refine wpAny_bind (wpAny_field hit rfl (x := rawInt left) rfl ?_)
  show wpAny _ _ (field (.ref it) 2 >>= _) _ _ s
  refine wpAny_bind (wpAny_field hit rfl (x := rawInt step) rfl ?_)
  show wpAny _ _ (if left ≤ 0 then _ else _) _ _ s
  rw [if_pos hleft]
  refine wpAny_bind (wpAny_rule (wpAny_bind ?_))
  show wpAny _ _ (newExc (.type "StopIteration") [] >>= _) _ _ _
  refine wpAny_bind ?_
  simp only [newExc, newTuple]
  refine wpAny_bind (wpAny_newObj_type ?_ (by size_fits))
  refine wpAny_bind (m := firstArgMember _ _) (wpAny_of_eq (a := Value.none) (by first | rfl | (simp only [firstArgMember]; rfl)) ?_)
  refine wpAny_newObj_type ?_ (by size_fits)
  simp only [raiseNew]
  refine wpAny_bind (wpAny_handled ?_)
  first | rw [show A.in1.handled = none from hh] | rw [hh]
  refine wpAny_bind (wpAny_pure (wpAny_throw ?_))
  exact hE _ _ (((Heap.ExtBut.refl it s.heap).push _).push _) ⟨_, Heap.get?_push_size _ rfl, rfl⟩

/-- addresses of a zip of a list and a range -/
structure ZApart (z TI TO i1 i2 l : Addr) : Prop where
  TIz : TI ≠ z
  TOz : TO ≠ z
  i1z : i1 ≠ z
  i2z : i2 ≠ z
  TITO : TI ≠ TO
  TIi1 : TI ≠ i1
  TIi2 : TI ≠ i2
  TOi1 : TO ≠ i1
  TOi2 : TO ≠ i2
  i12 : i1 ≠ i2
  lz : l ≠ z
  lTO : l ≠ TO
  li1 : l ≠ i1
  li2 : l ≠ i2

theorem A5.zipR {z TI TO i1 i2 l1 : Addr} (x : A5 z TI TO i1 i2) (n1 : ∀ b ∈ [z, TO, i1, i2, TI], l1 ≠ b) : ZApart z TI TO i1 i2 l1 := by
  obtain ⟨d1, d2, d3, d4, d5, d6, d7, d8, d9, d10⟩ := x
  constructor <;> first | assumption | exact Ne.symm (by assumption) | exact n1 _ (by simp)
theorem zipR_item {z TI TO i1 i2 l : Addr} {k : Nat} {xs : Array Value} {x a b : Value} {r left step : Int} {Q : Value → Shared → Prop} (D : ZApart z TI TO i1 i2 l)
    (hz : IsZip s.heap z TI TO .none) (hTI : IsPair s.heap TI (.ref i1) (.ref i2)) (hTO : IsPair s.heap TO a b) (h1 : s.heap.IsListIter i1 l k) (hl : s.heap.IsList l xs) (hx : xs[k]? = some x) (h2 : IsRangeIter s.heap i2 r left step) (hleft : 0 < left)
    (hQ : ∀ h' y, IsZip h' z TI TO (rawInt s.heap.objs.size) → IsPair h' TO x y → h'.IsListIter i1 l (k + 1) → IsRangeIter h' i2 (r + step) (left - 1) step → IsPair h' s.heap.objs.size x (.int r s.toks) → h'.objs.size = s.heap.objs.size + 1 →
      (∀ c o, c ≠ z → c ≠ TO → c ≠ i1 → c ≠ i2 → s.heap.get? c = some o → h'.get? c = some o) → Q (.ref s.heap.objs.size) { s with heap := h', toks := s.toks + 1 }) :
    wpAny (model prog w) A (Builtin.«zip.__next__» ⟨[.ref z], []⟩) (fun fin s' => ∃ v, fin = .done (.ret v) ∧ Q v s') E s := by
  show wpAny _ _ (field (.ref z) 2 >>= _) _ _ _
  refine wpAny_bind (wpAny_field hz rfl (x := .bool false) rfl ?_)
  show wpAny _ _ (field (.ref z) 3 >>= _) _ _ _
  refine wpAny_bind (wpAny_field hz rfl (x := .ref TI) rfl ?_)
  refine wpAny_bind (wpAny_seqItems hTI rfl ?_)
  show wpAny _ _ (Builtin.SmallTypes.ownedTupleIsFree (.ref z) >>= _) _ _ _
  refine wpAny_bind ?_
  unfold Builtin.SmallTypes.ownedTupleIsFree
  refine wpAny_bind (wpAny_field hz rfl (x := .none) rfl (wpAny_pure ?_))
  simp only [if_true]
  refine wpAny_bind (wpAny_rule (wpAny_bind (wpAny_field hz rfl (x := .ref TO) rfl ?_)))
  refine wpAny_bind (wpAny_setField_rec hz (by simp) fun g1 hz1 hs1 => ?_)
  replace hz1 : IsZip g1 z TI TO .ellipsis := hz1
  refine wpAny_bind ?_
  simp only [List.zipIdx_cons, List.zipIdx_nil, List.forIn_cons, List.forIn_nil]
  refine wpAny_bind (wpAny_bind (wpAny_onRaise ?_))
  show wpAny _ _ (Builtin.SmallTypes.nextOf (.ref i1) >>= _) _ _ _
  refine wpAny_bind (wpAny_nextOf_list_item (h1.extBut hs1.extBut D.i1z) (hl.extBut hs1.extBut D.lz) hx fun g2 h12 hs2 => wpAny_pure ?_)
  have hTO2 : IsPair g2 TO a b := hs2.extBut _ _ D.TOi1 (hs1.extBut _ _ D.TOz hTO)
  refine wpAny_bind (wpAny_seqItems hTO2 rfl ?_)
  refine wpAny_bind (wpAny_updateSeq_pair hTO2 fun g3 hTO3 hs3 => ?_)
  replace hTO3 : IsPair g3 TO x b := hTO3
  refine wpAny_bind (wpAny_letGo (wpAny_pure ?_))
  refine wpAny_bind (wpAny_bind (wpAny_onRaise ?_))
  show wpAny _ _ (Builtin.SmallTypes.nextOf (.ref i2) >>= _) _ _ _
  have h23 : IsRangeIter g3 i2 r left step := hs3.extBut _ _ D.TOi2.symm (hs2.extBut _ _ D.i12.symm (hs1.extBut _ _ D.i2z h2))
  refine wpAny_bind (nextOf_range (s := { s with heap := g3 }) h23 hleft fun g4 h24 hs4 => wpAny_pure ?_)
  replace hs4 : Heap.SameBut i2 g3 g4 := hs4
  have hTO4 : IsPair g4 TO x b := hs4.extBut _ _ D.TOi2 hTO3
  refine wpAny_bind (wpAny_seqItems (s := { s with heap := g4, toks := s.toks + 1 }) hTO4 rfl ?_)
  refine wpAny_bind (wpAny_updateSeq_pair (s := { s with heap := g4, toks := s.toks + 1 }) hTO4 fun g5 hTO5 hs5 => ?_)
  replace hTO5 : IsPair g5 TO x (.int r s.toks) := hTO5
  replace hs5 : Heap.SameBut TO g4 g5 := hs5
  refine wpAny_bind (wpAny_letGo (wpAny_pure (wpAny_pure ?_)))
  refine wpAny_bind (wpAny_seqItems (s := { s with heap := g5, toks := s.toks + 1 }) hTO5 rfl ?_)
  refine wpAny_bind (wpAny_newTuple ?_)
  have hsz : g5.objs.size = s.heap.objs.size := by rw [hs5.1, hs4.1, hs3.1, hs2.1, hs1.1]
  have hz5 : IsZip g5 z TI TO .ellipsis := hs5.extBut _ _ D.TOz.symm (hs4.extBut _ _ D.i2z.symm (hs3.extBut _ _ D.TOz.symm (hs2.extBut _ _ D.i1z.symm hz1)))
  have hk5 : ∀ c o, c ≠ z → c ≠ TO → c ≠ i1 → c ≠ i2 → s.heap.get? c = some o → g5.get? c = some o := fun c o c1 c2 c3 c4 e =>
    hs5.extBut _ _ c2 (hs4.extBut _ _ c4 (hs3.extBut _ _ c2 (hs2.extBut _ _ c3 (hs1.extBut _ _ c1 e))))
  have h15 : g5.IsListIter i1 l (k + 1) := ((h12.extBut hs3.extBut D.TOi1.symm).extBut hs4.extBut D.i12).extBut hs5.extBut D.TOi1.symm
  have h25 : IsRangeIter g5 i2 (r + step) (left - 1) step := hs5.extBut _ _ D.TOi2.symm h24
  have hzlt : z < g5.objs.size := Heap.lt_size hz5
  show wpAny _ _ (Builtin.SmallTypes.ownedTupleHandOut (.ref z) (.ref g5.objs.size) >>= _) _ _ _
  refine wpAny_bind ?_
  unfold Builtin.SmallTypes.ownedTupleHandOut
  have hz6 : IsZip (g5.push { cls := .type "tuple", data := .seq #[x, .int r s.toks] }) z TI TO .ellipsis := Heap.get?_push_of_some _ hz5
  refine wpAny_bind (wpAny_setField_rec hz6 (by simp) fun g7 hz7 hs7 => ?_)
  replace hz7 : IsZip g7 z TI TO (rawInt g5.objs.size) := hz7
  refine wpAny_setField_rec hz7 (by simp) fun g8 hz8 hs8 => ?_
  replace hz8 : IsZip g8 z TI TO (rawInt g5.objs.size) := hz8
  have up : ∀ c o, c ≠ z → g5.get? c = some o → g8.get? c = some o := fun c o c1 e => hs8.extBut _ _ c1 (hs7.extBut _ _ c1 (Heap.get?_push_of_some _ e))
  have hT8 : IsPair g8 g5.objs.size x (.int r s.toks) := hs8.extBut _ _ (Nat.ne_of_gt hzlt) (hs7.extBut _ _ (Nat.ne_of_gt hzlt) (Heap.get?_push_size _ rfl))
  have e8 : g8.objs.size = g5.objs.size + 1 := by rw [hs8.1, hs7.1, Heap.size_push]
  rw [hsz] at hz8 hT8 e8
  refine wpAny_pure ⟨_, rfl, ?_⟩
  show Q (.ref g5.objs.size) _
  rw [hsz]
  exact hQ g8 _ hz8 (up _ _ D.TOz hTO5) (h15.at fun o e => up _ o D.i1z e) (up _ _ D.i2z h25) hT8 e8 fun c o c1 c2 c3 c4 e => up c o c1 (hk5 c o c1 c2 c3 c4 e)

theorem zipR_end {z TI TO i1 i2 l : Addr} {k : Nat} {xs : Array Value} {a b : Value} {r left step : Int} {Q : Fin → Shared → Prop} (hh : A.handled = none) (D : ZApart z TI TO i1 i2 l)
    (hz : IsZip s.heap z TI TO .none) (hTI : IsPair s.heap TI (.ref i1) (.ref i2)) (hTO : IsPair s.heap TO a b) (h1 : s.heap.IsListIter i1 l k) (hl : s.heap.IsList l xs) (h2 : IsRangeIter s.heap i2 r left step) (hend : xs[k]? = none ∨ left ≤ 0)
    (hE : ∀ h' e, (∀ c o, c ≠ z → c ≠ TO → c ≠ i1 → c ≠ i2 → s.heap.get? c = some o → h'.get? c = some o) → (∃ o, h'.get? e = some o ∧ o.cls = .type "StopIteration") → E (.ref e) { s with heap := h' }) :
    wpAny (model prog w) A (Builtin.«zip.__next__» ⟨[.ref z], []⟩) Q E s := by
  show wpAny _ _ (field (.ref z) 2 >>= _) _ _ _
  refine wpAny_bind (wpAny_field hz rfl (x := .bool false) rfl ?_)
  show wpAny _ _ (field (.ref z) 3 >>= _) _ _ _
  refine wpAny_bind (wpAny_field hz rfl (x := .ref TI) rfl ?_)
  refine wpAny_bind (wpAny_seqItems hTI rfl ?_)
  show wpAny _ _ (Builtin.SmallTypes.ownedTupleIsFree (.ref z) >>= _) _ _ _
  refine wpAny_bind ?_
  unfold Builtin.SmallTypes.ownedTupleIsFree
  refine wpAny_bind (wpAny_field hz rfl (x := .none) rfl (wpAny_pure ?_))
  simp only [if_true]
  refine wpAny_bind (wpAny_rule (wpAny_bind (wpAny_field hz rfl (x := .ref TO) rfl ?_)))
  refine wpAny_bind (wpAny_setField_rec hz (by simp) fun g1 hz1 hs1 => ?_)
  replace hz1 : IsZip g1 z TI TO .ellipsis := hz1
  refine wpAny_bind ?_
  simp only [List.zipIdx_cons, List.zipIdx_nil, List.forIn_cons, List.forIn_nil]
  refine wpAny_bind (wpAny_bind (wpAny_onRaise ?_))
  show wpAny _ _ (Builtin.SmallTypes.nextOf (.ref i1) >>= _) _ _ _
  cases hx : xs[k]? with
  | none =>
    refine wpAny_bind (wpAny_nextOf_list_end hh (h1.extBut hs1.extBut D.i1z) (hl.extBut hs1.extBut D.lz) hx fun g2 e hs2 he => ?_)
    obtain ⟨oe, hoe, hce⟩ := he
    have hz2 : IsZip g2 z TI TO .ellipsis := hs2 _ _ D.i1z.symm hz1
    have hez : e ≠ z := fun q => by subst q; rw [hz2] at hoe; cases hoe; simp at hce
    refine wpAny_setField_rec hz2 (by simp) fun g3 _ hs3 => hE g3 e (fun c o c1 _ c3 _ q => hs3.extBut _ _ c1 (hs2 _ _ c3 (hs1.extBut _ _ c1 q))) ⟨oe, hs3.extBut _ _ hez hoe, hce⟩
  | some x =>
    have hleft : left ≤ 0 := by rcases hend with h | h; rw [hx] at h; cases h; exact h
    refine wpAny_bind (wpAny_nextOf_list_item (h1.extBut hs1.extBut D.i1z) (hl.extBut hs1.extBut D.lz) hx fun g2 h12 hs2 => wpAny_pure ?_)
    have hTO2 : IsPair g2 TO a b := hs2.extBut _ _ D.TOi1 (hs1.extBut _ _ D.TOz hTO)
    refine wpAny_bind (wpAny_seqItems hTO2 rfl ?_)
    refine wpAny_bind (wpAny_updateSeq_pair hTO2 fun g3 hTO3 hs3 => ?_)
    refine wpAny_bind (wpAny_letGo (wpAny_pure ?_))
    refine wpAny_bind (wpAny_bind (wpAny_onRaise ?_))
    show wpAny _ _ (Builtin.SmallTypes.nextOf (.ref i2) >>= _) _ _ _
    have h23 : IsRangeIter g3 i2 r left step := hs3.extBut _ _ D.TOi2.symm (hs2.extBut _ _ D.i12.symm (hs1.extBut _ _ D.i2z h2))
    refine wpAny_bind (nextOf_range_end (s := { s with heap := g3 }) hh h23 hleft fun g4 e hs4 he => ?_)
    obtain ⟨oe, hoe, hce⟩ := he
    have hz4 : IsZip g4 z TI TO .ellipsis := hs4 _ _ D.i2z.symm (hs3.extBut _ _ D.TOz.symm (hs2.extBut _ _ D.i1z.symm hz1))
    have hez : e ≠ z := fun q => by subst q; rw [hz4] at hoe; cases hoe; simp at hce
    refine wpAny_setField_rec hz4 (by simp) fun g5 _ hs5 => hE g5 e (fun c o c1 c2 c3 c4 q => hs5.extBut _ _ c1 (hs4 _ _ c4 (hs3.extBut _ _ c2 (hs2.extBut _ _ c3 (hs1.extBut _ _ c1 q))))) ⟨oe, hs5.extBut _ _ hez hoe, hce⟩

theorem pyNext_zipR_item {z TI TO i1 i2 l : Addr} {k : Nat} {xs : Array Value} {x a b : Value} {r left step : Int} {Q : Option Value → Shared → Prop} (D : ZApart z TI TO i1 i2 l)
    (hz : IsZip s.heap z TI TO .none) (hTI : IsPair s.heap TI (.ref i1) (.ref i2)) (hTO : IsPair s.heap TO a b) (h1 : s.heap.IsListIter i1 l k) (hl : s.heap.IsList l xs) (hx : xs[k]? = some x) (h2 : IsRangeIter s.heap i2 r left step) (hleft : 0 < left)
    (hQ : ∀ h' y, IsZip h' z TI TO (rawInt s.heap.objs.size) → IsPair h' TO x y → h'.IsListIter i1 l (k + 1) → IsRangeIter h' i2 (r + step) (left - 1) step → IsPair h' s.heap.objs.size x (.int r s.toks) → h'.objs.size = s.heap.objs.size + 1 →
      (∀ c o, c ≠ z → c ≠ TO → c ≠ i1 → c ≠ i2 → s.heap.get? c = some o → h'.get? c = some o) → Q (some (.ref s.heap.objs.size)) { s with heap := h', toks := s.toks + 1 }) :
    wpAny (model prog w) A (pyNext (.ref z)) Q E s := by
  have hT : s.TypeIs (.ref z) "zip" := ⟨_, hz, rfl⟩
  unfold pyNext
  exact wpAny_bind (wpAny_attempt (wpAny_callSpecial?_slot (name := Str.ofString "__next__") hT PySem.F.slot_zip_next
    (wpAny_call_entry PySem.F.slot_zip_next hT PySem.F.entry_zip_next (zipR_item D hz hTI hTO h1 hl hx h2 hleft fun h' y a1 a2 a3 a4 a5 a6 a7 => wpAny_pure (hQ h' y a1 a2 a3 a4 a5 a6 a7)) (PySem.F.args_zip_next_1 _))))
theorem pyNext_zipR_end {z TI TO i1 i2 l : Addr} {k : Nat} {xs : Array Value} {a b : Value} {r left step : Int} {Q : Option Value → Shared → Prop} (hh : A.handled = none) (D : ZApart z TI TO i1 i2 l)
    (hz : IsZip s.heap z TI TO .none) (hTI : IsPair s.heap TI (.ref i1) (.ref i2)) (hTO : IsPair s.heap TO a b) (h1 : s.heap.IsListIter i1 l k) (hl : s.heap.IsList l xs) (h2 : IsRangeIter s.heap i2 r left step) (hend : xs[k]? = none ∨ left ≤ 0)
    (hQ : ∀ h', (∀ c o, c ≠ z → c ≠ TO → c ≠ i1 → c ≠ i2 → s.heap.get? c = some o → h'.get? c = some o) → Q none { s with heap := h' }) : wpAny (model prog w) A (pyNext (.ref z)) Q E s := by
  have hT : s.TypeIs (.ref z) "zip" := ⟨_, hz, rfl⟩
  unfold pyNext
  refine wpAny_bind (wpAny_attempt (wpAny_callSpecial?_slot (name := Str.ofString "__next__") hT PySem.F.slot_zip_next
    (wpAny_call_entry PySem.F.slot_zip_next hT PySem.F.entry_zip_next (zipR_end hh D hz hTI hTO h1 hl h2 hend fun h' e hk he => ?_) (PySem.F.args_zip_next_1 _))))
  obtain ⟨o, ho, hc⟩ := he
  exact wpAny_bind (wpAny_isInstance (T := "StopIteration") (b := true) ⟨o, ho, hc⟩ isSubtype_stop (wpAny_pure (hQ _ hk)))

noncomputable abbrev zr1 (h : Heap) (l : Addr) : Heap := h.push { cls := .type "list_iterator", data := .fields #[.ref l, .int 0 0] }
noncomputable abbrev zr2 (h : Heap) (l : Addr) (a n st : Int) : Heap := (zr1 h l).push { cls := .type "range_iterator", data := .fields #[rawInt a, rawInt n, rawInt st] }
noncomputable abbrev zr3 (h : Heap) (l : Addr) (a n st : Int) : Heap := (zr2 h l a n st).push { cls := .type "tuple", data := .seq #[.ref h.objs.size, .ref (zr1 h l).objs.size] }
noncomputable abbrev zr4 (h : Heap) (l : Addr) (a n st : Int) : Heap := (zr3 h l a n st).push { cls := .type "tuple", data := .seq #[.none, .none] }
noncomputable abbrev zr5 (h : Heap) (l : Addr) (a n st : Int) : Heap := (zr4 h l a n st).push { cls := .type "zip", data := .fields #[.none, .bool false, .bool false, .ref (zr2 h l a n st).objs.size, .ref (zr3 h l a n st).objs.size] }

theorem meets_zipR (l r : Addr) (xs : Array Value) (a b st : Int) (t u v : Tok) (hsm : Builtin.Range.small a b st = true) :
    Meets (Builtin.«zip.__new__» ⟨[.type "zip", .ref l, .ref r], []⟩) (fun _ R s => s.heap.IsList l xs ∧ IsRange s.heap r a b st t u v ∧
      R (.ok (.ret (.ref (zr4 s.heap l a (Builtin.Range.rangeSize a b st) st).objs.size))) { s with heap := zr5 s.heap l a (Builtin.Range.rangeSize a b st) st }) :=
  .of_wp fun prog w A R s h => by
    obtain ⟨hp, g, d, tk, os⟩ := s; obtain ⟨hl1, hl2, h⟩ := h
    have hsub := sub_zip
    have hL1 : Heap.IsList (Shared.heap ⟨hp, g, d, tk, os⟩) l xs := hl1
    have hL2 : IsRange (Shared.heap ⟨hp.push { cls := .type "list_iterator", data := .fields #[.ref l, .int 0 0] }, g, d, tk, os⟩) r a b st t u v := Heap.get?_push_of_some _ hl2
    wp_walk using wpAny_pyIter_list hL1, wpAny_pyIter_range hL2 hsm
    exact ⟨_, rfl, h⟩

theorem call_zipR {l r : Addr} {xs : Array Value} {a b st : Int} {t u v : Tok} {Q : Value → Shared → Prop} (hl : s.heap.IsList l xs) (hr : IsRange s.heap r a b st t u v) (hsm : Builtin.Range.small a b st = true)
    (h : ∀ h', IsZip h' (s.heap.objs.size + 4) (s.heap.objs.size + 2) (s.heap.objs.size + 3) .none → IsPair h' (s.heap.objs.size + 2) (.ref s.heap.objs.size) (.ref (s.heap.objs.size + 1)) →
      IsPair h' (s.heap.objs.size + 3) .none .none → h'.IsListIter s.heap.objs.size l 0 → IsRangeIter h' (s.heap.objs.size + 1) a (Builtin.Range.rangeSize a b st) st → h'.objs.size = s.heap.objs.size + 5 →
      (∀ c o, s.heap.get? c = some o → h'.get? c = some o) → Q (.ref (s.heap.objs.size + 4)) { s with heap := h' }) : wpAny (model prog w) A (call (.type "zip") [.ref l, .ref r]) Q E s := by
  refine callType_new PySem.F.called_zip (by decide) (PySem.F.typeCall_zip_2 _ _) (PySem.F.newCall_zip_2 _ _) (fun obj => PySem.F.args_object_init_3 obj _ _) PySem.F.entry_zip_new
    (meets_zipR l r xs a b st t u v hsm) ⟨hl, hr, ?_⟩
  generalize hn : Builtin.Range.rangeSize a b st = n at *
  have z1 : (zr1 s.heap l).objs.size = s.heap.objs.size + 1 := Heap.size_push ..
  have z2 : (zr2 s.heap l a n st).objs.size = s.heap.objs.size + 2 := by rw [Heap.size_push, z1]
  have z3 : (zr3 s.heap l a n st).objs.size = s.heap.objs.size + 3 := by rw [Heap.size_push, z2]
  have z4 : (zr4 s.heap l a n st).objs.size = s.heap.objs.size + 4 := by rw [Heap.size_push, z3]
  have z5 : (zr5 s.heap l a n st).objs.size = s.heap.objs.size + 5 := by rw [Heap.size_push, z4]
  have g5 : (zr5 s.heap l a n st).get? (zr4 s.heap l a n st).objs.size = some _ := Heap.get?_push_size _ rfl
  have g4 : (zr5 s.heap l a n st).get? (zr3 s.heap l a n st).objs.size = some _ := Heap.get?_push_of_some _ (Heap.get?_push_size _ rfl)
  have g3 : (zr5 s.heap l a n st).get? (zr2 s.heap l a n st).objs.size = some _ := Heap.get?_push_of_some _ (Heap.get?_push_of_some _ (Heap.get?_push_size _ rfl))
  have g2 : (zr5 s.heap l a n st).get? (zr1 s.heap l).objs.size = some _ := Heap.get?_push_of_some _ (Heap.get?_push_of_some _ (Heap.get?_push_of_some _ (Heap.get?_push_size _ rfl)))
  have g1 : (zr5 s.heap l a n st).get? s.heap.objs.size = some _ := Heap.get?_push_of_some _ (Heap.get?_push_of_some _ (Heap.get?_push_of_some _ (Heap.get?_push_of_some _ (Heap.get?_push_size _ rfl))))
  show _ ∧ _
  rw [z2, z3, z4] at g5
  rw [z1, z2] at g3
  rw [z3] at g4
  rw [z1] at g2
  rw [z4]
  exact ⟨⟨_, g5, rfl⟩, h _ g5 g3 g4 ⟨_, g1, rfl, rfl⟩ g2 z5 fun c o x =>
    Heap.get?_push_of_some _ (Heap.get?_push_of_some _ (Heap.get?_push_of_some _ (Heap.get?_push_of_some _ (Heap.get?_push_of_some _ x))))⟩
end

section
variable {K : Bse} {c : Cx} {h : Hp} {G G' : Gh} {s s' s'' : Shared} {A : Around} {Q : AV → Hp → Prop} {d : Nat}

inductive ZipRS (av : AV) (a st : Int) (n : Nat) (z TI TO i1 i2 : Addr) (i : Nat) (G : Gh) (hp : Heap) : Prop
  | mk (l) (v : VR G (.ref l) av) (hz : IsZip hp z TI TO .none) (hTI : IsPair hp TI (.ref i1) (.ref i2)) (hTO : ∃ a b, IsPair hp TO a b) (h1 : hp.IsListIter i1 l i) (h2 : IsRangeIter hp i2 (a + (i : Nat) * st) ((n : Int) - (i : Nat)) st)
theorem Iter.zipR (z TI TO i1 i2 : Addr) (hd : A5 z TI TO i1 i2) (av : AV) (xs : List AV) (a st : Int) (n : Nat) :
    Iter K z [z, TO, i1, i2, TI] (min xs.length n) (fun i => [xs.getD i .none, .int (a + i * st)]) true (fun h => readL h av = some xs)
    (ZipRS av a st n z TI TO i1 i2) where
  frame i G G' hp hp' hst hg hk := by
    obtain ⟨l1, hv1, a, b, ⟨e, f, g⟩, h1, h2⟩ := hst
    exact ⟨l1, hv1.mono hg, hk z (by simp) _ a, hk TI (by simp) _ b, ⟨e, f, hk TO (by simp) _ g⟩, h1.at fun o e => hk i1 (by simp) o e, hk i2 (by simp) _ h2⟩
  live i G hp hst x hx := by
    obtain ⟨l1, hv1, a, b, ⟨e, f, g⟩, ⟨o1, h1, _⟩, h2⟩ := hst
    exact five_mem (P := fun x => x < hp.objs.size) (Heap.lt_size a) (Heap.lt_size g) (Heap.lt_size h1) (Heap.lt_size h2) (Heap.lt_size b) hx
  item1 e := by cases e
  item2 _ i c A G s h hi hh hst R hc hl := by
    obtain ⟨l1, hv1, hz, hTI, ⟨a0, b0, hTO⟩, hi1, hi2⟩ := hst
    obtain ⟨a', vs, n', e, ho, hx⟩ := (R.listAt hc hv1).inv
    cases e
    have hix : i < xs.length := Nat.lt_of_lt_of_le hi (Nat.min_le_left ..)
    have hin : i < n := Nat.lt_of_lt_of_le hi (Nat.min_le_right ..)
    obtain ⟨v, hv, hv'⟩ := hx.get (i := i) (x := xs.getD i .none) (by rw [List.getD_eq_getElem?_getD, List.getElem?_eq_getElem hix]; rfl)
    have D : ZApart z TI TO i1 i2 l1 := hd.zipR (apart1 hl (tracked hv1 hc))
    refine wpAny_sz (pyNext_zipR_item D hz hTI hTO hi1 ⟨_, ho, rfl, _, rfl⟩ (x := v) (by simpa using hv) hi2 (by omega) fun h' y a1 a2 a3 a4 a5 a6 hk hsz => ?_)
    refine ⟨s.heap.objs.size, rfl, fun elts k pos => ?_⟩
    have hTz : s.heap.objs.size ≠ z := Nat.ne_of_gt (Heap.lt_size hz)
    refine wpAny_letOwnedTupleGo_zip (s := { s with heap := h', toks := s.toks + 1 }) a1 fun h'' hz'' hs'' => ?_
    replace hs'' : Heap.SameBut z h' h'' := hs''
    have hk2 : ∀ b o, b ∉ [z, TO, i1, i2, TI] → s.heap.get? b = some o → h''.get? b = some o := five_keep fun b o b1 b2 b3 b4 e => (hs''.2 b b1).trans (hk b o b1 b2 b3 b4 e)
    have hn : ∀ b ∈ [z, TO, i1, i2, TI], G b = none := fun b hb => (hl b hb).1
    have hsz2 : s.heap.objs.size ≤ h''.objs.size := by rw [hs''.1]; exact hsz
    have e1 : a + ((i + 1 : Nat) : Int) * st = a + (i : Int) * st + st := by push_cast; rw [Int.add_mul, Int.one_mul, Int.add_assoc]
    have e2 : (n : Int) - ((i + 1 : Nat) : Int) = (n : Int) - (i : Int) - 1 := by push_cast; omega
    refine ⟨G, #[v, .int (a + i * st) s.toks], ⟨_, (hs''.2 _ hTz).trans a5, rfl, _, rfl⟩, ⟨hv', ⟨_, rfl⟩, trivial⟩, Stp.loose (t := s.toks + 1) hk2 hn hsz2, R.loose hl hk2 hsz2, l1, hv1, hz'', ?_, ⟨v, y, ?_⟩, ?_, ?_⟩
    · exact (hs''.2 TI D.TIz).trans (hk TI _ D.TIz D.TITO D.TIi1 D.TIi2 hTI)
    · exact (hs''.2 TO D.TOz).trans a2
    · exact a3.at fun o e => (hs''.2 i1 D.i1z).trans e
    · rw [e1, e2]; exact (hs''.2 i2 D.i2z).trans a4
  done c A G s h hh hst R hc hl := by
    obtain ⟨l1, hv1, hz, hTI, ⟨a0, b0, hTO⟩, hi1, hi2⟩ := hst
    obtain ⟨a', vs, n', e, ho, hx⟩ := (R.listAt hc hv1).inv
    cases e
    have D : ZApart z TI TO i1 i2 l1 := hd.zipR (apart1 hl (tracked hv1 hc))
    have hend : vs[min xs.length n]? = none ∨ (n : Int) - ((min xs.length n : Nat) : Int) ≤ 0 := by
      have e1 := hx.length
      simp only [Array.length_toList] at e1
      rcases Nat.le_total xs.length n with q | q
      · exact .inl (by rw [Nat.min_eq_left q, ← e1]; simp)
      · exact .inr (by rw [Nat.min_eq_right q]; omega)
    refine wpAny_sz (pyNext_zipR_end hh D hz hTI hTO hi1 ⟨_, ho, rfl, _, rfl⟩ hi2 hend fun h' hk hsz => ?_)
    have hk2 : ∀ b o, b ∉ [z, TO, i1, i2, TI] → s.heap.get? b = some o → h'.get? b = some o := five_keep hk
    have hn : ∀ b ∈ [z, TO, i1, i2, TI], G b = none := fun b hb => (hl b hb).1
    exact ⟨G, rfl, Stp.loose (t := s.toks) hk2 hn hsz, R.loose hl hk2 hsz⟩
  self i A G s Q hst hQ := let ⟨_, _, hz, _, _, _, _⟩ := hst; wpAny_pyIter_zip hz hQ

theorem EvI.zipR {id p e e' pos} {P} (x : Ev K c (.Name id p) h fun f h0 => f = .raw (.type "zip") ∧ Ev K c e h0 fun a h1 => Ev K c e' h1 fun b h2 => ∃ xs a0 b0 st, readL h2 a = some xs ∧ b = .range a0 b0 st ∧ Builtin.Range.small a0 b0 st = true ∧ ∃ n : Nat, (n : Int) = Builtin.Range.rangeSize a0 b0 st ∧
      P (min xs.length n) (fun i => [xs.getD i .none, .int (a0 + i * st)]) true (fun h => readL h a = some xs) h2)
    (he : starEach [e, e'] c.env = [(false, eval e c.env), (false, eval e' c.env)] := by kernel_rfl) : EvI K c (.Call (.Name id p) [e, e'] [] pos) h P := fun A G s hA R => by
  refine eval_call2 rfl x hA R he fun G1 s1 u v a b h1 x1 R1 v1 v2 ⟨xs, a0, b0, st, hr, hr2, hsm, n, hn, q1⟩ => ?_
  subst hr2
  obtain ⟨l1, vs, n1, ho, hx⟩ := R1.listAt hr v1
  obtain ⟨r, t, u', w', rfl, ho'⟩ := R1.rangeAt v2
  refine call_zipR ⟨_, ho, rfl, _, rfl⟩ ho' hsm fun h' hz hTI hTO hi1 hi2 hsz hk => ?_
  refine wpAny_pyIter_zip hz ?_
  have hsz' : s1.heap.objs.size ≤ h'.objs.size := by rw [hsz]; exact Nat.le_add_right _ _
  refine ⟨_, [s1.heap.objs.size + 4, s1.heap.objs.size + 3, s1.heap.objs.size, s1.heap.objs.size + 1, s1.heap.objs.size + 2], _, _, _, _, _, G1, h1, rfl,
    Iter.zipR (s1.heap.objs.size + 4) (s1.heap.objs.size + 2) (s1.heap.objs.size + 3) s1.heap.objs.size (s1.heap.objs.size + 1) ?_ a xs a0 st n, x1.trans (Stp.heap (t := s1.toks) hk hsz'), R1.keep hk hsz', ⟨l1, v1, hz, hTI, ⟨_, _, hTO⟩, hi1, ?_⟩, fun b hb => ?_, q1⟩
  · exact A5.of _
  · rw [← hn] at hi2
    simpa using hi2
  · exact ⟨R1.none_of_ge (A5.le hb), Nat.le_trans x1.size (A5.le hb)⟩
end
end Mine
end

section
open PySem PySem.W PySem.Calls PyProof.Rows
namespace Mine

noncomputable def SubL : Lc → Lc → Prop
  | [], _ => True
  | (x, v) :: r, L => L.lookup x = some v ∧ SubL r L
theorem SubL.get : ∀ {B L : Lc} {x : Str} {v : AV}, SubL B L → B.lookup x = some v → L.lookup x = some v
  | [], _, _, _, _, e => by cases e
  | (y, u) :: r, L, x, v, h, e => by
    by_cases q : x = y
    · subst q; simp only [List.lookup_cons, beq_self_eq_true] at e; cases e; exact h.1
    · have : (x == y) = false := by simpa using q
      simp only [List.lookup_cons, this] at e
      exact h.2.get e

/-- another view of the same store -/
noncomputable def Gs (h h' : Hp) : Prop := ∀ (K : Bse) (c : Cx) (G : Gh) (hp : Heap), Rel K c h G hp → Rel K c h' G hp
theorem Gs.refl (h : Hp) : Gs h h := fun _ _ _ _ R => R
theorem Gs.trans {a b c : Hp} (x : Gs a b) (y : Gs b c) : Gs a c := fun K c G hp R => y K c G hp (x K c G hp R)
theorem Gs.iattrs {h : Hp} {l : Nat} {es : Lc} (e : h l = some (.attrs es)) : Gs h (h.put l (.iattrs es)) := fun K c G hp R => by
  obtain ⟨a, hg⟩ := R.live l _ e
  obtain ⟨o, ho, ho'⟩ := R.locObj hg e
  exact R.updX hg (fun _ _ _ e => e) (Nat.le_refl _) ho (ao := .iattrs es) ho'

section
variable {K : Bse} {c : Cx} {h : Hp} {G G' : Gh} {s s' s'' : Shared} {A : Around} {Q : AV → Hp → Prop} {d : Nat}

theorem Ca.ghost {f as kw} {Q' : AV → Hp → Prop} (x : Ca K d f as kw h Q) (hQ : ∀ a h1, Q a h1 → ∃ h2, Gs h1 h2 ∧ Q' a h2) : Ca K d f as kw h Q' := fun c A G s fv us ks hA R h1 h2 h3 =>
  wpAny_mono (x c A G s fv us ks hA R h1 h2 h3) (fun v s' zp => PE.use zp fun G' av h' a b e q => by
    obtain ⟨h2, g, q'⟩ := hQ _ _ q
    exact ⟨G', av, h2, a, g K c G' _ b, e, q'⟩) fun _ _ z => z

theorem BindT.sub {t : Expr} {pair : Bool} {as : List AV} {L B : Lc} {Q : Lc → Hp → Prop} (hB : SubL B L) (x : BindT K (c.at B) t pair as h Q) : BindT K (c.at L) t pair as h Q := by
  cases pair with
  | false =>
    obtain ⟨h1, a, e, y⟩ := x
    exact ⟨h1, a, e, fun A G s u hA R hv => y A G s u hA (Rel.sub R fun _ _ e => hB.get e) hv⟩
  | true =>
    obtain ⟨elts, k, pos, e, h1, h2, y⟩ := x
    exact ⟨elts, k, pos, e, h1, h2, fun A G s us hA R hv => y A G s us hA (Rel.sub R fun _ _ e => hB.get e) hv⟩

theorem Wh.turnS {test body orelse Q} {B : Lc} (hB : SubL B c.L) (x : It K (c.at B) test h fun b h1 => if b then Exs K (c.at B) body h1 (fun f L h2 => match f with
      | .next | .cont => Wh K (c.at L) test body orelse h2 Q
      | .brk => Q .next L h2
      | .ret a => Q (.ret a) L h2) else Exs K (c.at B) orelse h1 Q) : Wh K c test body orelse h Q := fun A G s hA R =>
  Wh.turn (c := c.at B) x A G s hA (Rel.sub R fun _ _ e => hB.get e)

theorem CompRuns.lastS {cc : Cx} {elt t iter : Expr} {ifs : List Expr} {scope : Scope} {pos : Pos} {I D wr n items pair Hc St} (X : Iter K I wr n items pair Hc St) (hDw : D ∉ wr) (Inv : Nat → Lc → Hp → List AV → Prop) (hHc : ∀ i B h ys, Inv i B h ys → Hc h ∧ ys.length ≤ sizeLine)
    (turn : ∀ i B h ys, i < n → Inv i B h ys → BindT K (cc.at B) t pair (items i) h fun L1 h1 => Tests K (cc.at L1) ifs h1 fun ok h2 => if ok = true then Ev K (cc.at L1) elt h2 fun a h3 => ∃ B', SubL B' L1 ∧ Inv (i + 1) B' h3 (ys ++ [a]) else ∃ B', SubL B' L1 ∧ Inv (i + 1) B' h2 ys)
    (h0 : ∃ B, SubL B cc.L ∧ Inv 0 B h []) : CompRuns K cc (.ListComp elt [⟨t, iter, ifs, 0⟩] scope pos) I D wr St (fun L h ys => ∃ B, Inv n B h ys) h := by
  have := CompRuns.last (cc := cc) (K := K) (elt := elt) (t := t) (iter := iter) (ifs := ifs) (scope := scope) (pos := pos) (h := h) X hDw (fun i L h ys => ∃ B, SubL B L ∧ Inv i B h ys) (fun i L h ys ⟨B, _, q⟩ => hHc i B h ys q)
    (fun i L h ys hi ⟨B, hB, q⟩ => BindT.sub hB (turn i B h ys hi q)) h0
  intro A G s hA R hst hl ha
  refine codeAny_mono (this A G s hA R hst hl ha) fun r s' p => ?_
  cases r with
  | ok f =>
    obtain ⟨G', L', h', ys, p1, p2, p3, B, _, q⟩ := p
    exact ⟨G', L', h', ys, p1, p2, p3, B, q⟩
  | error e => exact p
end
end Mine
end

section
open PySem PySem.W PySem.Calls PyProof.Rows
namespace Mine

/-- what is left of a body -/
noncomputable def Seq (K : Bse) (c : Cx) (rest : List Stmt) (Q : Fl → Lc → Hp → Prop) : Fl → Lc → Hp → Prop := fun f L h => match f with
  | .next => Exs K (c.at L) rest h Q
  | f => Q f L h
/-- the value of a call -/
noncomputable def Rt (Q : AV → Hp → Prop) : Fl → Lc → Hp → Prop := fun f _ h => match f with
  | .ret a => Q a h
  | _ => Q .none h
/-- the end of a turn -/
noncomputable def Trn (Inv : Lc → Hp → Prop) (Q : Fl → Lc → Hp → Prop) : Fl → Lc → Hp → Prop := Trn0 (fun L h => ∃ B, SubL B L ∧ Inv B h) Q

section
variable {K : Bse} {c : Cx} {L : Lc} {h : Hp} {Q : Fl → Lc → Hp → Prop} {rest : List Stmt}

theorem Exs.go {st} (x : Ex K (c.at L) st h (Seq K c rest Q)) : Exs K (c.at L) (st :: rest) h Q := Exs.cons (x.mono fun f L' h1 q => by cases f <;> exact q)
theorem Exs.next (hQ : Q .next L h) : Exs K (c.at L) [] h Q := Exs.nil hQ
theorem Exs.endS {rest'} (x : Exs K (c.at L) rest' h Q) : Exs K (c.at L) [] h (Seq K c rest' Q) := Exs.nil x
theorem Exs.asg {x p value pos} (y : Ev K (c.at L) value h fun a h1 => Exs K (c.at (setL L x a)) rest h1 Q) (hk : c.env.kindOf x = some .local ∨ (c.wr = true ∧ c.env.kindOf x = some .cell ∧ (c.env.cells.lookup x).isSome = true) := by first | exact Or.inl (by kernel_rfl) | exact Or.inr ⟨rfl, by kernel_rfl, by kernel_rfl⟩)
    (hs : swapsWithSole [.Name x p] value pos.line c.env = pure false := by kernel_rfl) (hw : swappedStores [.Name x p] value c.env = pure none := by kernel_rfl) (he : (assignEach [.Name x p] c.env).map (·.2) = [assign (.Name x p) c.env] := by kernel_rfl) :
    Exs K (c.at L) (.Assign [.Name x p] value pos :: rest) h Q := Exs.go (Ex.asg (y.mono fun a h1 q => As.name hk q) hs hw he)
theorem Exs.ret {e pos} (x : Ev K (c.at L) e h fun a h1 => Q (.ret a) L h1) : Exs K (c.at L) (.Return (some e) pos :: rest) h Q := Exs.go (Ex.ret x)
theorem Exs.expr {e pos} (x : Ev K (c.at L) e h fun a h1 => Exs K (c.at L) rest h1 Q) (hi : interactive c.env = false := by kernel_rfl) (hs : swapsWith e none pos.line c.env = pure false := by kernel_rfl) : Exs K (c.at L) (.Expr e pos :: rest) h Q := Exs.go (Ex.expr x hi hs)
theorem Exs.ifs {t b o pos} (x : It K (c.at L) t h fun v h1 => if v then Exs K (c.at L) b h1 (Seq K c rest Q) else Exs K (c.at L) o h1 (Seq K c rest Q)) : Exs K (c.at L) (.If t b o pos :: rest) h Q := Exs.go (Ex.ifs x)
theorem Exs.brk {pos} (hQ : Q .brk L h) : Exs K (c.at L) (.Break pos :: rest) h Q := Exs.go (Ex.brk hQ)
theorem Exs.aug {x p op value pos} {a : AV} (hx : L.lookup x = some a) (y : Ev K (c.at L) value h fun b h1 => Op2 K (c.at L) (inplaceOp op) a b h1 fun r h2 => Exs K (c.at (setL L x r)) rest h2 Q)
    (hk : c.env.kindOf x = some .local ∨ (c.wr = true ∧ c.env.kindOf x = some .cell ∧ (c.env.cells.lookup x).isSome = true) := by first | exact Or.inl (by kernel_rfl) | exact Or.inr ⟨rfl, by kernel_rfl, by kernel_rfl⟩) (hd' : (x == ("__classdict__" : Str)) = false := by kernel_rfl) : Exs K (c.at L) (.AugAssign (.Name x p) op value pos :: rest) h Q := Exs.go (Ex.aug hx y hk hd')
/-- one target of any kind -/
theorem Exs.asgT {t value pos} (y : Ev K (c.at L) value h fun a h1 => As K (c.at L) t a h1 fun L2 h2 => Exs K (c.at L2) rest h2 Q) (hs : swapsWithSole [t] value pos.line c.env = pure false := by kernel_rfl) (hw : swappedStores [t] value c.env = pure none := by kernel_rfl)
    (he : (assignEach [t] c.env).map (·.2) = [assign t c.env] := by kernel_rfl) : Exs K (c.at L) (.Assign [t] value pos :: rest) h Q := Exs.go (Ex.asg y hs hw he)
theorem Exs.fo {t iter body orelse pos} (x : EvI K (c.at L) iter h fun n items pair Hc h1 => ∃ Inv : Nat → Lc → Hp → Prop, (∀ i B h, Inv i B h → Hc h) ∧
      (∀ i B h, i < n → Inv i B h → BindT K (c.at B) t pair (items i) h fun L1 h1 => Exs K (c.at L1) body h1 (Trn (Inv (i + 1)) (Seq K c rest Q))) ∧
      (∀ B L h, SubL B L → Inv n B h → Exs K (c.at B) orelse h (Seq K c rest Q)) ∧ ∃ B, SubL B L ∧ Inv 0 B h1)
    (hs : ∀ x, foldedSetIterable iter c.env x = pure x := by intro _; kernel_rfl) : Exs K (c.at L) (.For t iter body orelse pos :: rest) h Q := by
  refine Exs.go fun A G s hA R => ?_
  refine wpAny_For (wpAny_mono (x A G s hA R) (fun xv s1 q => wpAny_mono q (fun it s2 q2 => ?_) fun _ _ z => z) fun _ _ z => z) hs
  obtain ⟨I, wr, n, items, pair, Hc, St, G2, h2, rfl, X, x2, R2, st2, hf, Inv, hHc, turn, fin, h0⟩ := q2
  refine codeAny_mono (for_loop (c := c) (Q := Seq K c rest Q) X (fun i L h => ∃ B, SubL B L ∧ Inv i B h) (fun i L h ⟨B, _, q⟩ => hHc i B h q) (fun i L h hi ⟨B, hB, q⟩ => BindT.sub hB (turn i B h hi q))
    (fun L h ⟨B, hB, q⟩ A G s hA R => fin B L h hB q A G s hA (Rel.sub R fun _ _ e => hB.get e)) n 0 L h2 A G2 s2 rfl (Nat.zero_le _) hA R2 st2 (Loose.fresh (c := c.at L) R hf) h0) fun r s' p => ?_
  cases r with
  | ok f =>
    obtain ⟨G5, fl, L5, h5, x5, R5, v5, q5⟩ := p
    exact ⟨G5, fl, L5, h5, Stp.dropFresh x5 x2 (fun b hb => (hf b hb).2), R5, v5, q5⟩
  | error e => exact p.elim

/-- targets of a loop -/
theorem BindT.one {x p h as a} {Q : Lc → Hp → Prop} (e : as = [a]) (hQ : Q (setL L x a) h) (hk : c.env.kindOf x = some .local ∨ (c.wr = true ∧ c.env.kindOf x = some .cell ∧ (c.env.cells.lookup x).isSome = true) := by first | exact Or.inl (by kernel_rfl) | exact Or.inr ⟨rfl, by kernel_rfl, by kernel_rfl⟩) : BindT K (c.at L) (.Name x p) false as h Q := ⟨⟨x, p, rfl⟩, a, e, As.name hk hQ⟩
theorem BindT.two {x p y q k pos h as a b} {Q : Lc → Hp → Prop} (e : as = [a, b]) (hQ : Q (setL (setL L x a) y b) h)
    (hx : c.env.kindOf x = some .local ∨ (c.wr = true ∧ c.env.kindOf x = some .cell ∧ (c.env.cells.lookup x).isSome = true) := by first | exact Or.inl (by kernel_rfl) | exact Or.inr ⟨rfl, by kernel_rfl, by kernel_rfl⟩) (hy : c.env.kindOf y = some .local ∨ (c.wr = true ∧ c.env.kindOf y = some .cell ∧ (c.env.cells.lookup y).isSome = true) := by first | exact Or.inl (by kernel_rfl) | exact Or.inr ⟨rfl, by kernel_rfl, by kernel_rfl⟩) : BindT K (c.at L) (.Tuple [.Name x p, .Name y q] k pos) true as h Q := by
  subst e
  exact ⟨_, _, _, rfl, rfl, rfl, Ass.cons (As.name hx (Ass.cons (As.name (c := c.at (setL L x a)) hy (Ass.nil hQ))))⟩
end

section
variable {K : Bse} {h : Hp} {d : Nat} {Q : AV → Hp → Prop}
/-- a call of a def, flat -/
noncomputable def ForAllV {α : Type} : List α → (List Value → Prop) → Prop
  | [], P => P []
  | _ :: r, P => ∀ u, ForAllV r fun us => P (u :: us)
theorem ForAllV.all {α : Type} : ∀ {l : List α} {P : List Value → Prop}, ForAllV l P → ∀ us : List Value, us.length = l.length → P us
  | [], P, x, us, h => by rw [List.length_eq_zero_iff.mp h]; exact x
  | _ :: r, P, x, [], h => by cases h
  | _ :: r, P, x, u :: us, h => (x u).all us (Nat.succ.inj h)
theorem bind0 {fd : FuncData} (x : bindArgs fd ⟨[], []⟩ = pure []) : ∀ us : List Value, us.length = ([] : List Str).length → bindArgs fd ⟨us, []⟩ = pure (([] : List Str).zip us) :=
  ForAllV.all (l := ([] : List Str)) (P := fun us => bindArgs fd ⟨us, []⟩ = pure (([] : List Str).zip us)) x
theorem bind1 {fd : FuncData} {a : Str} (x : ∀ u, bindArgs fd ⟨[u], []⟩ = pure [(a, u)]) : ∀ us : List Value, us.length = [a].length → bindArgs fd ⟨us, []⟩ = pure ([a].zip us) :=
  ForAllV.all (l := [a]) (P := fun us => bindArgs fd ⟨us, []⟩ = pure ([a].zip us)) x
theorem bind2 {fd : FuncData} {a b : Str} (x : ∀ u v, bindArgs fd ⟨[u, v], []⟩ = pure [(a, u), (b, v)]) : ∀ us : List Value, us.length = [a, b].length → bindArgs fd ⟨us, []⟩ = pure ([a, b].zip us) :=
  ForAllV.all (l := [a, b]) (P := fun us => bindArgs fd ⟨us, []⟩ = pure ([a, b].zip us)) x
theorem bind4 {fd : FuncData} {a b e f : Str} (x : ∀ u v w z, bindArgs fd ⟨[u, v, w, z], []⟩ = pure [(a, u), (b, v), (e, w), (f, z)]) : ∀ us : List Value, us.length = [a, b, e, f].length → bindArgs fd ⟨us, []⟩ = pure ([a, b, e, f].zip us) :=
  ForAllV.all (l := [a, b, e, f]) (P := fun us => bindArgs fd ⟨us, []⟩ = pure ([a, b, e, f].zip us)) x
theorem Ca.def {a : Addr} {fd : FuncData} {body : List Stmt} {as : List AV} {names : List Str} (F : FnOk K a fd body) (hl : names.length = as.length) (hb : ∀ us : List Value, us.length = names.length → bindArgs fd ⟨us, []⟩ = pure (names.zip us)) (hnd : names.Nodup) (hkind : kindsOk fd names = true)
    (x : ∀ L : Addr, Exs K ((⟨d, callEnvC fd L a, true, []⟩ : Cx).at (names.zip as)) body h (Rt Q)) : Ca K (d + 1) (.raw (.ref a)) as [] h Q :=
  Ca.ofC (CaC.fn0 F hl hb hnd hkind fun L => (x L).mono fun f L' h2 q => by cases f <;> exact q)
end
end Mine
end

section
open PySem PySem.W PySem.Calls PyProof.Rows
namespace Mine

/-- a made list, fixed or not -/
noncomputable def Mk (ml : Bool) (ys : List AV) (h : Hp) (P : AV → Hp → Prop) : Prop := match ml with
  | false => P (.list ys) h
  | true => ∀ l, h l = none → P (.obj l) (h.put l (.list ys))
section
variable {K : Bse} {c : Cx} {h : Hp} {G G' : Gh} {s s' s'' : Shared} {A : Around} {Q : AV → Hp → Prop}
theorem Rel.made {ml : Bool} {D : Addr} {ys : List AV} {P : AV → Hp → Prop} (R : Rel K c h G s.heap) (x : Acc c G s.heap D ys) (q : Mk ml ys h P) : ∃ g av h', Rel K c h' (Gput G D g) s.heap ∧ VR (Gput G D g) (.ref D) av ∧ P av h' := by
  cases ml with
  | false => exact ⟨_, .list ys, h, Rel.freeze R x, ⟨D, rfl, Gput_self ..⟩, q⟩
  | true =>
    obtain ⟨hl, vs, n, ho, hys⟩ := x
    obtain ⟨l, hn, R'⟩ := R.locAt hl ho (ao := .list ys) ⟨vs, n, rfl, hys⟩
    exact ⟨_, .obj l, _, R', ⟨D, rfl, Gput_self ..⟩, q l hn⟩
theorem Ev.compM {ml : Bool} {elt t iter : Expr} {ifs : List Expr} {rest : List Comprehension} {scope : Scope} {pos : Pos} {cl : List (Str × Addr)} {Lcap : Lc} {Q : AV → Hp → Prop}
    (x : EvI K c iter h fun n items pair Hc h1 => ∃ Fin : Lc → Hp → List AV → Prop, (∀ I wr St C D, Iter K I wr n items pair Hc St → D ∉ wr → CompRuns K (ccx c scope cl Lcap C) (.ListComp elt (⟨t, iter, ifs, 0⟩ :: rest) scope pos) I D wr St Fin h1) ∧
      ∀ L2 h2 ys, Fin L2 h2 ys → Mk ml ys h2 Q)
    (hcap : Caps c scope cl Lcap) (hsub : SubC c.env.cells cl) (hclos : closureFor scope c.env = pure cl) (hnd : (cl.map (·.1)).Nodup) (hkind : scope.kind = .function) (hcell : ∀ y ∈ scope.names, y.2 ≠ .cell)
    (hnames : ∀ y ∈ scope.names, y.2 = .local → scope.names.lookup y.1 = some .local) (hs : ∀ x, foldedSetIterable iter c.env x = pure x := by intro _; kernel_rfl) : Ev K c (.ListComp elt (⟨t, iter, ifs, 0⟩ :: rest) scope pos) h Q := fun A G s hA R => by
  rw [eval_ListComp]
  refine wpAny_comprehension_free (use := none) rfl hs hclos hkind hnames (wpAny_mono (x A G s hA R) (fun xv s₁ h₁ => wpAny_mono h₁ (fun it s₂ h₂ => ?_) fun _ _ e => e) fun _ _ e => e)
  obtain ⟨I, wr, n, items, pair, Hc, St, G2, h2, rfl, X, x2, R2, st2, hf, Fin, hrun, hQ⟩ := h₂
  have hl2 : Loose c G2 wr := Loose.fresh R hf
  refine comp_core (RR := fun acc C => compPost K.M A NoE none (PostE K c G s Q) acc C) rfl X hcap hsub hnd hkind hcell (fun C D hD => hrun I wr St C D X hD) hA R2 st2 hl2 ?_
  intro D C f s5 G5 L5 h5 ys hD hC hDC x5 R5 a5 hns hGC hfin
  obtain ⟨m, hn⟩ := hns
  refine ⟨m, hn, fun h' hs' => ?_⟩
  have hloose : Loose c G5 [C] := fun b hb => by
    rw [List.mem_singleton.mp hb]
    exact ⟨hGC, fun w => by have := (R2.own1 _ c.own0).2; rw [← w] at this; exact absurd this (Nat.not_lt.mpr hC), fun x w => absurd (R2.cell_lt w) (Nat.not_lt.mpr hC)⟩
  have hk : ∀ b o, b ∉ [C] → s5.heap.get? b = some o → h'.get? b = some o := fun b o hb e => (hs'.2 b (fun q => hb (by rw [q]; exact List.mem_singleton.mpr rfl))).trans e
  have x6 : Stp [C] G5 G5 s5 { s5 with heap := h' } := Stp.loose (t := s5.toks) hk (fun b hb => (hloose b hb).1) (Nat.le_of_eq hs'.1.symm)
  have R6 : Rel K c h5 G5 h' := R5.loose hloose hk (Nat.le_of_eq hs'.1.symm)
  have a6 : Acc c G5 ({ s5 with heap := h' } : Shared).heap D ys := a5.step x6 (fun q => hDC (List.mem_singleton.mp q))
  obtain ⟨g, av, h7, R7, v7, q7⟩ := Rel.made (s := { s5 with heap := h' }) R6 a6 (hQ _ _ _ hfin)
  have hDn : G5 D = none := (a5.1 D (List.mem_singleton.mpr rfl)).1
  have hDs : s.heap.objs.size ≤ D := Nat.le_trans x2.size hD
  have xa : Stp ((D :: (wr ++ [C])) ++ c.own) G G5 s { s5 with heap := h' } := by
    have y1 : Stp ((D :: (wr ++ [C])) ++ c.own) G G2 s s₂ := x2.sub fun a ha => List.mem_append_right _ ha
    have y2 : Stp ((D :: (wr ++ [C])) ++ c.own) G2 G5 s₂ s5 := x5.sub fun a ha => List.mem_append_left _ ha
    have y3 : Stp ((D :: (wr ++ [C])) ++ c.own) G5 G5 s5 { s5 with heap := h' } := x6.sub fun a ha => List.mem_append_left _ (List.mem_cons_of_mem _ (List.mem_append_right _ ha))
    exact (y1.trans y2).trans y3
  have xb : Stp c.own G G5 s { s5 with heap := h' } := Stp.dropFresh xa (Stp.refl _ _ _) fun b hb => by
    rcases List.mem_cons.mp hb with q | hb
    · rw [q]; exact hDs
    · rcases List.mem_append.mp hb with q | q
      · exact (hf b q).2
      · rw [List.mem_singleton.mp q]; exact Nat.le_trans x2.size hC
  exact ⟨_, av, h7, xb.late hDs hDn, R7, v7, q7⟩

/-- x = [ ... ] where the store comes before the comprehension's names go -/
theorem Ex.asgCompM {ml : Bool} {elt t iter : Expr} {ifs : List Expr} {rest : List Comprehension} {scope : Scope} {pos spos py : Pos} {y : Str} {cl : List (Str × Addr)} {Lcap : Lc} {Q : Fl → Lc → Hp → Prop}
    (x : EvI K c iter h fun n items pair Hc h1 => ∃ Fin : Lc → Hp → List AV → Prop, (∀ I wr St C D, Iter K I wr n items pair Hc St → D ∉ wr → CompRuns K (ccx c scope cl Lcap C) (.ListComp elt (⟨t, iter, ifs, 0⟩ :: rest) scope pos) I D wr St Fin h1) ∧
      ∀ L2 h2 ys, Fin L2 h2 ys → Mk ml ys h2 fun a h3 => Q .next (setL c.L y a) h3)
    (hcap : Caps c scope cl Lcap) (hsub : SubC c.env.cells cl) (hclos : closureFor scope c.env = pure cl) (hnd : (cl.map (·.1)).Nodup) (hkind : scope.kind = .function) (hcell : ∀ y ∈ scope.names, y.2 ≠ .cell)
    (hnames : ∀ y ∈ scope.names, y.2 = .local → scope.names.lookup y.1 = some .local) (hy : c.env.kindOf y = some .local) (hsw : swapsWith (.ListComp elt (⟨t, iter, ifs, 0⟩ :: rest) scope pos) (some (.Name y py)) spos.line c.env = pure true) (hs : ∀ x, foldedSetIterable iter c.env x = pure x := by intro _; kernel_rfl) :
    Ex K c (.Assign [.Name y py] (.ListComp elt (⟨t, iter, ifs, 0⟩ :: rest) scope pos) spos) h Q := fun A G s hA R => by
  rw [exec_Assign_Name_used _ _ _ _ hsw]
  refine wpAny_bind (wpAny_standAt (wpAny_bind ?_))
  show wpAny _ A (do let _ ← comprehension (.ListComp elt (⟨t, iter, ifs, 0⟩ :: rest) scope pos) scope c.env _ (newList []) false (eval iter c.env) (some (assign (.Name y py) c.env))) _ _ s
  refine wpAny_bind (wpAny_mono (wpAny_comprehension_free (use := some (assign (.Name y py) c.env)) (Q := fun _ s' => PostX K c G s Q .next s') rfl hs hclos hkind hnames
    (wpAny_mono (x A G s hA R) (fun xv s₁ h₁ => wpAny_mono h₁ (fun it s₂ h₂ => ?_) fun _ _ e => e) fun _ _ e => e)) (fun _ s' hq => wpAny_pure (wpAny_pure hq)) fun _ _ e => e)
  obtain ⟨I, wr, n, items, pair, Hc, St, G2, h2, rfl, X, x2, R2, st2, hf, Fin, hrun, hQ⟩ := h₂
  have hl2 : Loose c G2 wr := Loose.fresh R hf
  refine comp_core (RR := fun acc C => compPost K.M A NoE (some (assign (.Name y py) c.env)) (fun _ s' => PostX K c G s Q .next s') acc C) rfl X hcap hsub hnd hkind hcell (fun C D hD => hrun I wr St C D X hD) hA R2 st2 hl2 ?_
  intro D C f s5 G5 L5 h5 ys hD hC hDC x5 R5 a5 hns hGC hfin
  obtain ⟨m, hn⟩ := hns
  have hloose : Loose c G5 [C] := fun b hb => by
    rw [List.mem_singleton.mp hb]
    exact ⟨hGC, fun w => by have := (R2.own1 _ c.own0).2; rw [← w] at this; exact absurd this (Nat.not_lt.mpr hC), fun x w => absurd (R2.cell_lt w) (Nat.not_lt.mpr hC)⟩
  obtain ⟨g, av, h6', R6, v6, q6'⟩ := Rel.made R5 a5 (hQ _ _ _ hfin)
  have hDn : G5 D = none := (a5.1 D (List.mem_singleton.mpr rfl)).1
  have hDs : s.heap.objs.size ≤ D := Nat.le_trans x2.size hD
  have xa : Stp ((D :: (wr ++ [C])) ++ c.own) G G5 s s5 := (x2.sub fun a ha => List.mem_append_right _ ha).trans (x5.sub fun a ha => List.mem_append_left _ ha)
  have xb : Stp c.own G G5 s s5 := Stp.dropFresh xa (Stp.refl _ _ _) fun b hb => by
    rcases List.mem_cons.mp hb with q | hb
    · rw [q]; exact hDs
    · rcases List.mem_append.mp hb with q | q
      · exact (hf b q).2
      · rw [List.mem_singleton.mp q]; exact Nat.le_trans x2.size hC
  have xc := xb.late (g := g) hDs hDn
  show wpAny _ A (assign (.Name y py) c.env (.ref D)) _ _ _
  have hloose6 : Loose c (Gput G5 D g) [C] := fun b hb => by
    have e := List.mem_singleton.mp hb
    refine ⟨?_, (hloose b hb).2⟩
    rw [e, Gput_ne _ _ (Ne.symm hDC)]; exact hGC
  refine wpAny_assign_Name (wpAny_mono (wpAny_store (Q := fun L h3 => Q .next L h3) R6 (av := av) v6 (.inl hy) q6') (fun _ s6 ⟨G6, L6, h6, x6, R6', q6⟩ => ?_) fun _ _ z => z)
  have hC6 : C ∉ c.own := fun q => by
    rcases Cx.own_cases q with q | ⟨z, q⟩
    · exact (hloose C (List.mem_singleton.mpr rfl)).2.1 q
    · exact (hloose C (List.mem_singleton.mpr rfl)).2.2 z q
  have hGC6 := (hloose6 C (List.mem_singleton.mpr rfl)).1
  have hn6 : s6.heap.Ns C m := hn.at' fun o e => x6.keep C o hGC6 hC6 e
  have hl6 : Loose c G6 [C] := fun b hb => by
    have e := List.mem_singleton.mp hb
    refine ⟨?_, (hloose b hb).2⟩
    rw [e]; exact x6.new C hGC6 hn.lt
  refine ⟨m, hn6, fun h' hs' => ?_⟩
  have hk : ∀ b o, b ∉ [C] → s6.heap.get? b = some o → h'.get? b = some o := fun b o hb e => (hs'.2 b (fun q => hb (by rw [q]; exact List.mem_singleton.mpr rfl))).trans e
  have x7 : Stp [C] G6 G6 s6 { s6 with heap := h' } := Stp.loose (t := s6.toks) hk (fun b hb => (hl6 b hb).1) (Nat.le_of_eq hs'.1.symm)
  have R7 : Rel K (c.at L6) h6 G6 h' := R6'.loose hl6 hk (Nat.le_of_eq hs'.1.symm)
  have xd : Stp ([C] ++ c.own) G6 G6 s6 { s6 with heap := h' } := x7.sub fun a ha => List.mem_append_left _ ha
  have xe : Stp c.own G G6 s { s6 with heap := h' } := Stp.dropFresh xd (xc.trans x6) fun b hb => by rw [List.mem_singleton.mp hb]; exact Nat.le_trans x2.size hC
  exact ⟨G6, .next, L6, h6, xe, R7, trivial, q6⟩
end
end Mine
end

section
open PySem PySem.W PySem.Calls PyProof.Rows
namespace Mine

noncomputable def SubF (A B : Lc) : Prop := ∀ x v, A.lookup x = some v → B.lookup x = some v
theorem SubF.refl (A : Lc) : SubF A A := fun _ _ e => e
theorem SubL.f {A B : Lc} (x : SubL A B) : SubF A B := fun _ _ e => x.get e
noncomputable def scOk (scope : Scope) : Bool := (match scope.kind with | .function => true | _ => false) && scope.names.all (fun y => match y.2 with | .cell => false | .local => scope.names.lookup y.1 == some .local | _ => true)
noncomputable def capB (env : Env) (scope : Scope) (cl : List (Str × Addr)) (xs : List Str) : Bool :=
  xs.all fun x => (env.kindOf x == some .cell || env.kindOf x == some .free) && ((relabel scope env).names.lookup x == some .cell || (relabel scope env).names.lookup x == some .free) && (cl.lookup x).isSome
/-- a comprehension may run here, and what it reads of the frame around it -/
structure CompOk (c : Cx) (scope : Scope) (cl : List (Str × Addr)) (Lcap : Lc) : Prop where
  clos : closureFor scope c.env = pure cl
  sub : SubC c.env.cells cl
  nd : (cl.map (·.1)).Nodup
  ok : (scOk scope && capB c.env scope cl (Lcap.map (·.1))) = true
  L : SubL Lcap c.L

section
variable {K : Bse} {c : Cx} {h : Hp}
theorem It.mono {e} {Q Q' : Bool → Hp → Prop} (x : It K c e h Q) (hQ : ∀ a h, Q a h → Q' a h) : It K c e h Q' := fun A G s hA R =>
  wpAny_mono (x A G s hA R) (fun _ _ zp => PB.use zp fun G' h' a b q => ⟨G', h', a, b, hQ _ _ q⟩) fun _ _ z => z
theorem Tests.mono {ifs} {Q Q' : Bool → Hp → Prop} (x : Tests K c ifs h Q) (hQ : ∀ a h, Q a h → Q' a h) : Tests K c ifs h Q' := by
  match ifs, x with
  | [], x => exact hQ _ _ x
  | [e], x => exact It.mono x hQ
theorem BindT.mono {t pair as} {Q Q' : Lc → Hp → Prop} (x : BindT K c t pair as h Q) (hQ : ∀ a h, Q a h → Q' a h) : BindT K c t pair as h Q' := by
  cases pair with
  | false =>
    obtain ⟨h1, a, e, y⟩ := x
    exact ⟨h1, a, e, fun A G s u hA R hv => wpAny_mono (y A G s u hA R hv) (fun _ _ zp => PL.use zp fun G' L' h' a b q => ⟨G', L', h', a, b, hQ _ _ q⟩) fun _ _ z => z⟩
  | true =>
    obtain ⟨elts, k, pos, e, h1, h2, y⟩ := x
    exact ⟨elts, k, pos, e, h1, h2, fun A G s us hA R hv => wpAny_mono (y A G s us hA R hv) (fun _ _ zp => PL.use zp fun G' L' h' a b q => ⟨G', L', h', a, b, hQ _ _ q⟩) fun _ _ z => z⟩
theorem EvI.mono {e : Expr} {P P' : Nat → (Nat → List AV) → Bool → (Hp → Prop) → Hp → Prop} (x : EvI K c e h P) (hP : ∀ n items pair Hc h1, P n items pair Hc h1 → P' n items pair Hc h1) : EvI K c e h P' := fun A G s hA R =>
  wpAny_mono (x A G s hA R) (fun v s1 q => wpAny_mono q (fun it s2 ⟨I, wr, n, items, pair, Hc, St, G', h', e, X, x2, R2, st2, hf, p⟩ => ⟨I, wr, n, items, pair, Hc, St, G', h', e, X, x2, R2, st2, hf, hP _ _ _ _ _ p⟩) fun _ _ z => z) fun _ _ z => z

theorem BindT.subF {t : Expr} {pair : Bool} {as : List AV} {L B : Lc} {Q : Lc → Hp → Prop} (hB : SubF B L) (x : BindT K (c.at B) t pair as h Q) : BindT K (c.at L) t pair as h Q := by
  cases pair with
  | false =>
    obtain ⟨h1, a, e, y⟩ := x
    exact ⟨h1, a, e, fun A G s u hA R hv => y A G s u hA (Rel.sub R hB) hv⟩
  | true =>
    obtain ⟨elts, k, pos, e, h1, h2, y⟩ := x
    exact ⟨elts, k, pos, e, h1, h2, fun A G s us hA R hv => y A G s us hA (Rel.sub R hB) hv⟩

theorem scOk.kind {scope : Scope} (o : scOk scope = true) : scope.kind = .function := by
  unfold scOk at o
  rw [Bool.and_eq_true] at o
  obtain ⟨o, _⟩ := o
  split at o
  · assumption
  · cases o
theorem scOk.cell {scope : Scope} (o : scOk scope = true) : ∀ y ∈ scope.names, y.2 ≠ .cell := fun y hy q => by
  unfold scOk at o
  rw [Bool.and_eq_true, List.all_eq_true] at o
  have := o.2 y hy
  rw [q] at this; cases this
theorem scOk.names {scope : Scope} (o : scOk scope = true) : ∀ y ∈ scope.names, y.2 = .local → scope.names.lookup y.1 = some .local := fun y hy q => by
  unfold scOk at o
  rw [Bool.and_eq_true, List.all_eq_true] at o
  have := o.2 y hy
  rw [q] at this; simpa using this
theorem capB.caps {scope : Scope} {cl : List (Str × Addr)} : ∀ {Lcap : Lc}, capB c.env scope cl (Lcap.map (·.1)) = true → SubL Lcap c.L → Caps c scope cl Lcap
  | [], _, _ => trivial
  | (x, v) :: r, o, ⟨e, q⟩ => by
    unfold capB at o
    rw [List.map_cons, List.all_cons, Bool.and_eq_true, Bool.and_eq_true, Bool.and_eq_true, Bool.or_eq_true, Bool.or_eq_true] at o
    refine ⟨⟨e, by simpa using o.1.1.1, by simpa using o.1.1.2, ?_⟩, capB.caps o.2 q⟩
    exact Option.isSome_iff_exists.mp o.1.2

/-- what a comprehension makes -/
noncomputable def CompE (K : Bse) (c : Cx) (elt t iter : Expr) (ifs : List Expr) (rest : List Comprehension) (scope : Scope) (pos : Pos) (cl : List (Str × Addr)) (Lcap : Lc) (h : Hp) (P : List AV → Hp → Prop) : Prop :=
  EvI K c iter h fun n items pair Hc h1 => ∃ Fin : Lc → Hp → List AV → Prop, (∀ I wr St C D, Iter K I wr n items pair Hc St → D ∉ wr → CompRuns K (ccx c scope cl Lcap C) (.ListComp elt (⟨t, iter, ifs, 0⟩ :: rest) scope pos) I D wr St Fin h1) ∧
    ∀ L2 h2 ys, Fin L2 h2 ys → P ys h2
theorem Ev.comp {ml : Bool} {elt t iter ifs rest scope pos cl Lcap} {Q : AV → Hp → Prop} (ok : CompOk c scope cl Lcap) (x : CompE K c elt t iter ifs rest scope pos cl Lcap h fun ys h2 => Mk ml ys h2 Q) (hs : ∀ x, foldedSetIterable iter c.env x = pure x := by intro _; kernel_rfl) :
    Ev K c (.ListComp elt (⟨t, iter, ifs, 0⟩ :: rest) scope pos) h Q := by
  obtain ⟨o1, o2, o3, o4, o5⟩ := ok
  rw [Bool.and_eq_true] at o4
  exact Ev.compM x (capB.caps o4.2 o5) o2 o1 o3 (scOk.kind o4.1) (scOk.cell o4.1) (scOk.names o4.1) hs
theorem Exs.asgComp {L : Lc} {ml : Bool} {elt t iter ifs rest scope pos spos py y stmts cl Lcap} {Q : Fl → Lc → Hp → Prop} (ok : CompOk (c.at L) scope cl Lcap) (x : CompE K (c.at L) elt t iter ifs rest scope pos cl Lcap h fun ys h2 => Mk ml ys h2 fun a h3 => Exs K (c.at (setL L y a)) stmts h3 Q)
    (hy : c.env.kindOf y = some .local := by kernel_rfl) (hsw : swapsWith (.ListComp elt (⟨t, iter, ifs, 0⟩ :: rest) scope pos) (some (.Name y py)) spos.line c.env = pure true := by kernel_rfl) (hs : ∀ x, foldedSetIterable iter c.env x = pure x := by intro _; kernel_rfl) :
    Exs K (c.at L) (.Assign [.Name y py] (.ListComp elt (⟨t, iter, ifs, 0⟩ :: rest) scope pos) spos :: stmts) h Q := by
  obtain ⟨o1, o2, o3, o4, o5⟩ := ok
  rw [Bool.and_eq_true] at o4
  exact Exs.go (Ex.asgCompM x (capB.caps o4.2 o5) o2 o1 o3 (scOk.kind o4.1) (scOk.cell o4.1) (scOk.names o4.1) hy hsw hs)

/-- one clause, no change -/
theorem CompE.one {elt t iter ifs scope pos cl Lcap} {P : List AV → Hp → Prop} (x : EvI K c iter h fun n items pair Hc h1 => Hc h1 ∧ n ≤ 1000 ∧ ∃ f : Nat → Option AV,
      (∀ C i, i < n → BindT K ((ccx c scope cl Lcap C).at Lcap) t pair (items i) h1 fun L1 h2 => SubL Lcap L1 ∧ Tests K ((ccx c scope cl Lcap C).at L1) ifs h2 fun ok h3 => if ok = true then Ev K ((ccx c scope cl Lcap C).at L1) elt h3 fun a h4 => h4 = h1 ∧ f i = some a else h3 = h1 ∧ f i = none) ∧
      P ((List.range n).filterMap f) h1) : CompE K c elt t iter ifs [] scope pos cl Lcap h P := by
  refine EvI.mono x fun n items pair Hc h1 ⟨hc, hn, f, hf, hP⟩ => ?_
  refine ⟨_, fun I wr St C D X hD => CompRuns.last X hD (fun i L h2 ys => i ≤ n ∧ SubF Lcap L ∧ h2 = h1 ∧ ys = (List.range i).filterMap f) (fun i B h2 ys ⟨hi, _, e, e'⟩ => ⟨e ▸ hc, ?_⟩) (fun i L h2 ys hi ⟨_, e1, e2, e3⟩ => ?_) ⟨Nat.zero_le _, SubF.refl _, rfl, rfl⟩, fun L2 h2 ys ⟨hi, e1, e2, e3⟩ => ?_⟩
  · have := List.length_filterMap_le f (List.range i)
    rw [List.length_range] at this
    rw [e', sizeLine_eq]; omega
  · subst e2
    refine BindT.subF (c := ccx c scope cl Lcap C) e1 (BindT.mono (hf C i hi) fun L1 h3 ⟨hL, q⟩ => Tests.mono q fun b h4 q => ?_)
    have e4 : (List.range (i + 1)).filterMap f = ys ++ (f i).toList := by
      rw [List.range_succ, List.filterMap_append, e3]
      simp only [List.filterMap_cons, List.filterMap_nil]
      cases f i <;> rfl
    cases b with
    | false =>
      obtain ⟨q1, q2⟩ := q
      refine ⟨hi, hL.f, q1, ?_⟩
      rw [e4, q2]; simp
    | true =>
      refine Ev.mono q fun a h5 ⟨q1, q2⟩ => ⟨hi, hL.f, q1, ?_⟩
      rw [e4, q2]; rfl
  · rw [e2, e3]; exact hP

/-- two clauses, no change -/
theorem CompE.two {elt t iter ifs t1 i1 ifs1 scope pos cl Lcap} {P : List AV → Hp → Prop} (x : EvI K c iter h fun n items pair Hc h1 => Hc h1 ∧ n ≤ 1000 ∧ ∃ g : Nat → List AV,
      (∀ C i, i < n → BindT K ((ccx c scope cl Lcap C).at Lcap) t pair (items i) h1 fun L1 h2 => Tests K ((ccx c scope cl Lcap C).at L1) ifs h2 fun ok h3 => if ok = true then
        EvI K ((ccx c scope cl Lcap C).at L1) i1 h3 (fun n1 items1 pair1 Hc1 h4 => h4 = h1 ∧ Hc1 h1 ∧ n1 ≤ 10 ∧ ∃ f1 : Nat → AV, g i = (List.range n1).map f1 ∧ SubL Lcap L1 ∧ ∀ j, j < n1 → BindT K ((ccx c scope cl Lcap C).at L1) t1 pair1 (items1 j) h1 fun L2 h5 => SubL L1 L2 ∧ ifs1 = [] ∧
          Ev K ((ccx c scope cl Lcap C).at L2) elt h5 fun a h7 => h7 = h1 ∧ f1 j = a) else SubL Lcap L1 ∧ h3 = h1 ∧ g i = []) ∧
      P ((List.range n).flatMap g) h1) (hs1 : ∀ x C, foldedSetIterable i1 (compEnvC scope cl C c.env) x = pure x) : CompE K c elt t iter ifs [⟨t1, i1, ifs1, 0⟩] scope pos cl Lcap h P := by
  refine EvI.mono x fun n items pair Hc h1 ⟨hc, hn, g, hg, hP⟩ => ?_
  refine ⟨_, fun I wr St C D X hD => CompRuns.two X hD (fun i L h2 ys => i ≤ n ∧ SubF Lcap L ∧ h2 = h1 ∧ ys = (List.range i).flatMap g ∧ ys.length ≤ 10 * i) (fun i B h2 ys ⟨_, _, e, _⟩ => e ▸ hc) (fun i L h2 ys hi ⟨_, e1, e2, e3, e4⟩ => ?_) (fun x => hs1 x C) ⟨Nat.zero_le _, SubF.refl _, rfl, rfl, Nat.zero_le _⟩, fun L2 h2 ys ⟨hi, e1, e2, e3, _⟩ => ?_⟩
  · subst e2
    have e5 : (List.range (i + 1)).flatMap g = ys ++ g i := by
      rw [List.range_succ, List.flatMap_append, e3]; simp
    refine BindT.subF (c := ccx c scope cl Lcap C) e1 (BindT.mono (hg C i hi) fun L1 h3 q => Tests.mono q fun b h4 q => ?_)
    cases b with
    | false =>
      obtain ⟨q1, q2, q3⟩ := q
      refine ⟨hi, q1.f, q2, ?_, by omega⟩
      rw [e5, q3, List.append_nil]
    | true =>
      refine EvI.mono q fun n1 items1 pair1 Hc1 h5 ⟨q1, q2, q3, f1, q4, q5, q6⟩ => ?_
      refine ⟨fun j L h6 zs => j ≤ n1 ∧ SubF L1 L ∧ h6 = h2 ∧ zs = ys ++ (List.range j).map f1, fun j L h6 zs ⟨w1, w2, w3, w4⟩ => ⟨w3 ▸ q2, ?_⟩, fun j L h6 zs hj ⟨w1, w2, w3, w4⟩ => ?_, ⟨Nat.zero_le _, SubF.refl _, q1, by simp⟩, fun L h6 zs ⟨w1, w2, w3, w4⟩ => ⟨hi, fun x v e => w2 x v (q5.get e), w3, ?_, ?_⟩⟩
      · rw [w4, List.length_append, List.length_map, List.length_range, sizeLine_eq]; omega
      · subst w3
        refine BindT.subF (c := ccx c scope cl Lcap C) w2 (BindT.mono (q6 j hj) fun L2 h7 ⟨u1, u2, u3⟩ => ?_)
        subst u2
        change Ev K ((ccx c scope cl Lcap C).at L2) elt h7 _
        refine Ev.mono u3 fun a h8 ⟨u4, u5⟩ => ⟨hj, u1.f, u4, ?_⟩
        rw [w4, List.range_succ, List.map_append, ← u5, List.append_assoc]; rfl
      · rw [w4, e5, q4]
      · rw [w4, List.length_append, List.length_map, List.length_range]; omega
  · rw [e2, e3]; exact hP
end
end Mine
end

section
open PySem PySem.W PySem.Calls PyProof.Rows
namespace Mine

noncomputable def pickN {α : Type} (xs : List α) (lo hi st : Option Int) : List α :=
  (sliceRange (sliceBounds lo hi st xs.length).1 (sliceBounds lo hi st xs.length).2.1 (sliceBounds lo hi st xs.length).2.2).filterMap (xs[·]?)
theorem pickL_map {α : Type} (xs : List α) (f : α → AV) (lo hi st : Option Int) : pickL (xs.map f) lo hi st = (pickN xs lo hi st).map f := by
  unfold pickL pickN
  rw [List.length_map, List.map_filterMap]
  simp only [List.getElem?_map]
theorem pickN_plain {α : Type} (xs : List α) (lo hi : Option Int) : pickN xs lo hi none = (xs.drop (lo.elim 0 (clipAt xs.length))).take (hi.elim xs.length (clipAt xs.length) - lo.elim 0 (clipAt xs.length)) := by
  unfold pickN
  rw [sliceBounds_plain, sliceRange_one]
  have := pick_run xs.toArray (lo.elim 0 (clipAt xs.length)) (hi.elim xs.length (clipAt xs.length) - lo.elim 0 (clipAt xs.length))
  simpa using this
theorem clipAt_nat (n i : Nat) : clipAt n i = min i n := by
  unfold clipAt
  rw [if_neg (Int.not_lt.mpr (Int.natCast_nonneg i))]
  rcases Nat.le_total i n with q | q
  · rw [Int.min_eq_left (Int.ofNat_le.mpr q), Int.max_eq_right (Int.natCast_nonneg _), Int.toNat_natCast, Nat.min_eq_left q]
  · rw [Int.min_eq_right (Int.ofNat_le.mpr q), Int.max_eq_right (Int.natCast_nonneg _), Int.toNat_natCast, Nat.min_eq_right q]
theorem pickN_drop {α : Type} (xs : List α) (i : Nat) : pickN xs (some i) none none = xs.drop i := by
  rw [pickN_plain]
  show (xs.drop (clipAt xs.length i)).take (xs.length - clipAt xs.length i) = _
  rw [clipAt_nat, List.take_of_length_le (by rw [List.length_drop]; omega)]
  by_cases h : i ≤ xs.length
  · rw [Nat.min_eq_left h]
  · rw [Nat.min_eq_right (by omega), List.drop_length, List.drop_eq_nil_iff.mpr (by omega)]
theorem pickN_take {α : Type} (xs : List α) (i : Nat) : pickN xs none (some i) none = xs.take i := by
  rw [pickN_plain]
  show (xs.drop 0).take (clipAt xs.length i - 0) = _
  rw [clipAt_nat, List.drop_zero, Nat.sub_zero]
  by_cases h : i ≤ xs.length
  · rw [Nat.min_eq_left h]
  · rw [Nat.min_eq_right (by omega), List.take_of_length_le (by omega), List.take_of_length_le (by omega)]
theorem pickN_one {α : Type} (xs : List α) (i : Nat) (hi : i < xs.length) : pickN xs (some i) (some (i + 1 : Int)) none = [xs[i]] := by
  rw [pickN_plain]
  show (xs.drop (clipAt xs.length i)).take (clipAt xs.length ((i : Int) + 1) - clipAt xs.length i) = _
  have e : ((i : Int) + 1) = ((i + 1 : Nat) : Int) := by omega
  rw [e, clipAt_nat, clipAt_nat, Nat.min_eq_left (by omega), Nat.min_eq_left (by omega), List.drop_eq_getElem_cons hi, show i + 1 - i = 1 by omega]
  rfl
theorem pickN_rev {α : Type} (xs : List α) : pickN xs none none (some (-1)) = xs.reverse := by
  unfold pickN
  rw [krv_bounds]
  show ((sliceRange ((xs.length : Int) - 1) (-1) (-1)).filterMap (xs[·]?)) = _
  rw [krv_sliceRange, krv_range, List.filterMap_reverse]
  have := krv_all xs.toArray
  simp only [List.size_toArray, List.getElem?_toArray] at this
  rw [this]

section
variable {K : Bse} {c : Cx} {h : Hp} {Q : AV → Hp → Prop}
theorem GetI.listLast {a : AV} {xs : List AV} {x : AV} (ha : readL h a = some (xs ++ [x])) (hQ : Q x h) : GetI K c a (.int (-1)) h Q := fun A G s u v hA R hu hv => by
  obtain ⟨l, vs, n, ho, hxs⟩ := R.listAt ha hu
  obtain ⟨t, rfl⟩ := hv
  obtain ⟨w, hw, hw'⟩ := hxs.get (i := xs.length) (x := x) (by simp)
  have e := hxs.length
  simp only [Array.length_toList, List.length_append, List.length_singleton] at e
  refine ⟨⟨"list", _, ⟨_, ho, rfl⟩, list_getitem_lookup⟩, ?_⟩
  refine wpAny_getItem_list_neg ⟨_, ho, rfl, _, rfl⟩ (by omega) (by omega) (by omega) (x := w) ?_ (PostE.now' R hw' hQ)
  rw [e, show ((-1 : Int) + ((xs.length + 1 : Nat) : Int)).toNat = xs.length by omega]
  simpa using hw
end
end Mine
end

section
open PySem PySem.W PySem.Calls PyProof.Rows
namespace Mine

/-! lighter steps: the side conditions are one flag each -/
noncomputable def nameOk (x : Str) : Bool := !(x == ("__debug__" : Str)) && !(x == ("__classdict__" : Str))
theorem nameOk.d {x : Str} (h : nameOk x = true) : (x == ("__debug__" : Str)) = false := by unfold nameOk at h; rw [Bool.and_eq_true] at h; simpa using h.1
theorem nameOk.c {x : Str} (h : nameOk x = true) : (x == ("__classdict__" : Str)) = false := by unfold nameOk at h; rw [Bool.and_eq_true] at h; simpa using h.2
noncomputable def plainArg : Expr → Bool
  | .Starred .. => false
  | _ => true
theorem plainArg.each {e : Expr} {rest : List Expr} {env : Env} (h : plainArg e = true) : starEach (e :: rest) env = (false, eval e env) :: starEach rest env := by
  cases e <;> first | rfl | cases h
noncomputable def plainCall (as : List Expr) (ks : List Keyword) : Bool := as.all plainArg && ks.all fun k => k.arg.isSome
theorem plainCall.as {ks : List Keyword} {env : Env} : ∀ {as : List Expr}, plainCall as ks = true → (starEach as env).any (·.1) = false
  | [], _ => rfl
  | e :: as, h => by
    unfold plainCall at h
    rw [List.all_cons, Bool.and_eq_true, Bool.and_eq_true] at h
    rw [plainArg.each h.1.1, List.any_cons, Bool.false_or]
    exact plainCall.as (ks := ks) (by unfold plainCall; rw [h.1.2, h.2]; rfl)
theorem plainCall.ks {as : List Expr} {env : Env} : ∀ {ks : List Keyword}, plainCall as ks = true → (keywordEach ks env).all (·.1.isSome) = true
  | [], _ => rfl
  | ⟨n, e, p⟩ :: ks, h => by
    unfold plainCall at h
    rw [List.all_cons, Bool.and_eq_true, Bool.and_eq_true] at h
    rw [arm_keywordEach_cons, List.all_cons, Bool.and_eq_true]
    exact ⟨h.2.1, plainCall.ks (as := as) (by unfold plainCall; rw [h.1, h.2.2]; rfl)⟩
noncomputable def noComp : Expr → Bool
  | .ListComp .. | .SetComp .. | .DictComp .. => false
  | _ => true
theorem noComp.swaps {v : Expr} {t : Option Expr} {n : Nat} {env : Env} (h : noComp v = true) : swapsWith v t n env = pure false := by
  cases v <;> first | rfl | cases h
theorem noComp.sole {v t : Expr} {n : Nat} {env : Env} (h : noComp v = true) : swapsWithSole [t] v n env = pure false := noComp.swaps (t := some t) h
noncomputable def plainT : Expr → Bool
  | .Tuple .. | .List .. | .Starred .. => false
  | _ => true
theorem plainT.stores {t v : Expr} {env : Env} (h : plainT t = true) : swappedStores [t] v env = pure none := by
  cases t <;> first | (cases h; done) | rfl
theorem plainT.each {t : Expr} {env : Env} (h : plainT t = true) : (assignEach [t] env).map (·.2) = [assign t env] := by
  cases t <;> first | (cases h; done) | rfl

theorem getD_at {α : Type} {xs : List α} {d : α} {i : Nat} (hi : i < xs.length) : xs.getD i d = xs[i] := by rw [List.getD_eq_getElem?_getD, List.getElem?_eq_getElem hi]; rfl
theorem getD_map {α : Type} {xs : List α} {f : α → AV} {i : Nat} (hi : i < xs.length) : (xs.map f).getD i .none = f xs[i] := by rw [List.getD_eq_getElem?_getD, List.getElem?_map, List.getElem?_eq_getElem hi]; rfl
theorem getD_mapD {α : Type} {xs : List α} {f : α → AV} {d : α} {i : Nat} (hi : i < xs.length) : (xs.map f).getD i .none = f (xs.getD i d) := by rw [getD_map hi, getD_at hi]
theorem len_lt {α β : Type} {xs : List α} {f : α → β} {i : Nat} (hi : i < (xs.map f).length) : i < xs.length := Nat.lt_of_lt_of_eq hi (List.length_map _)
theorem ibeq {a b : Nat} (h : a ≠ b) : (((a : Nat) : Int) == ((b : Nat) : Int)) = false := by simpa using fun q : (a : Int) = b => h (by omega)
theorem mod4 (b : Nat) : b % 4 = 0 ∨ b % 4 = 1 ∨ b % 4 = 2 ∨ b % 4 = 3 := by omega
theorem mod2 (b : Nat) : b % 2 = 0 ∨ b % 2 = 1 := by omega

section
variable {K : Bse} {c : Cx} {L : Lc} {h : Hp} {Q : AV → Hp → Prop} {d : Nat}
theorem Ev.nm {x pos} {av : AV} (hx : c.L.lookup x = some av) (hQ : Q av h) (ok : nameOk x = true := by kernel_rfl) : Ev K c (.Name x pos) h Q := Ev.name hx hQ (nameOk.d ok) (nameOk.c ok)
theorem Es.cs {e rest} {Q : List AV → Hp → Prop} (x : Ev K c e h fun a h1 => Es K c rest h1 fun as h2 => Q (a :: as) h2) (ok : plainArg e = true := by kernel_rfl) : Es K c (e :: rest) h Q := Es.cons x (plainArg.each ok)
theorem Es.nm {x p rest} {av : AV} {Q : List AV → Hp → Prop} (hx : c.L.lookup x = some av) (y : Es K c rest h fun as h2 => Q (av :: as) h2) (ok : nameOk x = true := by kernel_rfl) : Es K c (.Name x p :: rest) h Q := Es.cons (Ev.nm hx y ok) rfl
theorem Ev.cl {id p args ks pos} (x : Ev K c (.Name id p) h fun f h0 => Es K c args h0 fun as h1 => Ks K c ks h1 fun kv h2 => kv.length = (kwNames ks).length ∧ Kp K f h2 ∧ Ca K d f as ((kwNames ks).zip kv) h2 Q) (hd : c.d = d + 1) (ok : plainCall args ks = true := by kernel_rfl) : Ev K c (.Call (.Name id p) args ks pos) h Q :=
  Ev.call x hd (plainCall.as ok) (plainCall.ks ok)
theorem Ev.binN {x p op r pos} {a : AV} (hx : c.L.lookup x = some a) (y : Ev K c r h fun b h2 => Op2 K c (binaryOp op) a b h2 Q) (ok : nameOk x = true := by kernel_rfl) : Ev K c (.BinOp (.Name x p) op r pos) h Q := Ev.binop (Ev.nm hx y ok)
theorem Ev.binNI {x p op i k q pos} {a : AV} (hx : c.L.lookup x = some a) (y : Op2 K c (binaryOp op) a (.int i) h Q) (ok : nameOk x = true := by kernel_rfl) : Ev K c (.BinOp (.Name x p) op (.Constant (.int i) k q) pos) h Q := Ev.binop (Ev.nm hx (Ev.int y) ok)
theorem Ev.binNN {x p op y q pos} {a b : AV} (hx : c.L.lookup x = some a) (hy : c.L.lookup y = some b) (z : Op2 K c (binaryOp op) a b h Q) (ok : nameOk x = true := by kernel_rfl) (ok' : nameOk y = true := by kernel_rfl) : Ev K c (.BinOp (.Name x p) op (.Name y q) pos) h Q := Ev.binop (Ev.nm hx (Ev.nm hy z ok') ok)
theorem Ev.attrN {x p name pos} {a : AV} (hx : c.L.lookup x = some a) (y : Attr K c name a h Q) (ok : nameOk x = true := by kernel_rfl) : Ev K c (.Attribute (.Name x p) name pos) h Q := Ev.attr (Ev.nm hx y ok) (fun _ => rfl)
theorem As.attrN {x p name pos b} {a : AV} {Q : Lc → Hp → Prop} (hx : c.L.lookup x = some a) (y : SetA K c name a b h fun h2 => Q c.L h2) (ok : nameOk x = true := by kernel_rfl) : As K c (.Attribute (.Name x p) name pos) b h Q := As.attr (Ev.nm hx y ok)
theorem EvI.listN {x p} {a : AV} {P} (hx : c.L.lookup x = some a) (y : ∃ xs, readL h a = some xs ∧ P xs.length (fun i => [xs.getD i .none]) false (fun h => readL h a = some xs) h) (ok : nameOk x = true := by kernel_rfl) : EvI K c (.Name x p) h P := EvI.list (Ev.nm hx y ok)
section
variable {Q : Bool → Hp → Prop}
theorem It.cmpNN {x p op y q pos} {a b : AV} (hx : c.L.lookup x = some a) (hy : c.L.lookup y = some b) (z : Op2 K c (compareOp op) a b h fun v h3 => Tru K c v h3 Q) (ok : nameOk x = true := by kernel_rfl) (ok' : nameOk y = true := by kernel_rfl) (hm : behindInMarks op (.Name y q) = false := by kernel_rfl) : It K c (.Compare (.Name x p) [op] [.Name y q] pos) h Q :=
  It.compare (Ev.nm hx (Ev.nm hy z ok') ok) hm
theorem It.cmpNI {x p op i k q pos} {a : AV} (hx : c.L.lookup x = some a) (z : Op2 K c (compareOp op) a (.int i) h fun v h3 => Tru K c v h3 Q) (ok : nameOk x = true := by kernel_rfl) (hm : behindInMarks op (.Constant (.int i) k q) = false := by kernel_rfl) : It K c (.Compare (.Name x p) [op] [.Constant (.int i) k q] pos) h Q :=
  It.compare (Ev.nm hx (Ev.int z) ok) hm
end
section
variable {Q : Fl → Lc → Hp → Prop} {rest : List Stmt}
/-- a name takes a value; the name is local -/
theorem Exs.asL {x p value pos} (y : Ev K (c.at L) value h fun a h1 => Exs K (c.at (setL L x a)) rest h1 Q) (hk : c.env.kindOf x = some .local := by kernel_rfl) (ok : noComp value = true := by kernel_rfl) : Exs K (c.at L) (.Assign [.Name x p] value pos :: rest) h Q :=
  Exs.asg y (.inl hk) (noComp.sole ok) (plainT.stores rfl) (plainT.each rfl)
/-- .. or a cell -/
theorem Exs.asC {x p value pos} (y : Ev K (c.at L) value h fun a h1 => Exs K (c.at (setL L x a)) rest h1 Q) (hw : c.wr = true) (hk : c.env.kindOf x = some .cell := by kernel_rfl) (hk' : (c.env.cells.lookup x).isSome = true := by kernel_rfl) (ok : noComp value = true := by kernel_rfl) : Exs K (c.at L) (.Assign [.Name x p] value pos :: rest) h Q :=
  Exs.asg y (.inr ⟨hw, hk, hk'⟩) (noComp.sole ok) (plainT.stores rfl) (plainT.each rfl)
theorem Exs.asP {t value pos} (y : Ev K (c.at L) value h fun a h1 => As K (c.at L) t a h1 fun L2 h2 => Exs K (c.at L2) rest h2 Q) (ok : (plainT t && noComp value) = true := by kernel_rfl) : Exs K (c.at L) (.Assign [t] value pos :: rest) h Q := by
  rw [Bool.and_eq_true] at ok
  exact Exs.asgT y (noComp.sole ok.2) (plainT.stores ok.1) (plainT.each ok.1)
theorem Exs.exE {e pos} (x : Ev K (c.at L) e h fun a h1 => Exs K (c.at L) rest h1 Q) (ok : (!(interactive c.env) && noComp e) = true := by kernel_rfl) : Exs K (c.at L) (.Expr e pos :: rest) h Q := by
  rw [Bool.and_eq_true] at ok
  exact Exs.expr x (by simpa using ok.1) (noComp.swaps ok.2)
/-- x.append(e), a statement -/
theorem Exs.app {x p ap e pos epos} {l : Nat} {xs : List AV} (hd : c.d = d + 1) (hx : L.lookup x = some (.obj l)) (hl : h l = some (.list xs)) (y : Ev K (c.at L) e h fun b h1 => ∃ ys, h1 l = some (.list ys) ∧ ys.length ≤ 1000 ∧ Exs K (c.at L) rest (h1.put l (.list (ys ++ [b]))) Q)
    (ok : (!(interactive c.env) && nameOk x && plainArg e) = true := by kernel_rfl) (hf : methodCallForm 1 (backTo pos (starEach [e] c.env)) (backToKw pos (keywordEach [] c.env)) = true := by kernel_rfl) (hp : (ap.endLine == pos.line) = true := by kernel_rfl) :
    Exs K (c.at L) (.Expr (.Call (.Attribute (.Name x p) "append" ap) [e] [] pos) epos :: rest) h Q := by
  rw [Bool.and_eq_true, Bool.and_eq_true] at ok
  obtain ⟨⟨o1, o2⟩, o3⟩ := ok
  have o3' : plainCall [e] [] = true := by unfold plainCall; rw [List.all_cons, o3]; rfl
  refine Exs.expr ?_ (by simpa using o1) rfl
  refine Ev.meth (c := c.at L) (d := d) ?_ hd (fun _ => rfl) (plainCall.as o3') rfl hf hp
  refine Ev.nm hx ?_ o2
  refine Meth.append hl ?_
  refine Es.cs (y.mono fun b h1 q => ?_) o3
  obtain ⟨ys, q1, q2, q3⟩ := q
  refine Es.nil ?_
  refine Ks.nil ⟨rfl, Kp.builtin, ?_⟩
  exact Ca.append q1 q2 q3
end
end
end Mine
end

section
open PySem PySem.W PySem.Calls PyProof.Rows
namespace Mine

noncomputable def stmtI (i : Nat) : Option Stmt := PySem.Challenge.pw_xc0027_01.main.body[i]?
noncomputable def methI (i j : Nat) : Option Stmt := match stmtI i with | some (.ClassDef _ _ _ body _ _ _ _ _ _ _) => body[j]? | _ => none
noncomputable def fdOf (st : Option Stmt) (q : Str) (k : Addr) (dv pm : Value) : FuncData := match st with
  | some (.FunctionDef n a b _ _ _ sc _ _ _) => { name := n, qualname := q ++ n, params := a, body := .stmts b, scope := sc, globals := mainGlobals, closure := [], defaults := dv, kwdefaults := .none, pyModule := pm, code := .ref k, builtins := builtinsNs }
  | _ => default
noncomputable def bodyO (st : Option Stmt) : List Stmt := match st with | some (.FunctionDef _ _ b _ _ _ _ _ _ _) => b | _ => []
noncomputable abbrev fdI (i : Nat) (k : Addr) (dv pm : Value) : FuncData := fdOf (stmtI i) "" k dv pm
noncomputable abbrev bodyI (i : Nat) : List Stmt := bodyO (stmtI i)

noncomputable def mgT : List (Str × Value) := [("SubElement", .ref 30), ("_serialize_text", .ref 37), ("COMPILER_FLAG_NAMES", .ref 38), ("pretty_flags", .ref 45), ("and_", .ref 52), ("lshift", .ref 59), ("or_", .ref 66), ("rshift", .ref 73), ("indexOf", .ref 80),
  ("Whitespace", .ref 142), ("_law_pile", .ref 153), ("_law_table", .ref 160), ("_law_lay", .ref 167), ("_law_move", .ref 174), ("_law_book", .ref 181), ("_law_piles", .ref 188), ("_law_flags", .ref 193), ("_law_words", .ref 198)]
noncomputable def mbT : List (Str × Value) := [("len", .builtin "len"), ("range", .type "range"), ("enumerate", .type "enumerate"), ("zip", .type "zip"), ("hex", .builtin "hex"), ("sum", .builtin "sum"), ("sorted", .builtin "sorted"), ("tuple", .type "tuple"), ("max", .builtin "max")]
/-- a def without defaults -/
noncomputable def FnI (K : Bse) (i : Nat) (a : Addr) : Prop := ∃ k pm, FnOk K a (fdI i k .none pm) (bodyI i)
noncomputable def FnM (K : Bse) (j : Nat) (a : Addr) : Prop := ∃ k pm, FnOk K a (fdOf (methI 14 j) "Whitespace." k .none pm) (bodyO (methI 14 j))
/-- the tuple of SubElement's defaults, and its dict -/
noncomputable def oDft : Obj := { cls := .type "tuple", data := .seq #[.ref 22] }
noncomputable def oEmp : Obj := { cls := .type "dict", data := .dict #[] }
/-- a def that makes lambdas; l is the place of its table -/
noncomputable def FnL (K : Bse) (i : Nat) (a : Addr) (l : Nat) : Prop := ∃ k pm P, FnOk K a (fdI i k .none pm) (bodyI i) ∧ CodeB K k P ∧ K.T P = some l
structure OkK (K : Bse) : Prop where
  mg : ∀ x v, mgT.lookup x = some v → K.mg x = some v
  mb : ∀ x v, mbT.lookup x = some v → K.mg x = none ∧ K.mb x = some v
  f2 : ∃ k pm, FnOk K 30 (fdI 2 k (.ref 23) pm) (bodyI 2)
  dft : K.B 23 = some oDft
  emp : K.B 22 = some oEmp
  f3 : FnI K 3 37
  f6 : FnI K 6 45
  f8 : FnI K 8 52
  f9 : FnI K 9 59
  f10 : FnI K 10 66
  f11 : FnI K 11 73
  f12 : FnI K 12 80
  f16 : FnL K 16 153 0
  f17 : FnL K 17 160 1
  f18 : FnI K 18 167
  f19 : FnI K 19 174
  f20 : FnI K 20 181
  f21 : FnI K 21 188
  f22 : FnI K 22 193
  f23 : FnI K 23 198
  blt : BltB K

section
variable {K : Bse} {c : Cx} {h : Hp} {Q : AV → Hp → Prop} {d : Nat}
theorem Ev.G (hK : OkK K) {x pos} {v : Value} (hv : mgT.lookup x = some v) (hk : c.env.kindOf x = some .globalImplicit) (hQ : Q (.raw v) h) (hd : (x == ("__debug__" : Str)) = false := by rfl) : Ev K c (.Name x pos) h Q := Ev.glob hk (hK.mg x v hv) hQ hd
theorem Ev.B (hK : OkK K) {x pos} {v : Value} (hv : mbT.lookup x = some v) (hk : c.env.kindOf x = some .globalImplicit) (hQ : Q (.raw v) h) (hd : (x == ("__debug__" : Str)) = false := by rfl) : Ev K c (.Name x pos) h Q := Ev.blt hk (hK.mb x v hv).1 (hK.mb x v hv).2 hQ hd

/-- a builtin or a type -/
noncomputable def isB : Value → Bool
  | .builtin _ | .type _ => true
  | _ => false
theorem isB.kp {v : Value} (e : isB v = true) : Kp K (.raw v) h := by
  cases v <;> first | exact Kp.builtin | exact Kp.type | cases e
theorem FnOk.kp {a : Addr} {fd : FuncData} {body : List Stmt} (F : FnOk K a fd body) : Kp K (.raw (.ref a)) h := let ⟨o, ho, hd⟩ := F.ho; Kp.fn ho hd
/-- the program's own defs that are called by name -/
noncomputable def fnT : List (Str × Value) := [("_serialize_text", .ref 37), ("pretty_flags", .ref 45), ("and_", .ref 52), ("lshift", .ref 59), ("or_", .ref 66), ("rshift", .ref 73), ("indexOf", .ref 80),
  ("_law_table", .ref 160), ("_law_lay", .ref 167), ("_law_move", .ref 174), ("_law_book", .ref 181), ("_law_piles", .ref 188), ("_law_flags", .ref 193), ("_law_words", .ref 198)]
theorem FnI.kp {i a} (x : FnI K i a) : Kp K (.raw (.ref a)) h := let ⟨_, _, F⟩ := x; F.kp
theorem fnT.ok (hK : OkK K) {x : Str} {v : Value} (e : fnT.lookup x = some v) : mgT.lookup x = some v ∧ Kp K (.raw v) h := by
  have hm := mem_of_lookup e
  refine ⟨?_, ?_⟩
  · have : fnT.all (fun p => mgT.lookup p.1 == some p.2) = true := by decide +kernel
    exact beq_iff_eq.mp (List.all_eq_true.mp this _ hm)
  · simp only [fnT, List.mem_cons, List.not_mem_nil, or_false, Prod.mk.injEq] at hm
    rcases hm with ⟨_, rfl⟩ | ⟨_, rfl⟩ | ⟨_, rfl⟩ | ⟨_, rfl⟩ | ⟨_, rfl⟩ | ⟨_, rfl⟩ | ⟨_, rfl⟩ | ⟨_, rfl⟩ | ⟨_, rfl⟩ | ⟨_, rfl⟩ | ⟨_, rfl⟩ | ⟨_, rfl⟩ | ⟨_, rfl⟩ | ⟨_, rfl⟩
    · exact hK.f3.kp
    · exact hK.f6.kp
    · exact hK.f8.kp
    · exact hK.f9.kp
    · exact hK.f10.kp
    · exact hK.f11.kp
    · exact hK.f12.kp
    · obtain ⟨_, _, _, F, _⟩ := hK.f17; exact F.kp
    · exact hK.f18.kp
    · exact hK.f19.kp
    · exact hK.f20.kp
    · exact hK.f21.kp
    · exact hK.f22.kp
    · exact hK.f23.kp
/-- a builtin is called -/
theorem Ev.clB (hK : OkK K) {id p args pos} {v : Value} (hd : c.d = d + 1) (hv : mbT.lookup id = some v) (hk : c.env.kindOf id = some .globalImplicit) (y : Es K c args h fun as h1 => Ca K d (.raw v) as [] h1 Q)
    (ok : (nameOk id && isB v && plainCall args []) = true := by kernel_rfl) : Ev K c (.Call (.Name id p) args [] pos) h Q := by
  rw [Bool.and_eq_true, Bool.and_eq_true] at ok
  refine Ev.cl (Ev.B hK hv hk ?_ (nameOk.d ok.1.1)) hd ok.2
  exact fun A G s pos hA R => wpAny_mono (y A G s pos hA R) (fun vs s' zp => PE.use zp fun G' as h' a b e q => ⟨G', as, h', a, b, e, Ks.nil ⟨rfl, isB.kp ok.1.2, q⟩⟩) fun _ _ z => z
/-- a def of the program is called -/
theorem Ev.clG (hK : OkK K) {id p args pos} {v : Value} (hd : c.d = d + 1) (hv : fnT.lookup id = some v) (hk : c.env.kindOf id = some .globalImplicit) (y : Es K c args h fun as h1 => Ca K d (.raw v) as [] h1 Q)
    (ok : (nameOk id && plainCall args []) = true := by kernel_rfl) : Ev K c (.Call (.Name id p) args [] pos) h Q := by
  rw [Bool.and_eq_true] at ok
  refine Ev.cl (Ev.G hK (fnT.ok (h := h) hK hv).1 hk ?_ (nameOk.d ok.1)) hd ok.2
  exact fun A G s pos hA R => wpAny_mono (y A G s pos hA R) (fun vs s' zp => PE.use zp fun G' as h' a b e q => ⟨G', as, h', a, b, e, Ks.nil ⟨rfl, (fnT.ok hK hv).2, q⟩⟩) fun _ _ z => z
theorem Ev.lenN (hK : OkK K) {p x q pos} {a : AV} {xs : List AV} (hd : c.d = d + 1) (hk : c.env.kindOf "len" = some .globalImplicit) (hx : c.L.lookup x = some a) (hr : readL h a = some xs) (hl : xs.length < 2 ^ 62) (hQ : Q (.int xs.length) h) (ok : nameOk x = true := by kernel_rfl) : Ev K c (.Call (.Name "len" p) [.Name x q] [] pos) h Q :=
  Ev.clB hK hd rfl hk (Es.nm hx (Es.nil (Ca.len hr hl hQ)) ok)

theorem and_spec (hK : OkK K) {i j : Int} (hQ : Q (.int (Builtin.bitAnd i j)) h) : Ca K (d + 1) (.raw (.ref 52)) [.int i, .int j] [] h Q := by
  obtain ⟨k, pm, F⟩ := hK.f8
  exact Ca.def (names := ["a", "b"]) F rfl (bind2 fun u v => by kernel_rfl) (by decide +kernel) (by kernel_rfl) fun L => Exs.ret (Ev.binop (Ev.name rfl (Ev.name rfl (Op2.and hQ))))
theorem or_spec (hK : OkK K) {i j : Int} (hQ : Q (.int (Builtin.bitOr i j)) h) : Ca K (d + 1) (.raw (.ref 66)) [.int i, .int j] [] h Q := by
  obtain ⟨k, pm, F⟩ := hK.f10
  exact Ca.def (names := ["a", "b"]) F rfl (bind2 fun u v => by kernel_rfl) (by decide +kernel) (by kernel_rfl) fun L => Exs.ret (Ev.binop (Ev.name rfl (Ev.name rfl (Op2.or hQ))))
theorem lshift_spec (hK : OkK K) {i j : Int} (hj : 0 ≤ j) (hs : (Builtin.Int.intBits i : Int) + j ≤ 2 ^ 27) (hQ : Q (.int (i * 2 ^ j.toNat)) h) : Ca K (d + 1) (.raw (.ref 59)) [.int i, .int j] [] h Q := by
  obtain ⟨k, pm, F⟩ := hK.f9
  exact Ca.def (names := ["a", "b"]) F rfl (bind2 fun u v => by kernel_rfl) (by decide +kernel) (by kernel_rfl) fun L => Exs.ret (Ev.binop (Ev.name rfl (Ev.name rfl (Op2.lshift hj hs hQ))))
theorem rshift_spec (hK : OkK K) {i j : Int} (hj : 0 ≤ j) (hQ : Q (.int (i.fdiv (2 ^ j.toNat))) h) : Ca K (d + 1) (.raw (.ref 73)) [.int i, .int j] [] h Q := by
  obtain ⟨k, pm, F⟩ := hK.f11
  exact Ca.def (names := ["a", "b"]) F rfl (bind2 fun u v => by kernel_rfl) (by decide +kernel) (by kernel_rfl) fun L => Exs.ret (Ev.binop (Ev.name rfl (Ev.name rfl (Op2.rshift hj hQ))))

theorem indexOf_spec (hK : OkK K) {a : AV} {bs : List Bool} {n : Nat} (ha : readL h a = some (bs.map .bool)) (hn : n < bs.length) (h1 : bs[n]? = some true) (h0 : ∀ i, i < n → bs[i]? = some false) (hQ : Q (.int n) h) :
    Ca K (d + 2) (.raw (.ref 80)) [a, .bool true] [] h Q := by
  obtain ⟨k, pm, F⟩ := hK.f12
  refine Ca.def (names := ["a", "b"]) F rfl (bind2 fun u v => by kernel_rfl) (by decide +kernel) (by kernel_rfl) fun L => ?_
  refine Exs.fo (EvI.enum (Ev.B hK rfl rfl ⟨rfl, Ev.name rfl ⟨_, ha, fun i B h' => i ≤ n ∧ h' = h ∧ B = ([("b", .bool true)] : Lc), ?_, ?_, ?_, ?_⟩⟩))
  · rintro i B h' ⟨_, rfl, _⟩; exact ha
  · rintro i B h' hi ⟨h2, rfl, rfl⟩
    have hib : i < bs.length := len_lt hi
    have e : (bs.map AV.bool).getD i .none = .bool bs[i] := getD_map hib
    refine BindT.two (congrArg (fun z => [AV.int i, z]) e) ?_
    refine Exs.ifs (It.boolop (AllT.or_cons (It.compare (Ev.name rfl (Ev.name rfl (Op2.isB (Tru.bool ?_)))))))
    by_cases q : i = n
    · subst q
      have e1 : bs[i] = true := by rw [List.getElem?_eq_getElem hib] at h1; exact Option.some.inj h1
      rw [e1]
      exact Exs.ret (Ev.name rfl hQ)
    · have e1 : bs[i] = false := by
        have := h0 i (by omega)
        rw [List.getElem?_eq_getElem hib] at this; exact Option.some.inj this
      rw [e1]
      refine AllT.or_cons (It.compare (Ev.name rfl (Ev.name rfl (Op2.eqB (Tru.bool (AllT.or_nil (Exs.endS (Exs.next ?_))))))))
      exact ⟨([("b", .bool true)] : Lc), ⟨rfl, trivial⟩, by omega, rfl, rfl⟩
  · rintro B L h' _ ⟨h2, _⟩
    simp at h2; omega
  · exact ⟨([("b", .bool true)] : Lc), ⟨rfl, trivial⟩, Nat.zero_le _, rfl, rfl⟩
end
end Mine
end

section
open PySem PySem.W PySem.Calls PyProof.Rows
namespace Mine

noncomputable def pileStep (sizes : List Int) (x : Int) : List Int :=
  let spot := (x.fmod (sizes.length + 1)).toNat
  let s := if spot = sizes.length then sizes ++ [0] else sizes
  s.set spot (s.getD spot 0 + 1)
noncomputable def pilesOf (ns : List Int) : List Int := ns.foldl pileStep []
theorem pileStep_length (sizes : List Int) (x : Int) : (pileStep sizes x).length ≤ sizes.length + 1 := by
  unfold pileStep
  simp only [List.length_set]
  split <;> simp
theorem pilesOf_length (ns : List Int) : (pilesOf ns).length ≤ ns.length := by
  unfold pilesOf
  suffices ∀ acc : List Int, (ns.foldl pileStep acc).length ≤ acc.length + ns.length by simpa using this []
  induction ns with
  | nil => intro acc; simp
  | cons x ns ih =>
    intro acc
    have := ih (pileStep acc x); have := pileStep_length acc x
    simp only [List.foldl_cons, List.length_cons]; omega
theorem pilesOf_take (ns : List Int) (i : Nat) (hi : i < ns.length) : pilesOf (ns.take (i + 1)) = pileStep (pilesOf (ns.take i)) ns[i] := by
  unfold pilesOf
  rw [List.take_succ_eq_append_getElem hi, List.foldl_append]; rfl

theorem getD_int (ns : List Int) (i : Nat) (hi : i < ns.length) : (ns.map AV.int).getD i .none = .int ns[i] := getD_map hi
theorem put_putL (h : Hp) (l : Nat) (a b : AObj) : (h.put l a).put l b = h.put l b := Hp.put_put h l a b

section
variable {K : Bse} {c : Cx} {h : Hp} {Q : AV → Hp → Prop} {d : Nat}

theorem piles_spec (hK : OkK K) {ns : List Int} (hn : ns.length ≤ 100) (hQ : ∀ l, h l = none → Q (.obj l) (h.put l (.list ((pilesOf ns).map .int)))) : Ca K (d + 2) (.raw (.ref 188)) [.list (ns.map .int)] [] h Q := by
  obtain ⟨k, pm, F⟩ := hK.f21
  refine Ca.def (names := ["numbers"]) F rfl (bind1 fun u => by kernel_rfl) (by decide +kernel) (by kernel_rfl) fun L => ?_
  refine Exs.asg (Ev.listM (Es.nil ⟨by decide, fun l hl => ?_⟩))
  refine Exs.fo (EvI.list (Ev.name rfl ⟨_, rfl, fun i B h' => B = ([("sizes", .obj l)] : Lc) ∧ h' = h.put l (.list ((pilesOf (ns.take i)).map .int)), ?_, ?_, ?_, ?_⟩))
  · rintro i B h' _; rfl
  · rintro i B h' hi ⟨rfl, rfl⟩
    have hib : i < ns.length := len_lt hi
    have hlen : (pilesOf (ns.take i)).length ≤ 100 := by
      have := pilesOf_length (ns.take i); rw [List.length_take] at this; omega
    refine BindT.one (congrArg (fun z => [z]) (getD_int ns i hib)) ?_
    have hstep := pilesOf_take ns i hib
    generalize pilesOf (ns.take i) = S at hlen hstep ⊢
    generalize hxx : ns[i] = x at hstep ⊢
    have hS : ∀ hh : Hp, readL (hh.put l (.list (S.map .int))) (.obj l) = some (S.map .int) := fun hh => by simp [readL]
    have hne : ((S.length : Int) + 1) ≠ 0 := by omega
    refine Exs.asg (Ev.binop (Ev.name rfl (Ev.binop (Ev.call (Ev.B hK rfl rfl (Es.cons (Ev.name rfl (Es.nil (Ks.nil ⟨rfl, Kp.builtin, Ca.len (hS h) (by simp; omega) (Ev.int (Op2.add (Op2.mod (by simpa using hne) ?_)))⟩))))) rfl))))
    simp only [List.length_map]
    have hsp : 0 ≤ x.fmod ((S.length : Int) + 1) := Int.fmod_nonneg_of_pos _ (by omega)
    have hsp2 : x.fmod ((S.length : Int) + 1) < (S.length : Int) + 1 := Int.fmod_lt_of_pos _ (by omega)
    obtain ⟨p, hp⟩ := Int.eq_ofNat_of_zero_le hsp
    rw [hp] at hsp2
    rw [hp]
    have fin : ∀ T : List Int, (p < T.length ∧ T.length ≤ 101) → T = (if p = S.length then S ++ [0] else S) → Exs K ((⟨d + 1, callEnvC (fdI 21 k .none pm) L 188, true, []⟩ : Cx).at [("sizes", .obj l), ("x", .int x), ("spot", .int p)])
        (match bodyI 21 with | _ :: (.For _ _ (_ :: _ :: r) _ _) :: _ => r | _ => []) (h.put l (.list (T.map .int))) (Trn (fun B h' => B = ([("sizes", .obj l)] : Lc) ∧ h' = h.put l (.list ((pilesOf (ns.take (i + 1))).map .int))) (Seq K (⟨d + 1, callEnvC (fdI 21 k .none pm) L 188, true, []⟩ : Cx) (match bodyI 21 with | _ :: _ :: r => r | _ => []) (Rt Q))) := by
      intro T ⟨hT, hT2⟩ eT
      have hrT : readL (h.put l (.list (T.map .int))) (.obj l) = some (T.map .int) := by simp [readL]
      refine Exs.asgT (Ev.binop (Ev.sub (Ev.name rfl (Ev.name rfl (GetI.list hrT (by omega) (by omega) (x := .int T[p]) (by simp [hT]) (Ev.int (Op2.add ?_)))))))
      refine As.sub (Ev.name rfl (Ev.name rfl (SetI.list (Hp.put_self ..) (by simpa using hT) (by simp; omega) ?_)))
      refine Exs.next ⟨([("sizes", .obj l)] : Lc), ⟨rfl, trivial⟩, rfl, ?_⟩
      rw [Hp.put_put, hstep]
      have e : pileStep S x = T.set p (T[p] + 1) := by
        unfold pileStep
        rw [hp]
        simp only [Int.toNat_natCast]
        rw [← eT]
        rw [show T.getD p 0 = T[p] by simp [hT]]
      rw [e, List.map_set]
    refine Exs.ifs (It.compare (Ev.name rfl (Ev.call (Ev.B hK rfl rfl (Es.cons (Ev.name rfl (Es.nil (Ks.nil ⟨rfl, Kp.builtin, Ca.len (hS h) (by simp; omega) (Op2.eq (Tru.bool ?_))⟩))))) rfl)))
    simp only [List.length_map]
    by_cases q : p = S.length
    · have qe : ((p : Int) == (S.length : Int)) = true := by simp [q]
      rw [qe]
      refine Exs.expr (Ev.meth (Ev.name rfl (Meth.append (Hp.put_self ..) (Es.cons (Ev.int (Es.nil (Ks.nil ⟨rfl, Kp.builtin, Ca.append (Hp.put_self ..) (by simp; omega) ?_⟩)))))) rfl)
      refine Exs.endS ?_
      rw [Hp.put_put]
      have := fin (S ++ [0]) (by simp; omega) (by rw [if_pos q])
      rw [List.map_append] at this
      exact this
    · have qe : ((p : Int) == (S.length : Int)) = false := by simpa using (by omega : ¬ (p : Int) = (S.length : Int))
      rw [qe]
      exact Exs.endS (fin S ⟨by omega, by omega⟩ (by rw [if_neg q]))
  · rintro B L h' _ ⟨rfl, rfl⟩
    refine Exs.endS (Exs.ret (Ev.name rfl ?_))
    rw [List.length_map, List.take_length]
    exact hQ l hl
  · exact ⟨([("sizes", .obj l)] : Lc), ⟨rfl, trivial⟩, rfl, rfl⟩
end
end Mine
end

section
set_option maxHeartbeats 4000000
open PySem PySem.W PySem.Calls PyProof.Rows
namespace Mine

noncomputable def tagOf (b : Nat) : Str := if b % 2 = 0 then "pile" else "heap"
noncomputable def namedOf (b : Nat) (cnt : Int) : List (Str × AV) := match b % 4 with
  | 0 => [("kind", .str "pile"), ("born", .int b), ("hand", .int cnt)]
  | 1 => [("kind", .str "pile"), ("born", .str "never")]
  | 2 => []
  | _ => [("born", .int b)]
noncomputable def bookOf (b : Nat) (cnt : Int) : AV := .tup [.str (tagOf b), .str "", .dict (namedOf b cnt)]

section
variable {K : Bse} {c : Cx} {h : Hp} {Q : AV → Hp → Prop} {d : Nat}

theorem le_line {n : Nat} (h : n ≤ 1000) : n ≤ sizeLine := by rw [sizeLine_eq]; omega
theorem Ev.dict1 {x : Str} {k kp v pos} (y : Ev K c v h fun a h1 => Q (.dict [(x, a)]) h1) : Ev K c (.Dict [some (.Constant (.str x) k kp)] [v] pos) h Q :=
  Ev.dictF (Prs.cons (k := k) (kp := kp) (y.mono fun a h1 q => Prs.nil ⟨by simp, q⟩)) rfl (by simp) (by simp)
theorem Ev.dict2 {x x' : Str} {k kp v k' kp' v' pos} (hn : x ≠ x') (y : Ev K c v h fun a h1 => Ev K c v' h1 fun b h2 => Q (.dict [(x, a), (x', b)]) h2) : Ev K c (.Dict [some (.Constant (.str x) k kp), some (.Constant (.str x') k' kp')] [v, v'] pos) h Q :=
  Ev.dictF (Prs.cons (k := k) (kp := kp) (y.mono fun a h1 q => Prs.cons (k := k') (kp := kp') (q.mono fun b h2 q => Prs.nil ⟨by simpa using hn, q⟩))) rfl (by simp) (by simp)
theorem Ev.dict3 {x x' x'' : Str} {k kp v k' kp' v' k'' kp'' v'' pos} (hn : x ≠ x' ∧ x ≠ x'' ∧ x' ≠ x'') (y : Ev K c v h fun a h1 => Ev K c v' h1 fun b h2 => Ev K c v'' h2 fun e h3 => Q (.dict [(x, a), (x', b), (x'', e)]) h3) :
    Ev K c (.Dict [some (.Constant (.str x) k kp), some (.Constant (.str x') k' kp'), some (.Constant (.str x'') k'' kp'')] [v, v', v''] pos) h Q :=
  Ev.dictF (Prs.cons (k := k) (kp := kp) (y.mono fun a h1 q => Prs.cons (k := k') (kp := kp') (q.mono fun b h2 q => Prs.cons (k := k'') (kp := kp'') (q.mono fun e h3 q => Prs.nil ⟨by simp [hn.1, hn.2.1, hn.2.2], q⟩)))) rfl (by simp) (by simp)

theorem book_spec (hK : OkK K) {b : Nat} {cnt : Int} (hQ : Q (bookOf b cnt) h) : Ca K (d + 1) (.raw (.ref 181)) [.int b, .int cnt] [] h Q := by
  obtain ⟨k, pm, F⟩ := hK.f20
  refine Ca.def (names := ["born", "count"]) F rfl (bind2 fun u v => by kernel_rfl) (by decide +kernel) (by kernel_rfl) fun L => ?_
  refine Exs.asL ?_
  refine Ev.sub ?_
  refine Ev.tuple ?_
  refine Es.cs ?_
  refine Ev.dict3 (by decide +kernel) ?_
  refine Ev.str ?_
  refine Ev.nm rfl ?_
  refine Ev.nm rfl ?_
  refine Es.cs ?_
  refine Ev.dict2 (by decide +kernel) ?_
  refine Ev.str ?_
  refine Ev.str ?_
  refine Es.cs ?_
  refine Ev.dict0 ?_
  refine Es.cs ?_
  refine Ev.dict1 ?_
  refine Ev.nm rfl ?_
  refine Es.nil ⟨le_line (Nat.le_of_ble_eq_true rfl), ?_⟩
  refine Ev.binNI rfl ?_
  refine Op2.mod (by decide) ?_
  have hm : ((b : Int).fmod 4) = ((b % 4 : Nat) : Int) := by rw [Int.fmod_eq_emod_of_nonneg _ (by omega)]; omega
  have hlt : b % 4 < 4 := Nat.mod_lt _ (by decide)
  rw [hm]
  refine GetI.tuple (x := .dict (namedOf b cnt)) (by omega) (by simp; omega) (by simp) ?_ ?_
  · unfold namedOf
    rcases mod4 b with q | q | q | q <;> rw [q] <;> rfl
  refine Exs.ret ?_
  refine Ev.tuple ?_
  refine Es.cs ?_
  refine Ev.sub ?_
  refine Ev.tuple ?_
  refine Es.cs ?_
  refine Ev.str ?_
  refine Es.cs ?_
  refine Ev.str ?_
  refine Es.nil ⟨le_line (Nat.le_of_ble_eq_true rfl), ?_⟩
  refine Ev.binNI rfl ?_
  refine Op2.mod (by decide) ?_
  have hm2 : ((b : Int).fmod 2) = ((b % 2 : Nat) : Int) := by rw [Int.fmod_eq_emod_of_nonneg _ (by omega)]; omega
  have hlt2 : b % 2 < 2 := Nat.mod_lt _ (by decide)
  rw [hm2]
  refine GetI.tuple (x := .str (tagOf b)) (by omega) (by simp; omega) (by simp) ?_ ?_
  · unfold tagOf
    rcases mod2 b with q | q <;> rw [q] <;> rfl
  refine Es.cs ?_
  refine Ev.str ?_
  refine Es.nm rfl ?_
  exact Es.nil ⟨le_line (by simp), hQ⟩
end
end Mine
end

section
set_option maxHeartbeats 4000000
open PySem PySem.W PySem.Calls PyProof.Rows
namespace Mine

/-- what stays: all but the places of S -/
noncomputable def Keep (h h' : Hp) (S : List Nat) : Prop := ∀ l o, h l = some o → l ∉ S → h' l = some o
theorem Keep.refl (h : Hp) (S) : Keep h h S := fun _ _ e _ => e
theorem Keep.trans {h h' h'' : Hp} {S} (x : Keep h h' S) (y : Keep h' h'' S) : Keep h h'' S := fun l o e n => y l o (x l o e n) n
theorem Keep.new {h : Hp} {l : Nat} {o : AObj} (e : h l = none) {S} : Keep h (h.put l o) S := fun k o' e' _ => by
  rw [Hp.put_ne]; exact e'
  rintro rfl; rw [e] at e'; cases e'
theorem Keep.upd {h : Hp} {l : Nat} {o : AObj} {S} (hm : l ∈ S) : Keep h (h.put l o) S := fun k o' e' n => by
  rw [Hp.put_ne]; exact e'
  rintro rfl; exact n hm
theorem Keep.sub {h h' : Hp} {S T} (x : Keep h h' S) (hs : ∀ l ∈ S, l ∈ T) : Keep h h' T := fun l o e n => x l o e fun m => n (hs l m)

noncomputable def kindA : AObj → Nat
  | .list _ => 0 | .attrs _ => 1 | .dict _ => 2 | .func _ none => 3 | .func _ (some _) => 4 | .lam _ _ => 5 | .inst _ _ => 6 | .iattrs _ => 7 | .tab _ => 8 | _ => 9
theorem Keep.ki {h h' : Hp} {l x : Nat} {o o' : AObj} (k : Keep h h' [x]) (e : h l = some o) (ex : h x = some o') (ho : (kindA o == kindA o') = false := by rfl) : h' l = some o :=
  k l o e fun m => by rw [List.mem_singleton.mp m, ex] at e; cases e; simp at ho
theorem Keep.fr {h h' : Hp} {l x : Nat} {o : AObj} (k : Keep h h' [x]) (e : h l = some o) (ex : h x = none) : h' l = some o :=
  k l o e fun m => by rw [List.mem_singleton.mp m, ex] at e; cases e
/-- a table of code objects -/
noncomputable def TQ (h : Hp) (l : Nat) (q : Str) : Prop := ∃ es, h l = some (.tab es) ∧ ∀ e ∈ es, e.2.2 = q
theorem TQ.ki {h h' : Hp} {l x : Nat} {q : Str} {o' : AObj} (t : TQ h l q) (k : Keep h h' [x]) (ex : h x = some o') (ho : (8 == kindA o') = false := by rfl) : TQ h' l q :=
  let ⟨es, e1, e2⟩ := t; ⟨es, k.ki e1 ex ho, e2⟩
theorem tabAt_q {pos : Pos} {r q : Str} : ∀ {es : List (Int × Int × Str)}, (∀ e ∈ es, e.2.2 = q) → tabAt pos es = some r → r = q
  | [], _, e => by cases e
  | (a, b, x) :: es, h, e => by
    unfold tabAt at e
    split at e
    · cases e; exact h _ (List.mem_cons_self ..)
    · exact tabAt_q (fun e m => h e (List.mem_cons_of_mem _ m)) e
theorem tabNew_q {pos : Pos} {q : Str} {es : List (Int × Int × Str)} (h : ∀ e ∈ es, e.2.2 = q) : ∀ e ∈ tabNew pos q es, e.2.2 = q := fun e m => by
  unfold tabNew at m
  split at m
  · exact h e m
  · rcases List.mem_append.mp m with m | m
    · exact h e m
    · rw [List.mem_singleton.mp m]

section
variable {K : Bse} {c : Cx} {h : Hp} {Q : AV → Hp → Prop} {d : Nat}
theorem Ev.lamQ {params : Arguments} {body : Expr} {scope : Scope} {pos : Pos} {cc P : Addr} {lt : Nat} {clos : List (Str × Addr)} {q : Str} (hcode : c.env.code = .ref cc) (hcc : CodeB K cc P) (hT : K.T P = some lt) (hb : BltB K) (hqq : c.env.qual ++ "<lambda>" = q) (he : TQ h lt q)
    (hdef : defaultsOf params c.env = ([], [])) (hclo : closureFor scope c.env = pure clos)
    (hQ : ∀ fd l h', IsLam fd q params body scope clos → h l = none → h' l = some (.lam fd []) → Keep h h' [lt] → TQ h' lt q → (∀ k, k ≠ l → h k = none → h' k = none) → Q (.obj l) h') :
    Ev K c (.Lambda params body scope pos) h Q := by
  obtain ⟨es, e1, e2⟩ := he
  refine Ev.lam hcode hcc hT hb e1 hdef hclo (fun r hr => ?_) fun fd l hl hn => ?_
  · rw [hqq]; exact tabAt_q e2 hr
  rw [hqq] at hl hn ⊢
  have hne : l ≠ lt := fun w => by rw [w, Hp.put_self] at hn; cases hn
  have hn' : h l = none := by rw [Hp.put_ne _ _ hne] at hn; exact hn
  refine hQ fd l _ hl hn' (Hp.put_self ..) ((Keep.upd (List.mem_singleton.mpr rfl)).trans (Keep.new hn)) ⟨_, by rw [Hp.put_ne _ _ (Ne.symm hne), Hp.put_self], tabNew_q e2⟩ fun k hk hk0 => ?_
  rw [Hp.put_ne _ _ hk, Hp.put_ne]; exact hk0
  rintro rfl; rw [e1] at hk0; cases hk0

theorem SetA.funcK {l dl : Nat} {fd : FuncData} {es : Lc} {name : Str} {b : AV} {Q : Hp → Prop} (h1 : h l = some (.func fd (some dl))) (h2 : h dl = some (.attrs es)) (hsz : Nat.ble es.length 1000 = true) (hn : fnPlain name) (hQ : ∀ h', h' dl = some (.attrs (setL es name b)) → Keep h h' [dl] → Q h') : SetA K c name (.obj l) b h Q :=
  SetA.func h1 h2 (Nat.le_of_ble_eq_true hsz) hn (hQ _ (Hp.put_self ..) (Keep.upd (List.mem_singleton.mpr rfl)))
theorem SetA.lamK {l : Nat} {fd : FuncData} {cl : List (Str × AV)} {name : Str} {b : AV} {Q : Hp → Prop} (h1 : h l = some (.lam fd cl)) (hn : fnPlain name) (hQ : ∀ dl h', h dl = none → h' l = some (.func fd (some dl)) → h' dl = some (.attrs [(name, b)]) → Keep h h' [l] → Q h') : SetA K c name (.obj l) b h Q :=
  SetA.lam0 h1 hn fun dl hd => by
    have hne : dl ≠ l := fun w => by rw [w, h1] at hd; cases hd
    exact hQ dl _ hd (Hp.put_self ..) (by rw [Hp.put_ne _ _ hne, Hp.put_self]) ((Keep.new hd).trans (Keep.upd (List.mem_singleton.mpr rfl)))
theorem fp_tag : fnPlain "tag" := by unfold fnPlain; kernel_rfl
theorem fp_attrib : fnPlain "attrib" := by unfold fnPlain; kernel_rfl
theorem fp_text : fnPlain "text" := by unfold fnPlain; kernel_rfl
noncomputable def qPile : Str := "_law_pile" ++ ".<locals>." ++ "<lambda>"
noncomputable def pileA (tag : Str) (a : AV) (text : Str) : List (Str × AV) := [("tag", .str tag), ("attrib", a), ("text", .str text)]
theorem pile_spec (hK : OkK K) {tag : Str} {a : AV} (ht : TQ h 0 qPile) (hQ : ∀ l dl fd h', h l = none → h dl = none → Keep h h' [0] → TQ h' 0 qPile → h' l = some (.func fd (some dl)) → h' dl = some (.attrs (pileA tag a "")) → Q (.obj l) h') :
    Ca K (d + 1) (.raw (.ref 153)) [.str tag, a] [] h Q := by
  obtain ⟨k, pm, P, F, hcb, hT⟩ := hK.f16
  refine Ca.def (names := ["tag", "attrib"]) F rfl (bind2 fun u v => by kernel_rfl) (by decide +kernel) (by kernel_rfl) fun L => ?_
  refine Exs.asL ?_
  refine Ev.lamQ (clos := []) rfl hcb hT hK.blt (q := qPile) (by kernel_rfl) ht (by kernel_rfl) (by kernel_rfl) fun fd l h1 hl hn hl1 k1 t1 n1 => ?_
  refine Exs.asP ?_
  refine Ev.nm rfl ?_
  refine As.attrN rfl ?_
  refine SetA.lamK hl1 fp_tag fun dl h2 hdl f2 a2 k2 => ?_
  refine Exs.asP ?_
  refine Ev.nm rfl ?_
  refine As.attrN rfl ?_
  refine SetA.funcK f2 a2 rfl fp_attrib fun h3 a3 k3 => ?_
  refine Exs.asP ?_
  refine Ev.str ?_
  refine As.attrN rfl ?_
  refine SetA.funcK (k3.ki f2 a2) a3 rfl fp_text fun h4 a4 k4 => ?_
  refine Exs.ret ?_
  refine Ev.nm rfl ?_
  have hdl0 : h dl = none := by
    cases e : h dl with
    | none => rfl
    | some o =>
      by_cases w : dl = 0
      · subst w; obtain ⟨es, e1, _⟩ := t1; rw [hdl] at e1; cases e1
      · rw [k1 dl o e (by simpa using w)] at hdl; cases hdl
  refine hQ l dl fd _ hn hdl0 ?_ (((t1.ki k2 hl1).ki k3 a2).ki k4 a3) (k4.ki (k3.ki f2 a2) a3) a4
  intro m o e hm
  have e1 : m ≠ l := by rintro rfl; rw [hn] at e; cases e
  have e2 : m ≠ dl := by rintro rfl; rw [hdl0] at e; cases e
  exact k4 m o (k3 m o (k2 m o (k1 m o e hm) (by simpa using e1)) (by simpa using e2)) (by simpa using e2)
end
end Mine
end

section
set_option maxHeartbeats 4000000
open PySem PySem.W PySem.Calls PyProof.Rows
namespace Mine

/-- fd is made by the lambda e -/
noncomputable def IsLamE (fd : FuncData) (q : Str) (e : Expr) (clos : List (Str × Addr)) : Prop := match e with
  | .Lambda params body scope pos => IsLam fd q params body scope clos
  | _ => False
noncomputable def lamT (j : Nat) : Expr := match (bodyI 17)[j]? with | some (.Assign _ v _) => v | _ => default
noncomputable def qTab : Str := "_law_table" ++ ".<locals>." ++ "<lambda>"

/-- where a table lies -/
structure TB where
  T : Nat
  D : Nat
  P : Nat
  A : Nat
  I : Nat
noncomputable def tabA (b : TB) (tail : Str) : List (Str × AV) := [("piles", .obj b.P), ("tail", .str tail), ("makeelement", .raw (.ref 153)), ("append", .obj b.A), ("itertext", .obj b.I)]
/-- a pile: its function, its dictionary, its text -/
structure Pl where
  f : Nat
  d : Nat
  text : Str
noncomputable def PileAt (h : Hp) (p : Pl) : Prop := (∃ fd, h p.f = some (.func fd (some p.d))) ∧ ∃ tag a, h p.d = some (.attrs (pileA tag a p.text))
structure Tbl (h : Hp) (b : TB) (tail : Str) (ps : List Pl) : Prop where
  T : ∃ fd, h b.T = some (.func fd (some b.D))
  D : h b.D = some (.attrs (tabA b tail))
  P : h b.P = some (.list (ps.map fun p => .obj p.f))
  A : ∃ fd k, h b.A = some (.lam fd [("piles", .obj b.P)]) ∧ IsLamE fd qTab (lamT 5) [("piles", k)]
  I : ∃ fd k, h b.I = some (.lam fd [("piles", .obj b.P)]) ∧ IsLamE fd qTab (lamT 6) [("piles", k)]
  at_ : ∀ p ∈ ps, PileAt h p
  nd : (b.D :: ps.map (·.d)).Nodup

theorem relab_at {h : Hp} {ls : List Nat} {x : Str} {av : AV} {l : Nat} {o : AObj} (e : h l = some o) (ho : (kindA o == 5) = false := by rfl) : relab h ls x av l = some o := by
  unfold relab
  split
  · rw [e]; cases o <;> first | rfl | cases ho
  · exact e
theorem relab_out {h : Hp} {ls : List Nat} {x : Str} {av : AV} {l : Nat} {o : AObj} (e : h l = some o) (hn : l ∉ ls) : relab h ls x av l = some o := by
  unfold relab; rw [if_neg hn]; exact e
theorem relab_in {h : Hp} {ls : List Nat} {x : Str} {av : AV} {l : Nat} {fd cl} (hm : l ∈ ls) (e : h l = some (.lam fd cl)) : relab h ls x av l = some (.lam fd [(x, av)]) := by
  unfold relab; rw [if_pos hm, e]
theorem fp_piles : fnPlain "piles" := by unfold fnPlain; kernel_rfl
theorem fp_tail : fnPlain "tail" := by unfold fnPlain; kernel_rfl
theorem fp_make : fnPlain "makeelement" := by unfold fnPlain; kernel_rfl
theorem fp_append : fnPlain "append" := by unfold fnPlain; kernel_rfl
theorem fp_itertext : fnPlain "itertext" := by unfold fnPlain; kernel_rfl

section
variable {K : Bse} {c : Cx} {h : Hp} {Q : AV → Hp → Prop} {d : Nat}
theorem table_spec (hK : OkK K) {tail : Str} (ht : TQ h 1 qTab) (hQ : ∀ (b : TB) h', h b.P = none → Tbl h' b tail [] → Keep h h' [1] → TQ h' 1 qTab → Q (.obj b.T) h') :
    Ca K (d + 1) (.raw (.ref 160)) [.str tail] [] h Q := by
  obtain ⟨k, pm, P, F, hcb, hT⟩ := hK.f17
  refine Ca.ofC (CaC.fnP (names := ["tail"]) (x0 := "piles") F rfl (bind1 fun u => by kernel_rfl) (by decide +kernel) (by kernel_rfl) (by kernel_rfl) fun L k0 hk0 => ?_)
  show Exs K ((⟨d, callEnvC (fdI 17 k .none pm) L 160, true, []⟩ : Cx).at [("tail", .str tail)]) (bodyI 17) h _
  have ek : k0 = L + 1 := by
    have : (callEnvC (fdI 17 k .none pm) L 160).cells.lookup ("piles" : Str) = some (L + 1) := by kernel_rfl
    rw [this] at hk0; exact (Option.some.inj hk0).symm
  refine Exs.asC ?_ rfl
  refine Ev.listM ?_
  refine Es.nil ⟨by decide, fun lP hP => ?_⟩
  refine Exs.asL ?_
  have t0 : TQ (h.put lP (.list [])) 1 qTab := let ⟨es, e1, e2⟩ := ht; ⟨es, Keep.new (S := []) hP 1 _ e1 (fun z => nomatch z), e2⟩
  refine Ev.lamQ (clos := []) rfl hcb hT hK.blt (q := qTab) (by kernel_rfl) (lt := 1) t0 (by kernel_rfl) (by kernel_rfl) fun fd lT h1 hl hn hl1 k1 t1 n1 => ?_
  have p1 : h1 lP = some (.list []) := let ⟨es, e1, e2⟩ := t0; k1.ki (Hp.put_self ..) e1
  refine Exs.asP ?_
  refine Ev.nm rfl ?_
  refine As.attrN rfl ?_
  refine SetA.lamK hl1 fp_piles fun dl h2 hdl f2 a2 k2 => ?_
  have p2 := k2.ki p1 hl1
  refine Exs.asP ?_
  refine Ev.nm rfl ?_
  refine As.attrN rfl ?_
  refine SetA.funcK f2 a2 rfl fp_tail fun h3 a3 k3 => ?_
  have p3 := k3.ki p2 a2
  have f3 := k3.ki f2 a2
  refine Exs.asP ?_
  refine Ev.G hK rfl rfl ?_
  refine As.attrN rfl ?_
  refine SetA.funcK f3 a3 rfl fp_make fun h4 a4 k4 => ?_
  have p4 := k4.ki p3 a3
  have f4 := k4.ki f3 a3
  refine Exs.asP ?_
  refine Ev.lamQ (clos := [("piles", L + 1)]) rfl hcb hT hK.blt (q := qTab) (by kernel_rfl) (lt := 1) (((t1.ki k2 hl1).ki k3 a2).ki k4 a3) (by kernel_rfl) (by kernel_rfl) fun fdA lA h5 hlA hnA hA k5 t5 n5 => ?_
  have p5 := let ⟨es, e1, e2⟩ := ((t1.ki k2 hl1).ki k3 a2).ki k4 a3; k5.ki p4 e1
  have f5 := let ⟨es, e1, e2⟩ := ((t1.ki k2 hl1).ki k3 a2).ki k4 a3; k5.ki f4 e1
  have a5 := let ⟨es, e1, e2⟩ := ((t1.ki k2 hl1).ki k3 a2).ki k4 a3; k5.ki a4 e1
  refine As.attrN rfl ?_
  refine SetA.funcK f5 a5 rfl fp_append fun h6 a6 k6 => ?_
  have p6 := k6.ki p5 a5
  have f6 := k6.ki f5 a5
  have A6 := k6.ki hA a5
  have t6 := t5.ki k6 a5
  refine Exs.asP ?_
  refine Ev.lamQ (clos := [("piles", L + 1)]) rfl hcb hT hK.blt (q := qTab) (by kernel_rfl) (lt := 1) t6 (by kernel_rfl) (by kernel_rfl) fun fdI lI h7 hlI hnI hI k7 t7 n7 => ?_
  obtain ⟨es6, e6, _⟩ := t6
  have p7 := k7.ki p6 e6
  have f7 := k7.ki f6 e6
  have a7 := k7.ki a6 e6
  have A7 := k7.ki A6 e6
  refine As.attrN rfl ?_
  refine SetA.funcK f7 a7 rfl fp_itertext fun h8 a8 k8 => ?_
  have p8 := k8.ki p7 a7
  have f8 := k8.ki f7 a7
  have A8 := k8.ki A7 a7
  have I8 := k8.ki hI a7
  have t8 := t7.ki k8 a7
  refine Exs.ret ?_
  refine Ev.nm rfl ?_
  refine ⟨.obj lP, [lA, lI], rfl, ?_, ?_⟩
  · subst ek
    intro l hm
    rcases List.mem_cons.mp hm with rfl | hm
    · obtain ⟨_, _, _, e⟩ := hlA; exact ⟨_, A8, by rw [e]⟩
    · rw [List.mem_singleton.mp hm]; obtain ⟨_, _, _, e⟩ := hlI; exact ⟨_, I8, by rw [e]⟩
  have mA : lA ∈ [lA, lI] := List.mem_cons_self ..
  have mI : lI ∈ [lA, lI] := List.mem_cons_of_mem _ (List.mem_cons_self ..)
  obtain ⟨es8, e8, q8⟩ := t8
  refine hQ ⟨lT, dl, lP, lA, lI⟩ _ hP ⟨⟨_, relab_at f8⟩, relab_at a8, relab_at p8, ⟨_, _, relab_in mA A8, hlA⟩, ⟨_, _, relab_in mI I8, hlI⟩, (fun p hp => nomatch hp), by simp⟩ ?_ ⟨es8, relab_at e8, q8⟩
  intro m o e hm
  have n1 : m ≠ 1 := by simpa using hm
  have e0 := Keep.new (o := .list []) (S := [1]) hP m o e hm
  have e1 := k1 m o e0 hm
  have e2 := k2 m o e1 (by rw [List.mem_singleton]; rintro rfl; rw [hn] at e0; cases e0)
  have nd : m ∉ [dl] := by rw [List.mem_singleton]; rintro rfl; rw [hdl] at e1; cases e1
  have e4 := k4 m o (k3 m o e2 nd) nd
  have e6 := k6 m o (k5 m o e4 hm) nd
  refine relab_out (k8 m o (k7 m o e6 hm) nd) ?_
  intro hx
  rcases List.mem_cons.mp hx with rfl | hx
  · rw [hnA] at e4; cases e4
  · rw [List.mem_singleton.mp hx, hnI] at e6; cases e6
end
end Mine
end

section
set_option maxHeartbeats 4000000
open PySem PySem.W PySem.Calls PyProof.Rows
namespace Mine

section
variable {prog : Program} {w : World} {A : Around} {E : Value → Shared → Prop} {s : Shared}
theorem nsSet_pairs {d : Addr} {kvs : List (Str × Value)} {k : Str} {v : Value} {Q : Unit → Shared → Prop} (hm : s.heap.DictOf (strKind prog w) d kvs) (hnot : k ∉ kvs.map (·.1))
    (hQ : ∀ h', h'.DictOf (strKind prog w) d (kvs ++ [(k, v)]) → Heap.SameBut d s.heap h' → Q () { s with heap := h', toks := s.toks + 1 }) :
    wpAny (model prog w) A (nsSet d k v) Q E s := by
  obtain ⟨o, es, ep, ho, hc, hd, hk, hp, hn⟩ := hm
  have hkey : (strKind prog w).is k (.str k s.toks) = true := strKind_is prog w k s.toks
  have hr : es.any (·.refKey) = false := by
    rw [Array.any_eq_false']; intro e he
    obtain ⟨x, h1, _⟩ := hk e he
    obtain ⟨t, h2⟩ := Value.isStrOf_shape h1
    simp [DictEntry.refKey, h2]
  have hi : es.findIdx? (·.key.isStr k) = none := by
    have e1 : es.toList.findIdx? (fun e => (strKind prog w).is k e.key) = none := by
      rw [hp.findIdx k]
      exact List.findIdx?_eq_none_iff.mpr fun x hx => by
        have : x.1 ≠ k := fun q => hnot (q ▸ List.mem_map_of_mem hx)
        simpa using this
    rw [List.findIdx?_eq_none_iff] at e1
    rw [Array.findIdx?_eq_none_iff]
    intro e he
    have := e1 e (by simpa using he)
    obtain ⟨x, h1, _⟩ := hk e he
    obtain ⟨t, h2⟩ := Value.isStrOf_shape h1
    rw [h2] at this ⊢
    show (x == k) = false
    exact this
  have c : aRefKeyMayBeTheName k es = false := by
    rw [aRefKeyMayBeTheName_at, hr, Bool.and_false]
  have e : Obj.putName k (hashStr w k) (.str k s.toks) v o = o.mapDictKeys (·.push ⟨hashStr w k, .str k s.toks, v⟩) := by
    obtain ⟨c, d, dt, sl⟩ := o
    subst hd
    rw [Obj.putName_eq]
    simp only [Obj.putNameByArray, hi]
    rfl
  unfold nsSet
  refine wpAny_bind (wpAny_bind (wpAny_askSetting (wpAny_pure (wpAny_bind (wpAny_mkText (wpAny_bind (wpAny_loadPart ho ?_)))))))
  rw [hd]
  dsimp only
  rw [c]
  refine wpAny_updatePart ho (hQ _ ⟨o.mapDictKeys (·.push ⟨hashStr w k, .str k s.toks, v⟩), _, ep + 1, ?_, hc.mapDictKeys _, Obj.data_mapDictKeys hd _, hk.push hkey _, ?_, ?_⟩ (Heap.SameBut.update ..))
  · refine (Heap.get?_update_self _ ho ?_).trans (congrArg some e)
    show (Obj.putName k (hashStr w k) (.str k s.toks) v o).isFreed = false
    rw [e]; exact Obj.isFreed_of_dict (Obj.data_mapDictKeys hd _)
  · have := hp.append hkey (hashStr w k) v
    obtain ⟨l⟩ := es
    simpa using this
  · rw [List.map_append, List.nodup_append]
    refine ⟨hn, by simp, fun a ha b hb e => ?_⟩
    simp only [List.map_cons, List.map_nil, List.mem_singleton] at hb
    exact hnot (hb ▸ e ▸ ha)
end

section
variable {K : Bse} {c : Cx} {h : Hp} {G G' : Gh} {s s' : Shared} {A : Around} {Q : AV → Hp → Prop} {d : Nat}
/-- the dict of the surplus keywords is filled -/
theorem fill_run {D : Addr} {P : PUnit → Shared → Prop} : ∀ {ex : List (Str × Value)} {fs es : Lc} {s : Shared}, AccD K c G s.heap D es → Rel K c h G s.heap → ex.map (·.1) = fs.map (·.1) → VRs G (ex.map (·.2)) (fs.map (·.2)) → ((es ++ fs).map (·.1)).Nodup →
    (∀ s', Stp [D] G G s s' → Rel K c h G s'.heap → AccD K c G s'.heap D (es ++ fs) → P ⟨⟩ s') →
    wpAny K.M A (forIn ex PUnit.unit fun x _ => (nsSet D x.1 x.2 >>= fun _ => pure (ForInStep.yield PUnit.unit))) P NoE s
  | [], [], es, s, x, R, _, _, _, hP => by
    rw [List.forIn_nil]
    refine wpAny_pure (hP s (Stp.refl _ _ _) R ?_)
    rw [List.append_nil]; exact x
  | (k, v) :: ex, (k', a) :: fs, es, s, x, R, h1, h2, h3, hP => by
    simp only [List.map_cons, List.cons.injEq] at h1
    obtain ⟨rfl, h1⟩ := h1
    rw [List.forIn_cons]
    obtain ⟨hl, o, kvs, ho, hd, e1, e2⟩ := id x
    have hnew : k ∉ kvs.map (·.1) := by
      rw [e1]
      rw [List.map_append, List.map_cons, List.nodup_append] at h3
      exact fun m => h3.2.2 k m k (List.mem_cons_self ..) rfl
    refine wpAny_bind (wpAny_bind (nsSet_pairs (Heap.dictOf_iff.mpr ⟨o, ho, hd⟩) hnew fun h' hd' hs' => wpAny_pure ?_))
    obtain ⟨st, R', x'⟩ := x.set (t := s.toks + 1) R hs' (fs := es ++ [(k, a)]) hd' (by simp [e1]) (by rw [List.map_append, List.map_append]; exact e2.append ⟨h2.1, trivial⟩)
    refine fill_run (fs := fs) (es := es ++ [(k, a)]) x' R' h1 h2.2 (by rw [List.append_assoc]; exact h3) fun s' st' R2 x2 => hP s' (st.trans st') R2 ?_
    rw [List.append_assoc] at x2; exact x2
  | [], _ :: _, _, _, _, _, h, _, _, _ => by simp at h
  | _ :: _, [], _, _, _, _, h, _, _, _ => by simp at h

theorem wp_pkA {α : Type} {F : Frag} {M : Model} {E : Value → Shared → Prop} {P : α → Shared → Prop} {o : Obj} (X : F.In s.heap) :
    ∀ (t : Sem α) (g : Addr → Sem α), peekA F ⟨M.prog, M.w.params⟩ t = some (o, g) → wpAny M A (g s.heap.objs.size) P E { s with heap := s.heap.push o } → wpAny M A t P E s := by
  intro t
  induction t with
  | rule _ k ih => intro g e q Γ p hΓ; exact ih () g e q Γ p hΓ
  | point _ k ih => intro g e q Γ p hΓ; exact ih () g e q Γ p hΓ
  | ask k ih => intro g e q Γ p hΓ; exact ih _ g e q Γ p hΓ
  | load a _ k ih =>
    intro g e q Γ p hΓ
    simp only [peekA] at e
    split at e
    · rename_i ob ho; exact ⟨ob, X _ _ ho, ih ob g e q Γ p hΓ⟩
    · cases e
  | alloc ob k _ =>
    intro g e q
    have e : some (ob, k) = some (o, g) := e
    obtain ⟨e1, e2⟩ := Prod.mk.inj (Option.some.inj e)
    subst e1
    subst e2
    show wpAny M A (alloc ob >>= k) P E s
    exact wpAny_bind (wpAny_alloc q)
  | _ => intro g e; cases e

/-- the binding of a def whose surplus keywords go into a dict -/
theorem Bnd.more {fd : FuncData} {as : List AV} {kw front fs : Lc} {nm : Str} {F : Frag} (hF : ∀ a o, F.lookup a = some o → K.B a = some o)
    (hp : ForAllV as fun us => ForAllV kw fun ks => ∃ (ff ex : List (Str × Value)), peekA F ⟨K.prog, K.w.params⟩ (bindArgs fd ⟨us, (kw.map (·.1)).zip ks⟩) = some (oEmp, fun D => (forIn ex PUnit.unit (fun x _ => (nsSet D x.1 x.2 >>= fun _ => pure (ForInStep.yield PUnit.unit))) >>= fun _ => pure (ff ++ [(nm, Value.ref D)]))) ∧
      ex.map (·.1) = fs.map (·.1) ∧ ff.map (·.1) = front.map (·.1) ∧ ∀ G, VRs G us as → VRs G ks (kw.map (·.2)) → VRs G (ex.map (·.2)) (fs.map (·.2)) ∧ VRs G (ff.map (·.2)) (front.map (·.2)))
    (hn : (fs.map (·.1)).Nodup) : Bnd K fd as kw h (front ++ [(nm, .dict fs)]) h := fun c A G s us ks hA R hu hks => by
  obtain ⟨ff, ex, e1, e2, e3, e4⟩ := (hp.all us hu.length).all ks (by rw [hks.length, List.length_map])
  obtain ⟨v1, v2⟩ := e4 G hu hks
  refine wp_pkA (R.fragIn hF) _ _ e1 ?_
  have R1 : Rel K c h G (s.heap.push oEmp) := R.push
  have x1 : AccD K c G (s.heap.push oEmp) s.heap.objs.size [] := AccD.new (R := R)
  have st1 : Stp [] G G s { s with heap := s.heap.push oEmp } := Stp.push
  refine wpAny_bind (fill_run (s := { s with heap := s.heap.push oEmp }) (es := []) x1 R1 e2 v1 hn fun s' st R2 x2 => wpAny_pure ?_)
  obtain ⟨hl, o, kvs, ho, hd, d1, d2⟩ := x2
  have hnone := (hl _ (List.mem_singleton.mpr rfl)).1
  refine ⟨_, (Stp.dropFresh (own := []) (wr := [s.heap.objs.size]) st st1 (fun b hb => by rw [List.mem_singleton.mp hb]; exact Nat.le_refl _)).late (g := .val (.dict fs)) (Nat.le_refl _) hnone, R2.valAt hl ho (av := .dict fs) ⟨kvs, hd, d1, d2⟩, by rw [List.map_append, List.map_append, e3]; rfl, ?_⟩
  rw [List.map_append, List.map_append]
  exact (v2.mono (Gput_grow hnone)).append ⟨⟨_, rfl, Gput_self ..⟩, trivial⟩
end
end Mine
end

section
set_option maxHeartbeats 4000000
open PySem PySem.W PySem.Calls PyProof.Rows
namespace Mine

section
variable {K : Bse} {c : Cx} {h : Hp} {Q : AV → Hp → Prop} {d : Nat} {k : Addr} {pm : Value} {a b e x y : AV}
theorem frDft (hK : OkK K) : ∀ a o, List.lookup a ([(23, oDft)] : Frag) = some o → K.B a = some o := fun a o e => by
  by_cases q : a = 23
  · subst q; cases e; exact hK.dft
  · have : (a == 23) = false := by simpa using q
    simp [List.lookup_cons, this] at e
theorem sub_b3 (hK : OkK K) : Bnd K (fdI 2 k (.ref 23) pm) [a, b, e] [("born", x), ("hand", y)] h [("parent", a), ("tag", b), ("attrib", e), ("extra", .dict [("born", x), ("hand", y)])] h :=
  Bnd.more (front := [("parent", a), ("tag", b), ("attrib", e)]) (frDft hK) (fun u v w y z => ⟨[("parent",u),("tag",v),("attrib",w)], [("born", y), ("hand", z)], by kernel_rfl, rfl, rfl, fun G hu hk => ⟨⟨hk.1, hk.2.1, trivial⟩, ⟨hu.1, hu.2.1, hu.2.2.1, trivial⟩⟩⟩) (show (["born", "hand"] : List Str).Nodup by decide +kernel)
theorem sub_b0 (hK : OkK K) : Bnd K (fdI 2 k (.ref 23) pm) [a, b, e] [] h [("parent", a), ("tag", b), ("attrib", e), ("extra", .dict [])] h :=
  Bnd.more (front := [("parent", a), ("tag", b), ("attrib", e)]) (frDft hK) (fun u v w => ⟨[("parent",u),("tag",v),("attrib",w)], [], by kernel_rfl, rfl, rfl, fun G hu hk => ⟨trivial, ⟨hu.1, hu.2.1, hu.2.2.1, trivial⟩⟩⟩) List.nodup_nil
theorem sub_b1 (hK : OkK K) : Bnd K (fdI 2 k (.ref 23) pm) [a, b] [] h [("parent", a), ("tag", b), ("attrib", .raw (.ref 22)), ("extra", .dict [])] h :=
  Bnd.more (front := [("parent", a), ("tag", b), ("attrib", .raw (.ref 22))]) (frDft hK) (fun u v => ⟨[("parent",u),("tag",v),("attrib",.ref 22)], [], by kernel_rfl, rfl, rfl, fun G hu hk => ⟨trivial, ⟨hu.1, hu.2.1, rfl, trivial⟩⟩⟩) List.nodup_nil
theorem sub_b2 (hK : OkK K) : Bnd K (fdI 2 k (.ref 23) pm) [a, b] [("born", x)] h [("parent", a), ("tag", b), ("attrib", .raw (.ref 22)), ("extra", .dict [("born", x)])] h :=
  Bnd.more (front := [("parent", a), ("tag", b), ("attrib", .raw (.ref 22))]) (frDft hK) (fun u v y => ⟨[("parent",u),("tag",v),("attrib",.ref 22)], [("born", y)], by kernel_rfl, rfl, rfl, fun G hu hk => ⟨⟨hk.1, trivial⟩, ⟨hu.1, hu.2.1, rfl, trivial⟩⟩⟩) (show (["born"] : List Str).Nodup by decide +kernel)

/-- a call of a def by its binding, flat -/
theorem Ca.defB {a : Addr} {fd : FuncData} {body : List Stmt} {as : List AV} {kw bs : Lc} {names : List Str} {h1 : Hp} (F : FnOk K a fd body) (hbind : Bnd K fd as kw h bs h1) (hb : bs.map (·.1) = names) (hnd : names.Nodup) (hkind : kindsOk fd names = true)
    (x : ∀ L : Addr, Exs K ((⟨d, callEnvC fd L a, true, []⟩ : Cx).at bs) body h1 (Rt Q)) : Ca K (d + 1) (.raw (.ref a)) as kw h Q :=
  Ca.ofC (CaC.fnK F hbind hb hnd hkind fun L => (x L).mono fun f L h1 q => by cases f <;> exact q)

noncomputable def lamOk (fd : FuncData) (names : List Str) (x0 : Str) : Bool := fd.scope.names.all (fun x => match x.2 with | .cell => false | _ => true) && names.all (fun n => fd.scope.names.lookup n == some .local) && fd.scope.names.lookup x0 == some .free
/-- a call of a lambda with one closed cell -/
theorem Ca.lam1 {l : Nat} {fd : FuncData} {x0 : Str} {v : AV} {k' : Addr} {body : Expr} {as : List AV} {names : List Str} (hl : h l = some (.lam fd [(x0, v)])) (hcl : fd.closure = [(x0, k')]) (hbody : fd.body = .expr body) (hgl : fd.globals = mainGlobals ∧ fd.builtins = builtinsNs) (hco : fd.scope.isCoroutine = false) (hgen : fd.scope.isGenerator = false) (hk : fd.scope.kind = .function)
    (ok : lamOk fd names x0 = true) (hlen : names.length = as.length) (hb : ∀ us : List Value, us.length = names.length → bindArgs fd ⟨us, []⟩ = pure (names.zip us)) (hnd : names.Nodup)
    (z : ∀ L a : Addr, Ev K ((⟨d, lamEnv fd L a, false, []⟩ : Cx).at (names.zip as ++ [(x0, v)])) body h Q) : Ca K (d + 1) (.obj l) as [] h Q := by
  unfold lamOk at ok
  rw [Bool.and_eq_true, Bool.and_eq_true, List.all_eq_true, List.all_eq_true] at ok
  refine Ca.ofC (CaC.lam hl hbody hgl hco hgen hk (fun x hx q => ?_) hlen hb hnd (fun n hn => by simpa using ok.1.2 n hn) (fun y hy => ?_) (fun y k'' e => ?_) (by rw [hcl]; exact Nat.le_refl _) z)
  · have := ok.1.1 x hx; rw [q] at this; cases this
  · rw [List.mem_singleton.mp hy]; simpa using ok.2
  · rw [hcl] at e
    by_cases q : y = x0
    · subst q; exact ⟨v, by simp⟩
    · have : (y == x0) = false := by simpa using q
      simp [List.lookup_cons, this] at e

theorem lamA_spec {fd : FuncData} {k l P : Nat} {xs : List AV} (hl : h l = some (.lam fd [("piles", .obj P)])) (hf : IsLamE fd qTab (lamT 5) [("piles", k)]) (hP : h P = some (.list xs)) (hsz : xs.length ≤ 1000) (hQ : Q .none (h.put P (.list (xs ++ [x])))) :
    Ca K (d + 2) (.obj l) [x] [] h Q := by
  obtain ⟨pm, cdv, ctv, rfl⟩ := hf
  refine Ca.lam1 (names := ["pile"]) hl rfl rfl ⟨rfl, rfl⟩ (by kernel_rfl) (by kernel_rfl) (by kernel_rfl) (by kernel_rfl) rfl (bind1 fun u => by kernel_rfl) (by decide +kernel) fun L a => ?_
  refine Ev.meth (d := d) ?_ rfl
  refine Ev.nm rfl ?_
  refine Meth.append hP ?_
  refine Es.nm rfl ?_
  refine Es.nil ?_
  refine Ks.nil ⟨rfl, Kp.builtin, ?_⟩
  exact Ca.append hP hsz hQ

/-- a place that is no part of the table -/
noncomputable def Off (h : Hp) (b : TB) (m : Nat) : Prop := ∀ o, h m = some o → (kindA o = 0 ∧ m ≠ b.P) ∨ (kindA o ≠ 0 ∧ kindA o ≠ 1 ∧ kindA o ≠ 4 ∧ kindA o ≠ 5)
theorem Off.tab {b : TB} {m : Nat} {q : Str} (t : TQ h m q) : Off h b m := fun o e => by
  obtain ⟨es, e1, _⟩ := t; rw [e1] at e; cases e; exact .inr (by simp [kindA])
theorem PileAt.keep {h' : Hp} {S : List Nat} {b : TB} {p : Pl} (T : PileAt h p) (k : Keep h h' S) (hS : ∀ m ∈ S, Off h b m) : PileAt h' p := by
  obtain ⟨⟨fd, e⟩, tag, a, e'⟩ := T
  refine ⟨⟨fd, k _ _ e fun hm => ?_⟩, tag, a, k _ _ e' fun hm => ?_⟩
  · have := hS _ hm _ e; simp [kindA] at this
  · have := hS _ hm _ e'; simp [kindA] at this
theorem Tbl.keep {h' : Hp} {S : List Nat} {b : TB} {tail : Str} {ps : List Pl} (T : Tbl h b tail ps) (k : Keep h h' S) (hS : ∀ m ∈ S, Off h b m) : Tbl h' b tail ps := by
  obtain ⟨⟨fd, e1⟩, e2, e3, ⟨fA, kA, e4, e4'⟩, ⟨fI, kI, e5, e5'⟩, e6, e7⟩ := T
  refine ⟨⟨fd, k _ _ e1 fun hm => ?_⟩, k _ _ e2 fun hm => ?_, k _ _ e3 fun hm => ?_, ⟨fA, kA, k _ _ e4 fun hm => ?_, e4'⟩, ⟨fI, kI, k _ _ e5 fun hm => ?_, e5'⟩, fun p hp => (e6 p hp).keep k hS, e7⟩
  · have := hS _ hm _ e1; simp [kindA] at this
  · have := hS _ hm _ e2; simp [kindA] at this
  · have := hS _ hm _ e3; simp [kindA] at this
  · have := hS _ hm _ e4; simp [kindA] at this
  · have := hS _ hm _ e5; simp [kindA] at this
/-- one more pile -/
theorem Tbl.add {h' : Hp} {b : TB} {tail : Str} {ps : List Pl} {p : Pl} (T : Tbl h b tail ps) (k : Keep h h' [b.P]) (hP : h' b.P = some (.list ((ps ++ [p]).map fun p => .obj p.f))) (hp : PileAt h' p) (hd : p.d ∉ b.D :: ps.map (·.d)) : Tbl h' b tail (ps ++ [p]) := by
  have hS : ∀ (o : AObj), h b.P = some o → kindA o = 0 := fun o e => by rw [T.P] at e; cases e; rfl
  obtain ⟨⟨fd, e1⟩, e2, e3, ⟨fA, kA, e4, e4'⟩, ⟨fI, kI, e5, e5'⟩, e6, e7⟩ := T
  refine ⟨⟨fd, k.ki e1 e3⟩, k.ki e2 e3, hP, ⟨fA, kA, k.ki e4 e3, e4'⟩, ⟨fI, kI, k.ki e5 e3, e5'⟩, fun q hq => ?_, ?_⟩
  · rcases List.mem_append.mp hq with hq | hq
    · obtain ⟨⟨fd, e⟩, tag, a, e'⟩ := e6 q hq
      exact ⟨⟨fd, k.ki e e3⟩, tag, a, k.ki e' e3⟩
    · rw [List.mem_singleton.mp hq]; exact hp
  · rw [List.map_append, ← List.cons_append, List.nodup_append]
    refine ⟨e7, by simp, fun x hx y hy q => hd ?_⟩
    have hy' : y = p.d := by simpa using hy
    rw [← hy', ← q]; exact hx

/-- what SubElement does -/
theorem sub_core (hK : OkK K) {b : TB} {tail : Str} {ps : List Pl} {tag : Str} {a : AV} {es fs : Lc} (T : Tbl h b tail ps) (ht : TQ h 0 qPile) (hps : ps.length ≤ 1000) (ha : ReadD K h a es) (hes : es.length ≤ 100) (hfs : fs.length ≤ 100) {L : Addr}
    (hQ : ∀ p h' la, p.text = ("" : Str) → h p.f = none → h p.d = none → h la = none → p.f ≠ p.d → p.f ≠ la → p.d ≠ la → Tbl h' b tail (ps ++ [p]) → TQ h' 0 qPile → Keep h h' [0, b.P] → h' p.d = some (.attrs (pileA tag (.obj la) "")) → h' la = some (.dict (mrg (mrg [] es) fs)) → Q (.obj p.f) h') :
    Exs K ((⟨d + 3, callEnvC (fdI 2 k (.ref 23) pm) L 30, true, []⟩ : Cx).at [("parent", .obj b.T), ("tag", .str tag), ("attrib", a), ("extra", .dict fs)]) (bodyI 2) h (Rt Q) := by
  refine Exs.asL ?_
  refine Ev.star2M ?_
  refine Ev.nm rfl ⟨es, ha, hes, ?_⟩
  refine Ev.nm rfl ⟨fs, rfl, hfs, fun la hla => ?_⟩
  have K1 : Keep h (h.put la (.dict (mrg (mrg [] es) fs))) [] := Keep.new hla
  have t1 : TQ (h.put la (.dict (mrg (mrg [] es) fs))) 0 qPile := let ⟨e, e1, e2⟩ := ht; ⟨e, K1 _ _ e1 (fun z => nomatch z), e2⟩
  have a1 : (h.put la (.dict (mrg (mrg [] es) fs))) la = some (.dict (mrg (mrg [] es) fs)) := Hp.put_self ..
  have n1 : ∀ m, (h.put la (.dict (mrg (mrg [] es) fs))) m = none → h m = none ∧ m ≠ la := fun m e => by
    have : m ≠ la := by rintro rfl; rw [Hp.put_self] at e; cases e
    rw [Hp.put_ne _ _ this] at e; exact ⟨e, this⟩
  generalize h.put la (.dict (mrg (mrg [] es) fs)) = h1 at K1 t1 a1 n1 ⊢
  have T1 : Tbl h1 b tail ps := T.keep K1 (fun m z => nomatch z)
  refine Exs.asL ?_
  refine Ev.meth (d := d + 2) ?_ rfl
  refine Ev.nm rfl ?_
  obtain ⟨fdT, eT⟩ := T1.T
  refine Meth.func ⟨fdT, b.D, _, eT, T1.D, rfl, rfl⟩ fp_make ?_
  refine Es.nm rfl ?_
  refine Es.nm rfl ?_
  refine Es.nil ?_
  obtain ⟨k16, pm16, P16, F16, _⟩ := id hK.f16
  refine Ks.nil ⟨rfl, F16.kp, ?_⟩
  refine pile_spec hK t1 fun l dl fd h2 hl hdl k2 t2 f2 d2 => ?_
  have T2 : Tbl h2 b tail ps := T1.keep k2 fun m hm => by rw [List.mem_singleton.mp hm]; exact Off.tab t1
  refine Exs.exE ?_
  refine Ev.meth (d := d + 2) ?_ rfl
  refine Ev.nm rfl ?_
  obtain ⟨fdT2, eT2⟩ := T2.T
  refine Meth.func ⟨fdT2, b.D, _, eT2, T2.D, rfl, rfl⟩ fp_append ?_
  refine Es.nm rfl ?_
  refine Es.nil ?_
  obtain ⟨fA, kA, eA, hA⟩ := T2.A
  refine Ks.nil ⟨rfl, Kp.lam eA, ?_⟩
  refine lamA_spec eA hA T2.P (by simpa using hps) ?_
  have hne : l ≠ dl := fun q => by rw [← q, f2] at d2; cases d2
  have k3 : Keep h2 (h2.put b.P (.list (ps.map (fun p => .obj p.f) ++ [.obj l]))) [b.P] := Keep.upd (List.mem_singleton.mpr rfl)
  have p3 := Hp.put_self h2 b.P (.list (ps.map (fun p => .obj p.f) ++ [.obj l]))
  generalize h2.put b.P (.list (ps.map (fun p => .obj p.f) ++ [.obj l])) = h3 at k3 p3 ⊢
  refine Exs.ret ?_
  refine Ev.nm rfl ?_
  have f3 := k3.ki f2 T2.P
  have d3 := k3.ki d2 T2.P
  have a2 : h2 la = some (.dict (mrg (mrg [] es) fs)) := let ⟨_, e1, _⟩ := t1; k2.ki a1 e1
  obtain ⟨m1, m2⟩ := n1 _ hl
  obtain ⟨m3, m4⟩ := n1 _ hdl
  refine hQ ⟨l, dl, ""⟩ h3 la rfl m1 m3 hla hne m2 m4 (T2.add k3 (by rw [List.map_append]; exact p3) ⟨⟨fd, f3⟩, tag, _, d3⟩ ?_) (t2.ki k3 T2.P) ?_ d3 (k3.ki a2 T2.P)
  · intro hm
    rcases List.mem_cons.mp hm with q | hm
    · have := T1.D; rw [← q, hdl] at this; cases this
    · obtain ⟨p, hp, q⟩ := List.mem_map.mp hm
      obtain ⟨_, _, _, e⟩ := T1.at_ p hp
      rw [q, hdl] at e; cases e
  · intro m o e hm
    simp only [List.mem_cons, List.not_mem_nil, or_false, not_or] at hm
    exact k3 m o (k2 m o (K1 m o e (fun z => nomatch z)) (by simpa using hm.1)) (by simpa using hm.2)
end
end Mine
end

section
set_option maxHeartbeats 4000000
open PySem PySem.W PySem.Calls PyProof.Rows
namespace Mine

noncomputable def givenV : AV := .dict [("kind", .str "pile"), ("born", .str "never")]
theorem fmod_nat (b m : Nat) (hm : m ≠ 0) : ((b : Int).fmod m) = ((b % m : Nat) : Int) := by rw [Int.fmod_eq_emod_of_nonneg _ (by omega)]; omega

section
variable {K : Bse} {c : Cx} {h : Hp} {Q : AV → Hp → Prop} {d : Nat}
/-- the text of a pile changes -/
theorem Tbl.text {h' : Hp} {b : TB} {tail : Str} {p1 p2 : List Pl} {p : Pl} {tag txt : Str} {a : AV} (T : Tbl h b tail (p1 ++ p :: p2)) (k : Keep h h' [p.d]) (e : h' p.d = some (.attrs (pileA tag a txt))) : Tbl h' b tail (p1 ++ ⟨p.f, p.d, txt⟩ :: p2) := by
  have hm : p ∈ p1 ++ p :: p2 := List.mem_append_right _ (List.mem_cons_self ..)
  obtain ⟨fdp, tp, ap, ep⟩ := T.at_ p hm
  obtain ⟨⟨fd, e1⟩, e2, e3, ⟨fA, kA, e4, e4'⟩, ⟨fI, kI, e5, e5'⟩, e6, e7⟩ := T
  have hD : b.D ≠ p.d := fun q => by
    rw [List.nodup_cons] at e7
    exact e7.1 (q ▸ List.mem_map_of_mem hm)
  have hne : ∀ q, q ∈ p1 ∨ q ∈ p2 → q.d ≠ p.d := fun q hq w => by
    rw [List.map_append, List.map_cons, List.nodup_cons, List.nodup_append, List.nodup_cons] at e7
    rcases hq with hq | hq
    · exact e7.2.2.2 q.d (List.mem_map_of_mem hq) p.d (List.mem_cons_self ..) w
    · exact e7.2.2.1.1 (w ▸ List.mem_map_of_mem hq)
  refine ⟨⟨fd, k.ki e1 ep⟩, k _ _ e2 (by simpa using hD), ?_, ⟨fA, kA, k.ki e4 ep, e4'⟩, ⟨fI, kI, k.ki e5 ep, e5'⟩, fun q hq => ?_, ?_⟩
  · rw [List.map_append, List.map_cons] at e3 ⊢; exact k.ki e3 ep
  · have cs : q = ⟨p.f, p.d, txt⟩ ∨ (q ∈ p1 ++ p :: p2 ∧ (q ∈ p1 ∨ q ∈ p2)) := by
      rcases List.mem_append.mp hq with w | w
      · exact .inr ⟨List.mem_append_left _ w, .inl w⟩
      · rcases List.mem_cons.mp w with w | w
        · exact .inl w
        · exact .inr ⟨List.mem_append_right _ (List.mem_cons_of_mem _ w), .inr w⟩
    rcases cs with rfl | ⟨m1, m2⟩
    · obtain ⟨fd', w⟩ := fdp
      exact ⟨⟨fd', k.ki w ep⟩, tag, a, e⟩
    · obtain ⟨⟨fd', w⟩, t', a', w'⟩ := e6 q m1
      exact ⟨⟨fd', k.ki w ep⟩, t', a', k _ _ w' (by simpa using hne q m2)⟩
  · rw [List.map_append, List.map_cons] at e7 ⊢; exact e7

theorem rd22 (hK : OkK K) : ReadD K h (.raw (.ref 22)) [] := ⟨rfl, by decide +kernel, oEmp, hK.emp, #[], 0, ⟨rfl, rfl, rfl⟩, rfl, fun e he => absurd he (by simp), Pairs.nil, List.nodup_nil⟩

theorem sub_call (hK : OkK K) {b : TB} {tail : Str} {ps : List Pl} {tag : Str} {a : AV} {es fs kw : Lc} {as : List AV} (hb : ∀ k pm, Bnd K (fdI 2 k (.ref 23) pm) as kw h [("parent", .obj b.T), ("tag", .str tag), ("attrib", a), ("extra", .dict fs)] h)
    (T : Tbl h b tail ps) (ht : TQ h 0 qPile) (hps : ps.length ≤ 1000) (ha : ReadD K h a es) (hes : es.length ≤ 100) (hfs : fs.length ≤ 100)
    (hQ : ∀ p h' la, p.text = ("" : Str) → h p.f = none → h p.d = none → h la = none → p.f ≠ p.d → p.f ≠ la → p.d ≠ la → Tbl h' b tail (ps ++ [p]) → TQ h' 0 qPile → Keep h h' [0, b.P] → h' p.d = some (.attrs (pileA tag (.obj la) "")) → h' la = some (.dict (mrg (mrg [] es) fs)) → Q (.obj p.f) h') :
    Kp K (.raw (.ref 30)) h ∧ Ca K (d + 4) (.raw (.ref 30)) as kw h Q := by
  obtain ⟨k, pm, F⟩ := hK.f2
  exact ⟨F.kp, Ca.defB F (hb k pm) (names := ["parent", "tag", "attrib", "extra"]) rfl (by decide +kernel) (by kernel_rfl) fun L => sub_core hK T ht hps ha hes hfs hQ⟩

/-- a pile has been laid -/
structure Laid (h h' : Hp) (b : TB) (tail : Str) (ps : List Pl) (p : Pl) : Prop where
  T : Tbl h' b tail (ps ++ [p])
  q : TQ h' 0 qPile
  k : Keep h h' [0, b.P]

/-- what comes behind the If -/
theorem lay_fin (hK : OkK K) {b : TB} {tail tag : Str} {ps : List Pl} {es fs : Lc} {p : Pl} {h' : Hp} {la n : Nat} {cnt : Int} {k : Addr} {pm : Value} {L : Addr} (hes : (mrg (mrg [] es) fs).length ≤ 100) (hc : -1000 ≤ cnt) (hc' : cnt ≤ 1000)
    (hcards : (mrg (mrg [] es) fs).all (fun e => e.1 != "cards") = true) (hbook : AV.tup [.str tag, .str "", .dict (mrg [] (mrg (mrg [] es) fs))] = bookOf n cnt)
    (e0 : p.text = ("" : Str)) (e1 : h p.f = none) (e2 : h p.d = none) (e3 : h la = none) (e4 : p.f ≠ p.d) (e5 : p.f ≠ la) (e6 : p.d ≠ la) (T : Tbl h' b tail (ps ++ [p])) (ht : TQ h' 0 qPile) (hk : Keep h h' [0, b.P]) (d1 : h' p.d = some (.attrs (pileA tag (.obj la) ""))) (a1 : h' la = some (.dict (mrg (mrg [] es) fs)))
    (hQ : ∀ p h', p.text = repS " " cnt.toNat → Laid h h' b tail ps p → Q (bookOf n cnt) h') :
    Exs K ((⟨d + 5, callEnvC (fdI 18 k .none pm) L 167, true, []⟩ : Cx).at [("table", .obj b.T), ("born", .int n), ("given", givenV), ("count", .int cnt), ("pile", .obj p.f)]) ((bodyI 18).drop 1) h' (Rt Q) := by
  generalize hM : mrg (mrg [] es) fs = M at *
  obtain ⟨⟨fd, f1⟩, _⟩ := T.at_ p (List.mem_append_right _ (List.mem_cons_self ..))
  refine Exs.asL ?_
  refine Ev.tuple ?_
  refine Es.cs ?_
  refine Ev.attrN rfl ?_
  refine Attr.func ⟨fd, p.d, _, f1, d1, rfl, rfl⟩ fp_tag ?_
  refine Es.cs ?_
  refine Ev.attrN rfl ?_
  refine Attr.func ⟨fd, p.d, _, f1, d1, rfl, rfl⟩ fp_text ?_
  refine Es.cs ?_
  refine Ev.star1 ?_
  refine Ev.attrN rfl ?_
  refine Attr.func ⟨fd, p.d, _, f1, d1, rfl, rfl⟩ fp_attrib ?_
  refine ⟨M, a1, hes, ?_⟩
  refine Es.nil ⟨le_line (Nat.le_of_ble_eq_true rfl), ?_⟩
  rw [hbook]
  refine Exs.asP ?_
  refine Ev.binop ?_
  refine Ev.str ?_
  refine Ev.nm rfl ?_
  refine Op2.mulS (by decide +kernel) hc hc' ?_
  refine As.attrN rfl ?_
  refine SetA.funcK f1 d1 rfl fp_text fun h2 d2 k2 => ?_
  have T2 : Tbl h2 b tail (ps ++ [⟨p.f, p.d, repS " " cnt.toNat⟩]) := Tbl.text T k2 (tag := tag) (a := .obj la) d2
  have f2 := k2.ki f1 d1
  have a2 := k2.ki a1 d1
  have t2 := ht.ki k2 d1
  refine Exs.asP ?_
  refine Ev.nm rfl ?_
  refine As.sub ?_
  refine Ev.attrN rfl ?_
  refine Attr.func ⟨fd, p.d, _, f2, d2, rfl, rfl⟩ fp_attrib ?_
  refine Ev.str ?_
  refine SetI.dict a2 hcards (by omega) ?_
  have k3 : Keep h2 (h2.put la (.dict (M ++ ([("cards", .int cnt)] : Lc)))) [la] := Keep.upd (List.mem_singleton.mpr rfl)
  refine Exs.ret ?_
  refine Ev.nm rfl ?_
  refine hQ ⟨p.f, p.d, repS " " cnt.toNat⟩ _ rfl ⟨T2.keep k3 fun m hm o e => ?_, t2.ki k3 a2, fun m o e hm => ?_⟩
  · rw [List.mem_singleton.mp hm, a2] at e; cases e; exact .inr (by simp [kindA])
  · have n1 : m ≠ p.d := by rintro rfl; rw [e2] at e; cases e
    have n2 : m ≠ la := by rintro rfl; rw [e3] at e; cases e
    exact k3 m o (k2 m o (hk m o e hm) (by simpa using n1)) (by simpa using n2)

theorem lay_spec (hK : OkK K) {b : TB} {tail : Str} {ps : List Pl} {n : Nat} {cnt : Int} (T : Tbl h b tail ps) (ht : TQ h 0 qPile) (hps : ps.length ≤ 1000) (hc : -1000 ≤ cnt) (hc' : cnt ≤ 1000)
    (hQ : ∀ p h', p.text = repS " " cnt.toNat → Laid h h' b tail ps p → Q (bookOf n cnt) h') :
    Ca K (d + 6) (.raw (.ref 167)) [.obj b.T, .int n, givenV, .int cnt] [] h Q := by
  obtain ⟨k, pm, F⟩ := hK.f18
  refine Ca.def (names := ["table", "born", "given", "count"]) F rfl (bind4 fun u v w x => by kernel_rfl) (by decide +kernel) (by kernel_rfl) fun L => ?_
  have tg : ∀ j : Nat, n % 4 = j → (tagOf n = (if j % 2 = 0 then ("pile" : Str) else ("heap" : Str))) ∧ namedOf n cnt = (match j with | 0 => [("kind", .str "pile"), ("born", .int n), ("hand", .int cnt)] | 1 => [("kind", .str "pile"), ("born", .str "never")] | 2 => [] | _ => [("born", .int n)]) := fun j q => by
    unfold tagOf namedOf
    rw [q]
    refine ⟨?_, rfl⟩
    rw [show n % 2 = j % 2 by omega]
  have hm4 : (n : Int).fmod 4 = ((n % 4 : Nat) : Int) := fmod_nat n 4 (by decide)
  refine Exs.ifs ?_
  refine It.compare ?_
  refine Ev.binNI rfl ?_
  refine Op2.mod (by decide) ?_
  rw [hm4]
  refine Ev.int ?_
  refine Op2.eq (Tru.bool ?_)
  by_cases q0 : n % 4 = 0
  · obtain ⟨t1, t2⟩ := tg 0 q0
    rw [q0]
    refine Exs.asL ?_
    refine Ev.cl ?_ rfl
    refine Ev.G hK rfl rfl ?_
    refine Es.nm rfl ?_
    refine Es.cs ?_
    refine Ev.str ?_
    refine Es.nm rfl ?_
    refine Es.nil ?_
    refine Ks.cons ?_
    refine Ev.nm rfl ?_
    refine Ks.cons ?_
    refine Ev.nm rfl ?_
    refine Ks.nil ⟨rfl, ?_⟩
    refine sub_call hK (a := givenV) (tag := "pile") (fs := [("born", .int n), ("hand", .int cnt)]) (fun k pm => sub_b3 hK) T ht hps rfl (Nat.le_of_ble_eq_true rfl) (Nat.le_of_ble_eq_true rfl) fun p h' la e0 e1 e2 e3 e4 e5 e6 T' t' k' d' a' => ?_
    refine Exs.endS ?_
    exact lay_fin hK (Nat.le_of_ble_eq_true (by kernel_rfl)) hc hc' (by kernel_rfl) (by unfold bookOf; rw [t1, t2]; kernel_rfl) e0 e1 e2 e3 e4 e5 e6 T' t' k' d' a' hQ
  have x0 : (((n % 4 : Nat) : Int) == 0) = false := ibeq (b := 0) q0
  rw [x0]
  refine Exs.ifs ?_
  refine It.compare ?_
  refine Ev.binNI rfl ?_
  refine Op2.mod (by decide) ?_
  rw [hm4]
  refine Ev.int ?_
  refine Op2.eq (Tru.bool ?_)
  by_cases q1 : n % 4 = 1
  · obtain ⟨t1, t2⟩ := tg 1 q1
    rw [q1]
    refine Exs.asL ?_
    refine Ev.cl ?_ rfl
    refine Ev.G hK rfl rfl ?_
    refine Es.nm rfl ?_
    refine Es.cs ?_
    refine Ev.str ?_
    refine Es.nm rfl ?_
    refine Es.nil ?_
    refine Ks.nil ⟨rfl, ?_⟩
    refine sub_call hK (a := givenV) (tag := "heap") (fs := []) (fun k pm => sub_b0 hK) T ht hps rfl (Nat.le_of_ble_eq_true rfl) (Nat.le_of_ble_eq_true rfl) fun p h' la e0 e1 e2 e3 e4 e5 e6 T' t' k' d' a' => ?_
    refine Exs.endS ?_
    refine Exs.endS ?_
    exact lay_fin hK (Nat.le_of_ble_eq_true (by kernel_rfl)) hc hc' (by kernel_rfl) (by unfold bookOf; rw [t1, t2]; kernel_rfl) e0 e1 e2 e3 e4 e5 e6 T' t' k' d' a' hQ
  have x1 : (((n % 4 : Nat) : Int) == 1) = false := ibeq (b := 1) q1
  rw [x1]
  refine Exs.ifs ?_
  refine It.compare ?_
  refine Ev.binNI rfl ?_
  refine Op2.mod (by decide) ?_
  rw [hm4]
  refine Ev.int ?_
  refine Op2.eq (Tru.bool ?_)
  by_cases q2 : n % 4 = 2
  · obtain ⟨t1, t2⟩ := tg 2 q2
    rw [q2]
    refine Exs.asL ?_
    refine Ev.cl ?_ rfl
    refine Ev.G hK rfl rfl ?_
    refine Es.nm rfl ?_
    refine Es.cs ?_
    refine Ev.str ?_
    refine Es.nil ?_
    refine Ks.nil ⟨rfl, ?_⟩
    refine sub_call hK (a := .raw (.ref 22)) (tag := "pile") (es := []) (fs := []) (fun k pm => sub_b1 hK) T ht hps (rd22 hK) (Nat.le_of_ble_eq_true rfl) (Nat.le_of_ble_eq_true rfl) fun p h' la e0 e1 e2 e3 e4 e5 e6 T' t' k' d' a' => ?_
    refine Exs.endS ?_
    refine Exs.endS ?_
    refine Exs.endS ?_
    exact lay_fin hK (Nat.le_of_ble_eq_true (by kernel_rfl)) hc hc' (by kernel_rfl) (by unfold bookOf; rw [t1, t2]; kernel_rfl) e0 e1 e2 e3 e4 e5 e6 T' t' k' d' a' hQ
  have x2 : (((n % 4 : Nat) : Int) == 2) = false := ibeq (b := 2) q2
  rw [x2]
  obtain ⟨t1, t2⟩ := tg 3 (by omega)
  refine Exs.asL ?_
  refine Ev.cl ?_ rfl
  refine Ev.G hK rfl rfl ?_
  refine Es.nm rfl ?_
  refine Es.cs ?_
  refine Ev.str ?_
  refine Es.nil ?_
  refine Ks.cons ?_
  refine Ev.nm rfl ?_
  refine Ks.nil ⟨rfl, ?_⟩
  refine sub_call hK (a := .raw (.ref 22)) (tag := "heap") (es := []) (fs := [("born", .int n)]) (fun k pm => sub_b2 hK) T ht hps (rd22 hK) (Nat.le_of_ble_eq_true rfl) (Nat.le_of_ble_eq_true rfl) fun p h' la e0 e1 e2 e3 e4 e5 e6 T' t' k' d' a' => ?_
  refine Exs.endS ?_
  refine Exs.endS ?_
  refine Exs.endS ?_
  exact lay_fin hK (Nat.le_of_ble_eq_true (by kernel_rfl)) hc hc' (by kernel_rfl) (by unfold bookOf; rw [t1, t2]; kernel_rfl) e0 e1 e2 e3 e4 e5 e6 T' t' k' d' a' hQ
end
end Mine
end

section
set_option maxHeartbeats 4000000
open PySem PySem.W PySem.Calls PyProof.Rows
namespace Mine

/-- what the law itself holds stays -/
noncomputable def Stay (h h' : Hp) (P : Nat) : Prop := ∀ l o, h l = some o → (kindA o = 0 ∧ l ≠ P) ∨ kindA o = 6 ∨ kindA o = 7 ∨ (kindA o = 8 ∧ l ≠ 0) → h' l = some o
theorem Stay.refl (h : Hp) (P) : Stay h h P := fun _ _ e _ => e
theorem Stay.trans {h h' h'' : Hp} {P} (x : Stay h h' P) (y : Stay h' h'' P) : Stay h h'' P := fun l o e n => y l o (x l o e n) n
theorem Keep.stay {h h' : Hp} {S} {P : Nat} (k : Keep h h' S) (hS : ∀ l ∈ S, ∀ o, h l = some o → kindA o ≠ 6 ∧ kindA o ≠ 7 ∧ (kindA o = 0 → l = P) ∧ (kindA o = 8 → l = 0)) : Stay h h' P := fun l o e q => k l o e fun hm => by
  obtain ⟨a, b, c, d⟩ := hS l hm o e
  rcases q with ⟨q, q'⟩ | q | q | ⟨q, q'⟩
  · exact q' (c q)
  · exact a q
  · exact b q
  · exact q' (d q)
noncomputable def tl (x : Str) : Str := ⟨x.cps.extract 1 x.cps.size⟩
noncomputable def shorten (p : Pl) : Pl := ⟨p.f, p.d, tl p.text⟩

section
variable {K : Bse} {c : Cx} {h : Hp} {Q : AV → Hp → Prop} {d : Nat}
theorem Laid.stay {h' : Hp} {b : TB} {tail : Str} {ps : List Pl} {p : Pl} (X : Laid h h' b tail ps p) (T : Tbl h b tail ps) (ht : TQ h 0 qPile) : Stay h h' b.P := X.k.stay fun l hl o e => by
  rcases List.mem_cons.mp hl with q | hl
  · obtain ⟨es, e1, _⟩ := ht; rw [q, e1] at e; cases e; simp [kindA, q]
  · have q := List.mem_singleton.mp hl
    rw [q, T.P] at e; cases e; simp [kindA, q]

theorem readL_obj {l : Nat} {xs : List AV} (e : h l = some (.list xs)) : readL h (.obj l) = some xs := by simp only [readL, e]
theorem move_spec (hK : OkK K) {b : TB} {tail : Str} {ps : List Pl} {n : Nat} {cnt : Int} (T : Tbl h b tail ps) (ht : TQ h 0 qPile) (hps : ps.length ≤ 1000) (htx : ∀ p ∈ ps, p.text.length ≤ 1000) (hc : -1000 ≤ cnt) (hc' : cnt ≤ 1000)
    (hQ : ∀ p h', p.text = repS " " cnt.toNat → Tbl h' b tail (ps.map shorten ++ [p]) → TQ h' 0 qPile → Stay h h' b.P → Q (bookOf n cnt) h') :
    Ca K (d + 8) (.raw (.ref 174)) [.obj b.T, .int n, givenV, .int cnt] [] h Q := by
  obtain ⟨k, pm, F⟩ := hK.f19
  refine Ca.def (names := ["table", "born", "given", "count"]) F rfl (bind4 fun u v w x => by kernel_rfl) (by decide +kernel) (by kernel_rfl) fun L => ?_
  obtain ⟨fdT, eT⟩ := T.T
  refine Exs.fo ?_
  refine EvI.list ?_
  refine Ev.attrN rfl ?_
  refine Attr.func ⟨fdT, b.D, _, eT, T.D, rfl, rfl⟩ fp_piles ?_
  refine ⟨_, readL_obj T.P, fun i B h' => B = ([("table", .obj b.T), ("born", .int n), ("given", givenV), ("count", .int cnt)] : Lc) ∧ Tbl h' b tail ((ps.take i).map shorten ++ ps.drop i) ∧ TQ h' 0 qPile ∧ Stay h h' b.P, ?_, ?_, ?_, ?_⟩
  · rintro i B h' ⟨_, T', _⟩
    have := T'.P
    rw [List.map_append, List.map_map] at this
    refine (readL_obj this).trans (congrArg some ?_)
    show List.map (fun p => AV.obj p.f) (List.take i ps) ++ List.map (fun p => AV.obj p.f) (List.drop i ps) = _
    rw [← List.map_append, List.take_append_drop]
  · rintro i B h' hi ⟨rfl, T', t', s'⟩
    have hib : i < ps.length := len_lt hi
    refine BindT.one (a := .obj ps[i].f) (congrArg (fun z => [z]) (getD_map (f := fun p : Pl => AV.obj p.f) hib)) ?_
    rw [List.drop_eq_getElem_cons hib] at T'
    have hm : ps[i] ∈ (ps.take i).map shorten ++ ps[i] :: ps.drop (i + 1) := List.mem_append_right _ (List.mem_cons_self ..)
    obtain ⟨⟨fd, f1⟩, tag, a, d1⟩ := T'.at_ _ hm
    refine Exs.asP ?_
    refine Ev.sliceS1 ?_
    refine Ev.attrN rfl ?_
    refine Attr.func ⟨fd, ps[i].d, _, f1, d1, rfl, rfl⟩ fp_text ?_
    refine ⟨_, rfl, htx _ (List.getElem_mem hib), ?_⟩
    refine As.attrN rfl ?_
    refine SetA.funcK f1 d1 rfl fp_text fun h2 d2 k2 => ?_
    refine Exs.next ⟨([("table", .obj b.T), ("born", .int n), ("given", givenV), ("count", .int cnt)] : Lc), ⟨rfl, rfl, rfl, rfl, trivial⟩, rfl, ?_, t'.ki k2 d1, s'.trans (k2.stay fun l hl o e => ?_)⟩
    · have := Tbl.text T' k2 (tag := tag) (a := a) (txt := tl ps[i].text) d2
      rw [List.take_succ_eq_append_getElem hib, List.map_append, List.append_assoc]
      exact this
    · rw [List.mem_singleton.mp hl, d1] at e; cases e; simp [kindA]
  · rintro B L' h' hB ⟨rfl, T', t', s'⟩
    rw [List.length_map, List.take_length, List.drop_length, List.append_nil] at T'
    refine Exs.endS ?_
    refine Exs.ret ?_
    refine Ev.clG hK rfl rfl rfl ?_
    refine Es.nm rfl ?_
    refine Es.nm rfl ?_
    refine Es.nm rfl ?_
    refine Es.nm rfl ?_
    refine Es.nil ?_
    refine lay_spec hK T' t' (by simpa using hps) hc hc' fun p h2 e X => ?_
    exact hQ p h2 e X.T X.q (s'.trans (X.stay T' t'))
  · refine ⟨([("table", .obj b.T), ("born", .int n), ("given", givenV), ("count", .int cnt)] : Lc), ⟨rfl, rfl, rfl, rfl, trivial⟩, rfl, ?_, ht, fun _ _ e _ => e⟩
    rw [List.take_zero, List.drop_zero]; exact T
end
end Mine
end

section
set_option maxHeartbeats 4000000
open PySem PySem.W PySem.Calls PyProof.Rows
namespace Mine

noncomputable def partsT (t : Str) : List Str := if t == "" then [] else [t, "\t"]
noncomputable def partsP (ps : List Pl) : List Str := ps.flatMap fun p => partsT p.text
noncomputable def tailP (tail : Str) : List Str := if tail == "" then [] else [tail]

section
variable {K : Bse} {c : Cx} {h : Hp} {Q : AV → Hp → Prop} {d : Nat}
theorem range_flatMap {α β : Type} (l : List α) (f : α → List β) (g : Nat → List β) (hg : ∀ i (hi : i < l.length), g i = f l[i]) : (List.range l.length).flatMap g = l.flatMap f := by
  have : (List.range l.length).map g = l.map f := by
    refine List.ext_getElem (by simp) fun i h1 h2 => ?_
    simp at h1 h2
    simp [hg i h2]
  rw [List.flatMap_def, this, List.flatMap_def]
theorem iter_spec {b : TB} {tail : Str} {ps : List Pl} (T : Tbl h b tail ps) (hps : ps.length ≤ 1000) (hQ : Q (.list ((partsP ps).map .str)) h) :
    Kp K (.obj b.I) h ∧ Ca K (d + 2) (.obj b.I) [] [] h Q := by
  obtain ⟨fd, k, hl, hf⟩ := T.I
  refine ⟨Kp.lam hl, ?_⟩
  obtain ⟨pm, cdv, ctv, rfl⟩ := hf
  refine Ca.lam1 (names := []) hl rfl rfl ⟨rfl, rfl⟩ (by kernel_rfl) (by kernel_rfl) (by kernel_rfl) (by kernel_rfl) rfl (bind0 (by kernel_rfl)) (by decide +kernel) fun L a => ?_
  refine Ev.comp (ml := false) (cl := []) (Lcap := []) ⟨by kernel_rfl, trivial, List.nodup_nil, by kernel_rfl, trivial⟩ ?_
  refine CompE.two ?_ (by intro _ _; kernel_rfl)
  refine EvI.listN rfl ?_
  refine ⟨_, readL_obj T.P, readL_obj T.P, Nat.le_trans (Nat.le_of_eq (List.length_map _)) hps, fun i => (partsT (ps.getD i ⟨0, 0, ""⟩).text).map .str, fun C i hi => ?_, ?_⟩
  · have hib : i < ps.length := Nat.lt_of_lt_of_eq hi (List.length_map _)
    have ei : ([((ps.map fun p => AV.obj p.f).getD i .none)] : List AV) = [.obj ps[i].f] := congrArg (fun z => [z]) (getD_map (f := fun p : Pl => AV.obj p.f) hib)
    refine BindT.one ei ?_
    obtain ⟨⟨fd, f1⟩, tag, a, d1⟩ := T.at_ _ (List.getElem_mem hib)
    have eg : (partsT (ps.getD i ⟨0, 0, ""⟩).text).map AV.str = (partsT ps[i].text).map AV.str := by simp [hib]
    refine It.compare ?_
    refine Ev.attrN rfl ?_
    refine Attr.func ⟨fd, ps[i].d, _, f1, d1, rfl, rfl⟩ fp_text ?_
    refine Ev.str ?_
    refine Op2.neS (Tru.bool ?_)
    cases q : ps[i].text == ("" : Str) with
    | true =>
      refine ⟨trivial, rfl, eg.trans ?_⟩
      unfold partsT; rw [q]; rfl
    | false =>
      refine EvI.tuple ?_
      refine Ev.tuple ?_
      refine Es.cs ?_
      refine Ev.attrN rfl ?_
      refine Attr.func ⟨fd, ps[i].d, _, f1, d1, rfl, rfl⟩ fp_text ?_
      refine Es.cs ?_
      refine Ev.str ?_
      refine Es.nil ⟨le_line (Nat.le_of_ble_eq_true rfl), ?_⟩
      refine ⟨_, rfl, rfl, trivial, by simp, fun j => ([AV.str ps[i].text, .str "\t"]).getD j .none, eg.trans ?_, trivial, fun j hj => ?_⟩
      · unfold partsT; rw [q]; rfl
      · refine BindT.one rfl ?_
        refine ⟨⟨rfl, trivial⟩, rfl, ?_⟩
        exact Ev.name rfl ⟨rfl, rfl⟩
  · rw [List.length_map, range_flatMap ps (fun p => (partsT p.text).map .str) _ fun i hi => by simp [hi]]
    have : (ps.flatMap fun p => (partsT p.text).map AV.str) = (partsP ps).map .str := by unfold partsP; rw [List.map_flatMap]
    rw [this]; exact hQ

theorem ser_spec (hK : OkK K) {b : TB} {tail : Str} {ps : List Pl} {l : Nat} (T : Tbl h b tail ps) (hps : ps.length ≤ 100) (htl : tail.length ≤ 1000) (hl : h l = some (.list [])) (hlP : l ≠ b.P) (hQ : Q .none (h.put l (.list ((partsP ps ++ tailP tail).map .str)))) :
    Ca K (d + 4) (.raw (.ref 37)) [.bnd (.obj l) "list.append", .obj b.T] [] h Q := by
  obtain ⟨k, pm, F⟩ := hK.f3
  refine Ca.def (names := ["write", "elem"]) F rfl (bind2 fun u v => by kernel_rfl) (by decide +kernel) (by kernel_rfl) fun L => ?_
  obtain ⟨fdT, eT⟩ := T.T
  have hpl : (partsP ps).length ≤ 200 := by
    have : ∀ ps : List Pl, (partsP ps).length ≤ 2 * ps.length := by
      intro ps
      induction ps with
      | nil => simp [partsP]
      | cons p ps ih =>
        have e : partsP (p :: ps) = partsT p.text ++ partsP ps := rfl
        have : (partsT p.text).length ≤ 2 := by unfold partsT; split <;> simp
        rw [e, List.length_append, List.length_cons]; omega
    have := this ps; omega
  have tk : ∀ xs : List AV, Tbl (h.put l (.list xs)) b tail ps := fun xs => T.keep (Keep.upd (S := [l]) (List.mem_singleton.mpr rfl)) fun m hm o e => by
    have q := List.mem_singleton.mp hm
    rw [q, hl] at e; cases e; exact .inl ⟨rfl, q ▸ hlP⟩
  refine Exs.fo ?_
  refine EvI.list ?_
  refine Ev.meth (d := d + 2) ?_ rfl
  refine Ev.nm rfl ?_
  refine Meth.func ⟨fdT, b.D, _, eT, T.D, rfl, rfl⟩ fp_itertext ?_
  refine Es.nil ?_
  refine Ks.nil ⟨rfl, ?_⟩
  refine iter_spec T (by omega) ?_
  refine ⟨_, rfl, fun i B h' => B = ([("write", .bnd (.obj l) "list.append"), ("elem", .obj b.T)] : Lc) ∧ h' = h.put l (.list (((partsP ps).take i).map .str)), fun _ _ _ _ => rfl, ?_, ?_, ?_⟩
  · rintro i B h' hi ⟨rfl, rfl⟩
    have hib : i < (partsP ps).length := len_lt hi
    refine BindT.one (a := .str (partsP ps)[i]) (congrArg (fun z => [z]) (getD_map hib)) ?_
    refine Exs.exE ?_
    refine Ev.cl ?_ rfl
    refine Ev.nm rfl ?_
    refine Es.nm rfl ?_
    refine Es.nil ?_
    refine Ks.nil ⟨rfl, Kp.bnd, ?_⟩
    refine Ca.bndAppend (Hp.put_self ..) (by simp; omega) ?_
    refine Exs.next ⟨([("write", .bnd (.obj l) "list.append"), ("elem", .obj b.T)] : Lc), ⟨rfl, rfl, trivial⟩, rfl, ?_⟩
    rw [Hp.put_put, List.take_succ_eq_append_getElem hib, List.map_append]; rfl
  · rintro B L' h' hB ⟨rfl, rfl⟩
    refine Exs.endS ?_
    rw [List.length_map, List.take_length]
    have T2 := tk ((partsP ps).map .str)
    obtain ⟨fdT2, eT2⟩ := T2.T
    refine Exs.ifs ?_
    refine It.val ?_
    refine Ev.attrN rfl ?_
    refine Attr.func ⟨fdT2, b.D, _, eT2, T2.D, rfl, rfl⟩ fp_tail ?_
    refine Tru.str (by omega) ?_
    by_cases q : tail = ("" : Str)
    · subst q
      refine Exs.endS ?_
      refine Exs.next ?_
      have : tailP "" = [] := by kernel_rfl
      rw [this, List.append_nil] at hQ
      exact hQ
    · have e1 : (tail.length : Int) != 0 := by
        have : tail.length ≠ 0 := fun w => q (by
          obtain ⟨cps⟩ := tail
          have : cps = #[] := Array.eq_empty_of_size_eq_zero w
          subst this; kernel_rfl)
        simpa using this
      rw [e1]
      refine Exs.exE ?_
      refine Ev.cl ?_ rfl
      refine Ev.nm rfl ?_
      refine Es.cs ?_
      refine Ev.attrN rfl ?_
      refine Attr.func ⟨fdT2, b.D, _, eT2, T2.D, rfl, rfl⟩ fp_tail ?_
      refine Es.nil ?_
      refine Ks.nil ⟨rfl, Kp.bnd, ?_⟩
      refine Ca.bndAppend (Hp.put_self ..) (by simp; omega) ?_
      refine Exs.endS ?_
      refine Exs.next ?_
      have e2 : tailP tail = [tail] := by
        unfold tailP
        have : (tail == ("" : Str)) = false := by simpa using q
        rw [this]; rfl
      rw [e2, List.map_append] at hQ
      rw [Hp.put_put]
      exact hQ
  · refine ⟨([("write", .bnd (.obj l) "list.append"), ("elem", .obj b.T)] : Lc), ⟨rfl, rfl, trivial⟩, rfl, ?_⟩
    rw [List.take_zero]; exact (Hp.put_eq h hl).symm
end
end Mine
end

section
set_option maxHeartbeats 4000000
open PySem PySem.W PySem.Calls PyProof.Rows
namespace Mine

structure Wst where
  count : List Int
  b : Nat
  n : Nat
  nt : Nat
noncomputable def bumpP (c : List Int) (b : Nat) : List Int := if c.length ≤ b then c ++ List.replicate (b - c.length + 1) 0 else c
noncomputable def bump (c : List Int) (b : Nat) : List Int := (bumpP c b).set b ((bumpP c b).getD b 0 + 1)
noncomputable def wsRun : Wst → List Nat → Wst
  | s, [] => s
  | s, ch :: r => if ch = 32 then wsRun ⟨s.count, s.b + 1, s.n + 1, s.nt⟩ r else if ch = 9 then wsRun ⟨bump s.count s.b, 0, s.n + 1, s.nt + 1⟩ r else s
noncomputable def wsOf (x : Str) : Wst := wsRun ⟨[], 0, 0, 0⟩ x.cps.toList
noncomputable def normV (s : Wst) : AV := .tup [.tup (s.count.map .int), .int s.b]
noncomputable def wsA (x : Str) (s : Wst) : List (Str × AV) := [("raw", .str x), ("n", .int s.n), ("nt", .int s.nt), ("norm", normV s), ("is_simple", .bool (decide ((s.count.length : Int) ≤ 1)))]
theorem bumpP_len (c : List Int) (b : Nat) : b < (bumpP c b).length ∧ (bumpP c b).length ≤ max c.length (b + 1) := by
  unfold bumpP; split
  · rw [List.length_append, List.length_replicate]; omega
  · omega

/-- what must be so of the class -/
structure WsK (K : Bse) (F : Frag) (fI fL fE : Addr) (mc : Value) (tS tT : Tok) : Prop where
  X : ClsOk K F 142 141 fI "Whitespace" "Whitespace"
  init : FnM K 1 fI
  lev : FnM K 3 fL
  eq : FnM K 4 fE
  cL : ClsFn K 141 "indent_level" fL
  cE : ClsFn K 141 "equal" fE
  rd : readsIn F 142 mc = true
  S : findCls F (.ref 142) mc "S" = some (.val (.str " " tS))
  T : findCls F (.ref 142) mc "T" = some (.val (.str "\t" tT))
  no : ∀ x, x ∈ (["raw", "n", "nt", "norm", "is_simple"] : List Str) → ClsNo K 141 x
theorem op_raw : objPlain "raw" := by unfold objPlain; kernel_rfl
theorem op_n : objPlain "n" := by unfold objPlain; kernel_rfl
theorem op_nt : objPlain "nt" := by unfold objPlain; kernel_rfl
theorem op_norm : objPlain "norm" := by unfold objPlain; kernel_rfl
theorem op_simple : objPlain "is_simple" := by unfold objPlain; kernel_rfl
theorem op_equal : objPlain "equal" := by unfold objPlain; kernel_rfl
theorem op_level : objPlain "indent_level" := by unfold objPlain; kernel_rfl

/-- an instance that is being made -/
structure WsAt (h h' : Hp) (l ld lc : Nat) (es : Lc) (cnt : List Int) : Prop where
  l0 : h l = none
  ld0 : h ld = none
  lc0 : h lc = none
  i : h' l = some (.inst 142 ld)
  a : h' ld = some (.attrs es)
  c : h' lc = some (.list (cnt.map .int))
  k : Keep h h' []
theorem Keep.none {h h' : Hp} {S : List Nat} {l : Nat} (k : Keep h h' S) (e : h' l = none) (hl : l ∉ S) : h l = none := by
  cases q : h l with
  | none => rfl
  | some o => rw [k l o q hl] at e; cases e
theorem WsAt.cnt {h h' : Hp} {l ld lc : Nat} {es : Lc} {cnt cnt' : List Int} (x : WsAt h h' l ld lc es cnt) : WsAt h (h'.put lc (.list (cnt'.map .int))) l ld lc es cnt' := by
  have k : Keep h' (h'.put lc (.list (cnt'.map .int))) [lc] := Keep.upd (List.mem_singleton.mpr rfl)
  exact ⟨x.l0, x.ld0, x.lc0, k.ki x.i x.c, k.ki x.a x.c, Hp.put_self .., fun m o e hm => k m o (x.k m o e hm) fun w => by rw [List.mem_singleton.mp w, x.lc0] at e; cases e⟩

theorem WsAt.new {h h' : Hp} {l ld lc lc' : Nat} {es : Lc} {cnt cnt' : List Int} (x : WsAt h h' l ld lc es cnt) (hn : h' lc' = Option.none) : WsAt h (h'.put lc' (.list (cnt'.map .int))) l ld lc' es cnt' := by
  have k : Keep h' (h'.put lc' (.list (cnt'.map .int))) [] := Keep.new hn
  exact ⟨x.l0, x.ld0, x.k.none hn (fun z => nomatch z), k _ _ x.i (fun z => nomatch z), k _ _ x.a (fun z => nomatch z), Hp.put_self .., x.k.trans k⟩
theorem WsAt.set {h h' h2 : Hp} {l ld lc : Nat} {es es' : Lc} {cnt : List Int} (x : WsAt h h' l ld lc es cnt) (e : h2 ld = some (.attrs es')) (k : Keep h' h2 [ld]) : WsAt h h2 l ld lc es' cnt :=
  ⟨x.l0, x.ld0, x.lc0, k.ki x.i x.a, e, k.ki x.c x.a, fun m o e hm => k m o (x.k m o e hm) fun w => by rw [List.mem_singleton.mp w, x.ld0] at e; cases e⟩

section
variable {K : Bse} {c : Cx} {h : Hp} {Q : AV → Hp → Prop} {d : Nat} {F : Frag} {fI fL fE : Addr} {mc : Value} {tS tT : Tok}
theorem SetA.instK {l ld : Nat} {es : Lc} {name : Str} {b : AV} {Q : Hp → Prop} (W : WsK K F fI fL fE mc tS tT) (h1 : h l = some (.inst 142 ld)) (h2 : h ld = some (.attrs es)) (hm : name ∈ (["raw", "n", "nt", "norm", "is_simple"] : List Str)) (hB : objPlain name) (hsz : Nat.ble es.length 1000 = true) (hQ : ∀ h', h' ld = some (.attrs (setL es name b)) → Keep h h' [ld] → Q h') : SetA K c name (.obj l) b h Q :=
  SetA.inst W.X h1 h2 (Nat.le_of_ble_eq_true hsz) (W.no _ hm) hB (hQ _ (Hp.put_self ..) (Keep.upd (List.mem_singleton.mpr rfl)))
theorem blank_eq : (" " : Str) = ⟨#[32]⟩ := by kernel_rfl
theorem tab_eq : ("\t" : Str) = ⟨#[9]⟩ := by kernel_rfl
theorem chr_blank (cp : Nat) : ((⟨#[cp]⟩ : Str) == " ") = (cp == 32) := by
  rw [blank_eq, Bool.eq_iff_iff]; simp
theorem chr_tab (cp : Nat) : ((⟨#[cp]⟩ : Str) == "\t") = (cp == 9) := by
  rw [tab_eq, Bool.eq_iff_iff]; simp

noncomputable def bW (l lc : Nat) (x : Str) (s : Wst) : Lc := [("self", .obj l), ("ws", .str x), ("S", .str " "), ("T", .str "\t"), ("count", .obj lc), ("b", .int s.b), ("n", .int s.n), ("nt", .int s.nt)]

/-- what comes behind the loop -/
theorem ws_fin (hK : OkK K) (W : WsK K F fI fL fE mc tS tT) {h0 : Hp} {l ld lc : Nat} {x : Str} {s : Wst} {k : Addr} {pm : Value} {L : Addr} (A : WsAt h0 h l ld lc [("raw", .str x)] s.count) (hc : s.count.length ≤ 1000)
    (hQ : ∀ h', Keep h0 h' [] → h' l = some (.inst 142 ld) → h' ld = some (.attrs (wsA x s)) → Q .none h') :
    Exs K ((⟨d + 1, callEnvC (fdOf (methI 14 1) "Whitespace." k .none pm) L fI, true, []⟩ : Cx).at (bW l lc x s)) ((bodyO (methI 14 1)).drop 5) h (Rt Q) := by
  refine Exs.asP ?_
  refine Ev.nm rfl ?_
  refine As.attrN rfl ?_
  refine SetA.instK W A.i A.a (by simp) op_n rfl fun h1 e1 k1 => ?_
  have A1 := A.set e1 k1
  refine Exs.asP ?_
  refine Ev.nm rfl ?_
  refine As.attrN rfl ?_
  refine SetA.instK W A1.i A1.a (by simp) op_nt rfl fun h2 e2 k2 => ?_
  have A2 := A1.set e2 k2
  refine Exs.asP ?_
  refine Ev.tuple ?_
  refine Es.cs ?_
  refine Ev.clB hK rfl rfl rfl ?_
  refine Es.nm rfl ?_
  refine Es.nil ?_
  refine Ca.tupleOf (readL_obj A2.c) (le_line (by simpa using hc)) ?_
  refine Es.nm rfl ?_
  refine Es.nil ⟨le_line (Nat.le_of_ble_eq_true rfl), ?_⟩
  refine As.attrN rfl ?_
  refine SetA.instK W A2.i A2.a (by simp) op_norm rfl fun h3 e3 k3 => ?_
  have A3 := A2.set e3 k3
  refine Exs.asP ?_
  refine Ev.compare ?_
  refine Ev.lenN hK rfl rfl rfl (readL_obj A3.c) (by simp; omega) ?_
  refine Ev.int ?_
  refine Op2.le ?_
  refine As.attrN rfl ?_
  refine SetA.instK W A3.i A3.a (by simp) op_simple rfl fun h4 e4 k4 => ?_
  have A4 := A3.set e4 k4
  refine Exs.next ?_
  rw [List.length_map] at A4
  exact hQ _ A4.k A4.i A4.a
end
end Mine
end

section
set_option maxHeartbeats 4000000
open PySem PySem.W PySem.Calls PyProof.Rows
namespace Mine

theorem wsRun_32 (s : Wst) (r : List Nat) : wsRun s (32 :: r) = wsRun ⟨s.count, s.b + 1, s.n + 1, s.nt⟩ r := rfl
theorem wsRun_9 (s : Wst) (r : List Nat) : wsRun s (9 :: r) = wsRun ⟨bump s.count s.b, 0, s.n + 1, s.nt + 1⟩ r := rfl
theorem wsRun_no (s : Wst) (ch : Nat) (r : List Nat) (h1 : ch ≠ 32) (h2 : ch ≠ 9) : wsRun s (ch :: r) = s := by simp [wsRun, h1, h2]

section
variable {K : Bse} {c : Cx} {h : Hp} {Q : AV → Hp → Prop} {d : Nat} {F : Frag} {fI fL fE : Addr} {mc : Value} {tS tT : Tok}
theorem ws_init (hK : OkK K) (W : WsK K F fI fL fE mc tS tT) {h0 : Hp} {l ld : Nat} {x : Str} (hx : x.cps.all (· < 128) = true) (hsz : x.cps.size ≤ 1000) (h1 : h l = some (.inst 142 ld)) (h2 : h ld = some (.attrs [])) (hl0 : h0 l = none) (hld0 : h0 ld = none) (hk : Keep h0 h [])
    (hQ : ∀ h', Keep h0 h' [] → h' l = some (.inst 142 ld) → h' ld = some (.attrs (wsA x (wsOf x))) → Q .none h') :
    CaC K (d + 2) (.raw (.ref fI)) [.obj l, .str x] [] h Q := by
  obtain ⟨k, pm, F1⟩ := W.init
  refine CaC.fn0 (names := ["self", "ws"]) F1 rfl (bind2 fun u v => by kernel_rfl) (by decide +kernel) (by kernel_rfl) fun L => ?_
  refine Exs.mono (Q := Rt Q) ?_ fun f L' h2 q => by cases f <;> exact q
  show Exs K ((⟨d + 1, callEnvC (fdOf (methI 14 1) "Whitespace." k .none pm) L fI, true, []⟩ : Cx).at [("self", .obj l), ("ws", .str x)]) (bodyO (methI 14 1)) h (Rt Q)
  refine Exs.asP ?_
  refine Ev.nm rfl ?_
  refine As.attrN rfl ?_
  refine SetA.instK W h1 h2 (by simp) op_raw rfl fun h3 a3 k3 => ?_
  have i3 := k3.ki h1 h2
  have kk3 : Keep h0 h3 [] := fun m o e hm => k3 m o (hk m o e hm) fun w => by rw [List.mem_singleton.mp w, hld0] at e; cases e
  refine Exs.go (Ex.asgSwap (names := ["S", "T"]) ?_)
  refine Ev.tuple ?_
  refine Es.cs ?_
  refine Ev.attr ?_
  refine Ev.G hK rfl rfl ?_
  refine Attr.cls W.X.sub W.rd W.S rfl (fun G => ⟨tS, rfl⟩) (av := .str " ") ?_
  refine Es.cs ?_
  refine Ev.attr ?_
  refine Ev.G hK rfl rfl ?_
  refine Attr.cls W.X.sub W.rd W.T rfl (fun G => ⟨tT, rfl⟩) (av := .str "\t") ?_
  refine Es.nil ⟨le_line (Nat.le_of_ble_eq_true rfl), _, rfl, rfl, ?_⟩
  refine Ass.consB (.inl (by kernel_rfl)) ?_
  refine Ass.consB (.inl (by kernel_rfl)) ?_
  refine Ass.nil ?_
  refine Exs.asL ?_
  refine Ev.listM ?_
  refine Es.nil ⟨by decide, fun lc hlc => ?_⟩
  have A0 : WsAt h0 (h3.put lc (.list [])) l ld lc [("raw", .str x)] [] := by
    have k4 : Keep h3 (h3.put lc (.list [])) [] := Keep.new hlc
    exact ⟨hl0, hld0, kk3.none hlc (fun z => nomatch z), k4 _ _ i3 (fun z => nomatch z), k4 _ _ a3 (fun z => nomatch z), Hp.put_self .., kk3.trans k4⟩
  generalize h3.put lc (.list []) = h4 at A0
  refine Exs.go (Ex.asg3 ?_)
  refine Ev.int ?_
  refine As.name (.inl (by kernel_rfl)) ?_
  refine As.name (.inl (by kernel_rfl)) ?_
  refine As.name (.inl (by kernel_rfl)) ?_
  refine Exs.fo ?_
  refine EvI.ascii ?_
  refine Ev.attrN rfl ?_
  refine Attr.inst W.X ⟨ld, A0.i, .inl A0.a⟩ (W.no _ (by simp)) op_raw (av := .str x) rfl rfl ?_
  refine ⟨x, rfl, hx, fun i B h' => ∃ lc s, B = bW l lc x s ∧ WsAt h0 h' l ld lc [("raw", .str x)] s.count ∧ s.b ≤ i ∧ s.count.length ≤ i ∧ i ≤ x.cps.size ∧ wsRun s (x.cps.toList.drop i) = wsOf x, fun _ _ _ _ => trivial, ?_, ?_, ?_⟩
  · rintro i B h' hi ⟨lc, s, rfl, A, hb, hcl, hi', hrun⟩
    have hit : i < x.cps.toList.length := by simpa using hi
    rw [List.drop_eq_getElem_cons hit] at hrun
    have eg : x.cps.getD i 0 = x.cps.toList[i] := by simp [hi]
    refine BindT.one rfl ?_
    rw [eg]
    generalize x.cps.toList[i] = cp at hrun
    refine Exs.ifs ?_
    refine It.cmpNN rfl rfl ?_
    refine Op2.eqS (Tru.bool ?_)
    rw [chr_blank]
    by_cases q1 : cp = 32
    · subst q1
      rw [wsRun_32] at hrun
      refine Exs.asL ?_
      refine Ev.binNI rfl ?_
      refine Op2.add ?_
      refine Exs.asL ?_
      refine Ev.binNI rfl ?_
      refine Op2.add ?_
      refine Exs.endS ?_
      refine Exs.next ⟨bW l lc x ⟨s.count, s.b + 1, s.n + 1, s.nt⟩, ⟨rfl, rfl, rfl, rfl, rfl, rfl, rfl, rfl, trivial⟩, lc, _, rfl, A, ?_, ?_, hi, hrun⟩
      · exact Nat.succ_le_succ hb
      · exact Nat.le_succ_of_le hcl
    have e1 : (cp == 32) = false := by simpa using q1
    rw [e1]
    refine Exs.ifs ?_
    refine It.cmpNN rfl rfl ?_
    refine Op2.eqS (Tru.bool ?_)
    rw [chr_tab]
    by_cases q2 : cp = 9
    · subst q2
      rw [wsRun_9] at hrun
      have fin : ∀ lc' h2, WsAt h0 h2 l ld lc' [("raw", .str x)] (bumpP s.count s.b) → Exs K ((⟨d + 1, callEnvC (fdOf (methI 14 1) "Whitespace." k .none pm) L fI, true, []⟩ : Cx).at [("self", .obj l), ("ws", .str x), ("S", .str " "), ("T", .str "\t"), ("count", .obj lc'), ("b", .int s.b), ("n", .int (s.n + 1)), ("nt", .int (s.nt + 1)), ("ch", .str ⟨#[9]⟩)])
          (match bodyO (methI 14 1) with | _ :: _ :: _ :: _ :: .For _ _ [.If _ _ [.If _ r _ _] _] _ _ :: _ => r.drop 3 | _ => []) h2 (Seq K (⟨d + 1, callEnvC (fdOf (methI 14 1) "Whitespace." k .none pm) L fI, true, []⟩ : Cx) [] (Seq K (⟨d + 1, callEnvC (fdOf (methI 14 1) "Whitespace." k .none pm) L fI, true, []⟩ : Cx) [] (Trn (fun B h' => ∃ lc s, B = bW l lc x s ∧ WsAt h0 h' l ld lc [("raw", .str x)] s.count ∧ s.b ≤ i + 1 ∧ s.count.length ≤ i + 1 ∧ i + 1 ≤ x.cps.size ∧ wsRun s (x.cps.toList.drop (i + 1)) = wsOf x) (Seq K (⟨d + 1, callEnvC (fdOf (methI 14 1) "Whitespace." k .none pm) L fI, true, []⟩ : Cx) ((bodyO (methI 14 1)).drop 5) (Rt Q))))) := by
        intro lc' h2 A2
        obtain ⟨hb1, hb2⟩ := bumpP_len s.count s.b
        have eP : (bumpP s.count s.b)[s.b]? = some ((bumpP s.count s.b).getD s.b 0) := by simp [hb1]
        refine Exs.asP ?_
        refine Ev.binop ?_
        refine Ev.sub ?_
        refine Ev.nm rfl ?_
        refine Ev.nm rfl ?_
        refine GetI.list (x := .int ((bumpP s.count s.b).getD s.b 0)) (readL_obj A2.c) (by omega) (by omega) (by rw [Int.toNat_natCast, List.getElem?_map, eP]; rfl) ?_
        refine Ev.int ?_
        refine Op2.add ?_
        refine As.sub ?_
        refine Ev.nm rfl ?_
        refine Ev.nm rfl ?_
        refine SetI.list A2.c (by simpa using hb1) (by simp; omega) ?_
        refine Exs.asL ?_
        refine Ev.int ?_
        refine Exs.endS ?_
        refine Exs.endS ?_
        refine Exs.next ⟨bW l lc' x ⟨bump s.count s.b, 0, s.n + 1, s.nt + 1⟩, ⟨rfl, rfl, rfl, rfl, rfl, rfl, rfl, rfl, trivial⟩, lc', _, rfl, ?_, Nat.zero_le _, ?_, hi, hrun⟩
        · have := A2.cnt (cnt' := bump s.count s.b)
          unfold bump at this
          rw [List.map_set] at this
          exact this
        · show (bump s.count s.b).length ≤ i + 1
          unfold bump; rw [List.length_set]; omega
      refine Exs.asL ?_
      refine Ev.binNI rfl ?_
      refine Op2.add ?_
      refine Exs.asL ?_
      refine Ev.binNI rfl ?_
      refine Op2.add ?_
      refine Exs.ifs ?_
      refine It.compare ?_
      refine Ev.nm rfl ?_
      refine Ev.lenN hK rfl rfl rfl (readL_obj A.c) (by simp; omega) ?_
      refine Op2.ge (Tru.bool ?_)
      rw [List.length_map]
      by_cases q3 : s.count.length ≤ s.b
      · rw [show decide ((s.b : Int) ≥ (s.count.length : Int)) = true by simpa using q3]
        refine Exs.asL ?_
        refine Ev.binN rfl ?_
        refine Ev.binop ?_
        refine Ev.list ?_
        refine Es.cs ?_
        refine Ev.int ?_
        refine Es.nil ⟨le_line (Nat.le_of_ble_eq_true rfl), ?_⟩
        refine Ev.binop ?_
        refine Ev.binN rfl ?_
        refine Ev.lenN hK rfl rfl rfl (readL_obj A.c) (by simp; omega) ?_
        refine Op2.sub ?_
        refine Ev.int ?_
        refine Op2.add ?_
        rw [List.length_map]
        refine Op2.mulL rfl (by omega) (by omega) ?_
        rw [show ((s.b : Int) - (s.count.length : Int) + 1).toNat = s.b - s.count.length + 1 by omega]
        refine Op2.addLM (readL_obj A.c) rfl (le_line (by simp; omega)) fun lc' hlc' => ?_
        refine Exs.endS ?_
        refine fin lc' _ ?_
        have := A.new (cnt' := bumpP s.count s.b) hlc'
        unfold bumpP at this ⊢
        rw [if_pos q3] at this ⊢
        rw [List.map_append, List.map_replicate] at this
        exact this
      · rw [show decide ((s.b : Int) ≥ (s.count.length : Int)) = false by simpa using (by omega : s.b < s.count.length)]
        refine Exs.endS ?_
        refine fin lc _ ?_
        unfold bumpP; rw [if_neg q3]; exact A
    have e2 : (cp == 9) = false := by simpa using q2
    rw [wsRun_no _ _ _ q1 q2] at hrun
    rw [e2]
    refine Exs.brk ?_
    have := ws_fin (Q := Q) hK W (k := k) (pm := pm) (L := L) (d := d) A (by omega) fun h' k1 i1 a1 => hQ h' k1 i1 (by rw [← hrun]; exact a1)
    have hB : SubL (bW l lc x s) (setL (bW l lc x s) "ch" (.str ⟨#[cp]⟩)) := ⟨rfl, rfl, rfl, rfl, rfl, rfl, rfl, rfl, trivial⟩
    exact fun A' G s' hA R => this A' G s' hA (Rel.sub R fun _ _ e => hB.get e)
  · rintro B L' h' hB ⟨lc, s, rfl, A, hb, hcl, hi', hrun⟩
    refine Exs.endS ?_
    have e : x.cps.toList.drop x.cps.size = [] := by rw [List.drop_eq_nil_iff]; simp
    rw [e] at hrun
    have hrun : s = wsOf x := hrun
    exact ws_fin (Q := Q) hK W (k := k) (pm := pm) (L := L) (d := d) A (by omega) fun h' k1 i1 a1 => hQ h' k1 i1 (by rw [← hrun]; exact a1)
  · exact ⟨bW l lc x ⟨[], 0, 0, 0⟩, ⟨rfl, rfl, rfl, rfl, rfl, rfl, rfl, rfl, trivial⟩, lc, ⟨[], 0, 0, 0⟩, rfl, A0, Nat.le_refl _, Nat.le_refl _, Nat.zero_le _, rfl⟩

/-- the class is called -/
theorem ws_spec (hK : OkK K) (W : WsK K F fI fL fE mc tS tT) {x : Str} (hx : x.cps.all (· < 128) = true) (hsz : x.cps.size ≤ 1000)
    (hQ : ∀ l ld h', h l = none → h ld = none → Keep h h' [] → h' l = some (.inst 142 ld) → h' ld = some (.iattrs (wsA x (wsOf x))) → Q (.obj l) h') :
    Ca K (d + 3) (.raw (.ref 142)) [.str x] [] h Q := by
  refine Ca.ghost (Q := fun v h1 => ∃ l ld, v = .obj l ∧ h l = none ∧ h ld = none ∧ Keep h h1 [] ∧ h1 l = some (.inst 142 ld) ∧ h1 ld = some (.attrs (wsA x (wsOf x)))) ?_ ?_
  · refine Ca.cls W.X fun l ld hld hl => ?_
    have hne : l ≠ ld := fun q => by rw [q, Hp.put_self] at hl; cases hl
    have hl0 : h l = none := by rw [Hp.put_ne _ _ hne] at hl; exact hl
    have k1 : Keep h ((h.put ld (.attrs [])).put l (.inst 142 ld)) [] := (Keep.new hld).trans (Keep.new hl)
    refine ws_init (Q := fun v h' => v = .none ∧ _) hK W hx hsz (Hp.put_self ..) (by rw [Hp.put_ne _ _ (Ne.symm hne), Hp.put_self]) hl0 hld k1 fun h' k2 i2 a2 => ⟨rfl, l, ld, rfl, hl0, hld, k2, i2, a2⟩
  · rintro v h1 ⟨l, ld, rfl, hl, hld, k1, i1, a1⟩
    refine ⟨_, Gs.iattrs a1, hQ l ld _ hl hld ?_ ?_ (Hp.put_self ..)⟩
    · intro m o e hm
      rw [Hp.put_ne]
      · exact k1 m o e hm
      · rintro rfl; rw [hld] at e; cases e
    · rw [Hp.put_ne]
      · exact i1
      · rintro rfl; rw [i1] at a1; cases a1
end
end Mine
end

section
set_option maxHeartbeats 4000000
open PySem PySem.W PySem.Calls PyProof.Rows
namespace Mine

noncomputable def nEq (s s' : Wst) : Bool := (s.count == s'.count) && (s.b == s'.b)
noncomputable def levUp (c : List Int) (t : Nat) : Nat → Int
  | 0 => 0
  | k + 1 => levUp c t k + ((t + k : Nat) : Int).fdiv t * c.getD (t + k) 0
noncomputable def levOf (s : Wst) (t : Nat) : Int := s.b + t * (levUp s.count t (s.count.length - t) + s.nt)

theorem all_getD (xs ys : List Int) : (xs.length == ys.length && (List.range xs.length).all fun i => xs.getD i 0 == ys.getD i 0) = (xs == ys) := by
  rw [Bool.eq_iff_iff, Bool.and_eq_true, beq_iff_eq, beq_iff_eq, List.all_eq_true]
  constructor
  · rintro ⟨h1, h2⟩
    refine List.ext_getElem h1 fun i a b => ?_
    have := h2 i (List.mem_range.mpr a)
    simpa [a, b] using this
  · rintro rfl
    exact ⟨rfl, fun i _ => by simp⟩
theorem Cmp.ints (n : Nat) (xs ys : List Int) : Cmp (n + 1) (.tup (xs.map .int)) (.tup (ys.map .int)) (xs == ys) := by
  have := Cmp.tup n (xs.map .int) (ys.map .int) (fun i => xs.getD i 0 == ys.getD i 0) fun j x y hx hy => by
    rw [List.getElem?_map, Option.map_eq_some_iff] at hx hy
    obtain ⟨a, ha, rfl⟩ := hx
    obtain ⟨b, hb, rfl⟩ := hy
    have e1 : xs.getD j 0 = a := by simp [ha]
    have e2 : ys.getD j 0 = b := by simp [hb]
    show Cmp n _ _ (xs.getD j 0 == ys.getD j 0)
    rw [e1, e2]; exact Cmp.int ..
  rw [List.length_map, List.length_map, all_getD] at this
  exact this
theorem rs_one (a b : Nat) : Builtin.Range.rangeSize a b 1 = ((b - a : Nat) : Int) := by
  unfold Builtin.Range.rangeSize
  rw [if_pos (by decide)]
  split <;> omega

section
variable {K : Bse} {c : Cx} {h : Hp} {Q : AV → Hp → Prop} {d : Nat} {F : Frag} {fI fL fE : Addr} {mc : Value} {tS tT : Tok}
theorem equal_spec (W : WsK K F fI fL fE mc tS tT) {l l' : Nat} {x x' : Str} {s s' : Wst} (h1 : InstA h 142 l (wsA x s)) (h2 : InstA h 142 l' (wsA x' s')) (hQ : Q (.bool (nEq s s')) h) : Kp K (.raw (.ref fE)) h ∧ Ca K (d + 1) (.raw (.ref fE)) [.obj l, .obj l'] [] h Q := by
  obtain ⟨k, pm, F1⟩ := W.eq
  refine ⟨F1.kp, Ca.def (names := ["self", "other"]) F1 rfl (bind2 fun u v => by kernel_rfl) (by decide +kernel) (by kernel_rfl) fun L => ?_⟩
  refine Exs.ret ?_
  refine Ev.compare ?_
  refine Ev.attrN rfl ?_
  refine Attr.inst W.X h1 (W.no _ (by simp)) op_norm (av := normV s) rfl rfl ?_
  refine Ev.attrN rfl ?_
  refine Attr.inst W.X h2 (W.no _ (by simp)) op_norm (av := normV s') rfl rfl ?_
  refine Op2.eqT (n := 1) (e := fun j => if j = 0 then s.count == s'.count else s.b == s'.b) ?_ (by decide) ?_
  · intro j x y hx hy
    match j, hx, hy with
    | 0, hx, hy => cases hx; cases hy; exact Cmp.ints 0 _ _
    | 1, hx, hy =>
      cases hx; cases hy
      have := Cmp.int 1 s.b s'.b
      have e : ((s.b : Int) == (s'.b : Int)) = (s.b == s'.b) := by rw [Bool.eq_iff_iff, beq_iff_eq, beq_iff_eq]; omega
      rw [e] at this; exact this
    | j + 2, hx, hy => simp at hx
  · have : (([AV.tup (s.count.map .int), .int s.b].length == [AV.tup (s'.count.map .int), .int s'.b].length) && (List.range [AV.tup (s.count.map .int), .int s.b].length).all fun j => if j = 0 then s.count == s'.count else s.b == s'.b) = nEq s s' := by
      simp [nEq, List.range_succ]
    rw [this]; exact hQ

theorem level_spec (hK : OkK K) (W : WsK K F fI fL fE mc tS tT) {l : Nat} {x : Str} {s : Wst} {t : Nat} (h1 : InstA h 142 l (wsA x s)) (ht : 1 ≤ t) (ht' : t ≤ 1000) (hc : s.count.length ≤ 1000) (hQ : Q (.int (levOf s t)) h) : Kp K (.raw (.ref fL)) h ∧ Ca K (d + 2) (.raw (.ref fL)) [.obj l, .int t] [] h Q := by
  obtain ⟨k, pm, F1⟩ := W.lev
  refine ⟨F1.kp, Ca.def (names := ["self", "tabsize"]) F1 rfl (bind2 fun u v => by kernel_rfl) (by decide +kernel) (by kernel_rfl) fun L => ?_⟩
  refine Exs.asgT ?_
  refine Ev.attrN rfl ?_
  refine Attr.inst W.X h1 (W.no _ (by simp)) op_norm (av := normV s) rfl rfl ?_
  refine As.tupleT rfl (by kernel_rfl) ?_
  refine Ass.cons ?_
  refine As.name (.inl (by kernel_rfl)) ?_
  refine Ass.cons ?_
  refine As.name (.inl (by kernel_rfl)) ?_
  refine Ass.nil ?_
  refine Exs.asL ?_
  refine Ev.int ?_
  refine Exs.fo ?_
  refine EvI.range ?_
  refine Ev.clB hK rfl rfl rfl ?_
  refine Es.nm rfl ?_
  refine Es.cs ?_
  refine Ev.clB hK rfl rfl rfl ?_
  refine Es.nm rfl ?_
  refine Es.nil ?_
  refine Ca.lenT (by simp; omega) ?_
  refine Es.nil ?_
  refine Ca.range2 ?_
  rw [List.length_map]
  refine ⟨_, _, _, rfl, PySem.small_one (by omega) (by omega) (by omega) (by omega), s.count.length - t, (rs_one t s.count.length).symm, fun i B h' => h' = h ∧ B = ([("self", .obj l), ("tabsize", .int t), ("count", .tup (s.count.map .int)), ("trailing", .int s.b), ("il", .int (levUp s.count t i))] : Lc), fun _ _ _ _ => trivial, ?_, ?_, ?_⟩
  · rintro i B h' hi ⟨rfl, rfl⟩
    have e0 : (t : Int) + i * 1 = ((t + i : Nat) : Int) := by omega
    refine BindT.one (congrArg (fun z => [AV.int z]) e0) ?_
    refine Exs.asL ?_
    refine Ev.binN rfl ?_
    refine Ev.binop ?_
    refine Ev.binNN rfl rfl ?_
    refine Op2.floordiv (by omega) (PyProof.noPylong_small (by omega)) ?_
    refine Ev.sub ?_
    refine Ev.nm rfl ?_
    refine Ev.nm rfl ?_
    refine GetI.tuple (x := .int (s.count.getD (t + i) 0)) (by omega) (by rw [List.length_map]; omega) (by rw [List.length_map]; omega) ?_ ?_
    · rw [Int.toNat_natCast, List.getElem?_map]
      have : t + i < s.count.length := by omega
      simp [this]
    refine Op2.mul ?_ (IntMulOk.of_left (intBits_le_64 ?_ ?_))
    · refine Op2.add ?_
      refine Exs.next ⟨_, ?_, rfl, rfl⟩
      exact ⟨rfl, rfl, rfl, rfl, rfl, trivial⟩
    · have : (0 : Int) ≤ ((t + i : Nat) : Int).fdiv t := Int.fdiv_nonneg (by omega) (by omega)
      omega
    · have : ((t + i : Nat) : Int).fdiv t ≤ ((t + i : Nat) : Int) := by
        rw [Int.fdiv_eq_ediv_of_nonneg _ (by omega)]
        exact Int.ediv_le_self _ (by omega)
      omega
  · rintro B L' h' hB ⟨rfl, rfl⟩
    refine Exs.endS ?_
    refine Exs.ret ?_
    refine Ev.binN rfl ?_
    refine Ev.binN rfl ?_
    refine Ev.binN rfl ?_
    refine Ev.attrN rfl ?_
    refine Attr.inst W.X h1 (W.no _ (by simp)) op_nt (av := .int s.nt) rfl rfl ?_
    refine Op2.add ?_
    refine Op2.mul ?_ (IntMulOk.of_left (intBits_le_64 (by omega) (by omega)))
    refine Op2.add ?_
    exact hQ
  · exact ⟨([("self", .obj l), ("tabsize", .int t), ("count", .tup (s.count.map .int)), ("trailing", .int s.b), ("il", .int (levUp s.count t 0))] : Lc), ⟨rfl, rfl, rfl, rfl, rfl, trivial⟩, rfl, rfl⟩
end
end Mine
end

section
set_option maxHeartbeats 4000000
open PySem PySem.W PySem.Calls PyProof.Rows
namespace Mine

noncomputable def overOf (row : List Int) (k : Nat) : List Int := (List.range (k + 1)).map fun i => row.reverse.getD i 0 - ((k : Int) - i)
noncomputable def is01 (x : Int) : Bool := x == 0 || x == 1
noncomputable def flagsOf (row : List Int) (k : Nat) : Int :=
  if k + 1 < row.length || !(overOf row k).all is01 then -1 else ((List.range (overOf row k).length).map fun i => (overOf row k).getD i 0 * 2 ^ i).sum

theorem range_filterMap {α β : Type} (xs : List α) (g : Nat → Option β) (f : α → Option β) (hg : ∀ i (hi : i < xs.length), g i = f xs[i]) : (List.range xs.length).filterMap g = xs.filterMap f := by
  have e1 : (List.range xs.length).filterMap g = ((List.range xs.length).map g).filterMap id := by rw [List.filterMap_map]; rfl
  have e2 : xs.filterMap f = (xs.map f).filterMap id := by rw [List.filterMap_map]; rfl
  rw [e1, e2]
  refine congrArg _ (List.ext_getElem (by simp) fun i h1 h2 => ?_)
  simp at h1 h2
  simp [hg i h2]
theorem range_map {β : Type} (n : Nat) (g : Nat → Option β) (f : Nat → β) (hg : ∀ i, i < n → g i = some (f i)) : (List.range n).filterMap g = (List.range n).map f := by
  rw [show (List.range n).filterMap g = ((List.range n).map g).filterMap id by rw [List.filterMap_map]; rfl, List.map_congr_left (g := fun i => some (f i)) fun i hi => hg i (List.mem_range.mp hi), List.filterMap_map]
  exact congrFun List.filterMap_eq_map _
theorem Cmps.nil {n : Nat} {xs : List AV} : Cmps n xs [] (fun _ => true) := fun j x y _ hy => by simp at hy

section
variable {K : Bse} {c : Cx} {h : Hp} {Q : AV → Hp → Prop} {d : Nat}
theorem flags_spec (hK : OkK K) {row : List Int} {k : Nat} (hr : row.length ≤ 100) (hk : k ≤ 20) (hQ : Q (.int (flagsOf row k)) h) : Ca K (d + 2) (.raw (.ref 193)) [.list (row.map .int), .int k] [] h Q := by
  obtain ⟨kk, pm, F⟩ := hK.f22
  refine Ca.def (names := ["row", "k"]) F rfl (bind2 fun u v => by kernel_rfl) (by decide +kernel) (by kernel_rfl) fun L => ?_
  refine Exs.asgComp (ml := false) (cl := []) (Lcap := []) ⟨by kernel_rfl, trivial, List.nodup_nil, by kernel_rfl, trivial⟩ ?_
  refine CompE.one ?_
  refine EvI.zipR ?_
  refine Ev.B hK rfl rfl ⟨rfl, ?_⟩
  refine Ev.binop ?_
  refine Ev.sliceL ?_
  refine Ev.nm rfl ?_
  show Ev _ _ _ _ _
  refine Ev.neg ?_
  refine Ev.int ?_
  refine Op1.neg ⟨-1, rfl, _, rfl, le_line (by simp; omega), by simp, ?_⟩
  rw [pickL_map, pickN_rev]
  refine Ev.binop ?_
  refine Ev.list ?_
  refine Es.cs ?_
  refine Ev.int ?_
  refine Es.nil ⟨le_line (Nat.le_of_ble_eq_true rfl), ?_⟩
  refine Ev.binop ?_
  refine Ev.binNI rfl ?_
  refine Op2.add ?_
  refine Ev.lenN hK rfl rfl rfl rfl (by simp; omega) ?_
  refine Op2.sub ?_
  rw [List.length_map]
  refine Op2.mulL rfl (by omega) (by omega) ?_
  refine Op2.addL rfl rfl (le_line (by simp; omega)) ?_
  have eA : row.reverse.map AV.int ++ List.replicate ((k : Int) + 1 - (row.length : Int)).toNat (AV.int 0) = (row.reverse ++ List.replicate (k + 1 - row.length) 0).map AV.int := by
    rw [List.map_append, List.map_replicate, show ((k : Int) + 1 - (row.length : Int)).toNat = k + 1 - row.length by omega]
  rw [eA]
  refine Ev.clB hK rfl rfl rfl ?_
  refine Es.nm rfl ?_
  refine Es.cs ?_
  refine Ev.neg ?_
  refine Ev.int ?_
  refine Op1.neg ?_
  refine Es.cs ?_
  refine Ev.neg ?_
  refine Ev.int ?_
  refine Op1.neg ?_
  refine Es.nil ?_
  refine Ca.range3 (by decide) (PyProof.noPylong_small (by decide)) ?_
  have hlen : (row.reverse ++ List.replicate (k + 1 - row.length) (0 : Int)).length = max row.length (k + 1) := by simp; omega
  refine ⟨_, _, _, _, rfl, rfl, PySem.W.small_down (by omega) (by omega) (by omega) (by omega), k + 1, ?_, rfl, ?_, fun i => some (.int (row.reverse.getD i 0 - ((k : Int) - i))), fun C i hi => ?_, ?_⟩
  · rw [PySem.W.rangeSize_downNat]; omega
  · rw [List.length_map, hlen]; omega
  · rw [List.length_map, hlen] at hi
    have hi1 : i < (row.reverse ++ List.replicate (k + 1 - row.length) (0 : Int)).length := by rw [hlen]; omega
    have ei : [((row.reverse ++ List.replicate (k + 1 - row.length) 0).map AV.int).getD i .none, AV.int ((k : Int) + i * (-1))] = [.int (row.reverse.getD i 0), .int ((k : Int) - i)] := by
      rw [getD_int _ _ hi1]
      refine congr (congrArg _ (congrArg _ ?_)) (congrArg (fun z => [AV.int z]) (by omega))
      by_cases q : i < row.reverse.length
      · rw [List.getElem_append_left q, List.getD_eq_getElem?_getD, List.getElem?_eq_getElem q]; rfl
      · rw [List.getElem_append_right (by omega), List.getElem_replicate]
        rw [List.getD_eq_getElem?_getD, List.getElem?_eq_none (by omega)]; rfl
    refine BindT.two ei ?_
    refine ⟨trivial, ?_⟩
    refine Ev.binNN rfl rfl ?_
    exact Op2.sub ⟨rfl, rfl⟩
  have eO : (List.range (min ((row.reverse ++ List.replicate (k + 1 - row.length) 0).map AV.int).length (k + 1))).filterMap (fun i => some (AV.int (row.reverse.getD i 0 - ((k : Int) - i)))) = (overOf row k).map .int := by
    rw [List.length_map, hlen, show min (max row.length (k + 1)) (k + 1) = k + 1 by omega, range_map _ _ _ fun i _ => rfl]
    unfold overOf; rw [List.map_map]; rfl
  rw [eO]
  have hol : (overOf row k).length = k + 1 := by unfold overOf; rw [List.length_map, List.length_range]
  have hres : (k + 1 < row.length || !(overOf row k).all is01) = true → flagsOf row k = -1 := fun e => by unfold flagsOf; rw [e]; rfl
  have hres0 : (k + 1 < row.length || !(overOf row k).all is01) = false → flagsOf row k = ((List.range (overOf row k).length).map fun i => (overOf row k).getD i 0 * 2 ^ i).sum := fun e => by unfold flagsOf; rw [e]; rfl
  generalize overOf row k = ov at hol hres hres0 ⊢
  refine Exs.ifs ?_
  refine It.boolop ?_
  refine AllT.or_cons ?_
  refine It.compare ?_
  refine Ev.lenN hK rfl rfl rfl rfl (by simp; omega) ?_
  refine Ev.binNI rfl ?_
  refine Op2.add ?_
  refine Op2.gt (Tru.bool ?_)
  rw [List.length_map]
  have eg : decide (((row.length : Nat) : Int) > (k : Int) + 1) = decide (k + 1 < row.length) := by rw [Bool.eq_iff_iff, decide_eq_true_eq, decide_eq_true_eq]; omega
  rw [eg]
  have hneg : ∀ b : Bool, b = true → (b = true → flagsOf row k = -1) → Q (.int (-1)) h := fun b e w => by rw [← w e]; exact hQ
  cases q1 : decide (k + 1 < row.length) with
  | true =>
    refine Exs.ret ?_
    refine Ev.neg ?_
    refine Ev.int ?_
    refine Op1.neg ?_
    rw [q1] at hres
    have := hres rfl
    rw [this] at hQ; exact hQ
  | false =>
  rw [q1, Bool.false_or] at hres hres0
  refine AllT.or_cons ?_
  refine It.compare ?_
  refine Ev.comp (ml := false) (cl := []) (Lcap := []) ⟨by kernel_rfl, trivial, List.nodup_nil, by kernel_rfl, trivial⟩ ?_
  refine CompE.one ?_
  refine EvI.listN rfl ?_
  refine ⟨_, rfl, rfl, by rw [List.length_map]; omega, fun i => if is01 (ov.getD i 0) then none else some (.int (ov.getD i 0)), fun C i hi => ?_, ?_⟩
  · have hib : i < ov.length := Nat.lt_of_lt_of_eq hi (List.length_map _)
    have ei : ([(ov.map AV.int).getD i .none] : List AV) = [.int (ov.getD i 0)] := congrArg (fun z => [z]) (getD_mapD hib)
    refine BindT.one ei ?_
    refine ⟨trivial, ?_⟩
    refine It.compare ?_
    refine Ev.nm rfl ?_
    refine Ev.tuple ?_
    refine Es.cs ?_
    refine Ev.int ?_
    refine Es.cs ?_
    refine Ev.int ?_
    refine Es.nil ⟨le_line (Nat.le_of_ble_eq_true rfl), ?_⟩
    refine Op2.notInT (n := 0) (e := fun x => match x with | .int j => j == ov.getD i 0 | _ => false) (fun x hx => ?_) (by decide) (Tru.bool ?_)
    · rcases List.mem_cons.mp hx with rfl | hx
      · exact Cmp.int ..
      · rw [List.mem_singleton.mp hx]; exact Cmp.int ..
    · have e01 : (!([AV.int 0, AV.int 1].any fun x => match x with | .int j => j == ov.getD i 0 | _ => false)) = !is01 (ov.getD i 0) := by
        show (!((0 == ov.getD i 0) || ((1 == ov.getD i 0) || false))) = _
        unfold is01
        rw [Bool.or_false, Bool.beq_comm (a := (0 : Int)), Bool.beq_comm (a := (1 : Int))]
      rw [e01]
      show (if (!is01 (ov.getD i 0)) = true then _ else _)
      cases q : is01 (ov.getD i 0) with
      | true => exact ⟨rfl, by show (if is01 _ = true then _ else _) = _; rw [q]; rfl⟩
      | false => exact Ev.name rfl ⟨rfl, by show (if is01 _ = true then _ else _) = _; rw [q]; rfl⟩
  rw [List.length_map, range_filterMap ov (f := fun x => if is01 x then none else some (AV.int x)) _ fun i hi => by simp [hi]]
  refine Ev.list ?_
  refine Es.nil ⟨le_line (Nat.le_of_ble_eq_true rfl), ?_⟩
  refine Op2.neL (n := 0) rfl rfl Cmps.nil (by decide) (Tru.bool ?_)
  have ez : (!((ov.filterMap fun x => if is01 x then none else some (AV.int x)).length == ([] : List AV).length && (List.range (ov.filterMap fun x => if is01 x then none else some (AV.int x)).length).all fun _ => true)) = !ov.all is01 := by
    congr 1
    rw [Bool.eq_iff_iff]
    simp only [List.length_nil, List.all_eq_true, Bool.and_eq_true, beq_iff_eq, List.length_eq_zero_iff, List.filterMap_eq_nil_iff, implies_true, and_true]
    refine forall_congr' fun x => forall_congr' fun _ => ?_
    cases is01 x <;> simp
  rw [ez]
  cases q2 : !ov.all is01 with
  | true =>
    refine Exs.ret ?_
    refine Ev.neg ?_
    refine Ev.int ?_
    refine Op1.neg ?_
    have := hres q2
    rw [this] at hQ; exact hQ
  | false =>
  have hall : ov.all is01 = true := by simpa using q2
  rw [hres0 q2] at hQ
  refine AllT.or_nil ?_
  refine Exs.endS ?_
  refine Exs.ret ?_
  refine Ev.clB hK rfl rfl rfl ?_
  refine Es.cs ?_
  refine Ev.comp (ml := false) (cl := []) (Lcap := []) ⟨by kernel_rfl, trivial, List.nodup_nil, by kernel_rfl, trivial⟩ ?_
  refine CompE.one ?_
  refine EvI.enum ?_
  refine Ev.B hK rfl rfl ⟨rfl, ?_⟩
  refine Ev.nm rfl ?_
  refine ⟨_, rfl, rfl, by rw [List.length_map]; omega, fun i => some (.int (ov.getD i 0 * 2 ^ i)), fun C i hi => ?_, ?_⟩
  · have hib : i < ov.length := Nat.lt_of_lt_of_eq hi (List.length_map _)
    have ei : ([AV.int i, (ov.map AV.int).getD i .none] : List AV) = [.int i, .int (ov.getD i 0)] := congrArg (fun z => [AV.int i, z]) (getD_mapD hib)
    refine BindT.two ei ?_
    refine ⟨trivial, ?_⟩
    refine Ev.binNN rfl rfl ?_
    have hb : -(2 ^ 64) < ov.getD i 0 ∧ ov.getD i 0 < 2 ^ 64 := by
      have e : ov.getD i 0 = ov[i] := getD_at hib
      have := List.all_eq_true.mp hall ov[i] (List.getElem_mem hib)
      rw [e]
      unfold is01 at this
      rw [Bool.or_eq_true, beq_iff_eq, beq_iff_eq] at this
      omega
    refine Op2.lshift (by omega) ?_ ⟨rfl, ?_⟩
    · have := intBits_le_64 hb.1 hb.2
      omega
    · rw [Int.toNat_natCast]
  rw [List.length_map, range_map _ _ _ fun i _ => rfl]
  refine Es.nil ?_
  refine Ca.sum (ns := (List.range ov.length).map fun i => ov.getD i 0 * 2 ^ i) (by rw [List.map_map]; rfl) ?_
  exact hQ
end
end Mine
end

section
set_option maxHeartbeats 4000000
open PySem PySem.W PySem.Calls PyProof.Rows
namespace Mine

noncomputable def plainW : List Str := ["OPTIMIZED", "NEWLOCALS", "VARARGS", "VARKEYWORDS", "NESTED", "GENERATOR", "NOFREE", "COROUTINE", "ITERABLE_COROUTINE", "ASYNC_GENERATOR"]
noncomputable def digW : Str := "1248"
noncomputable def wordOf (k : Nat) : Str := if k < 10 then plainW.getD k "" else ((("0x" : Str) ++ ⟨#[digW.cps.getD (k % 4) 0]⟩) ++ repS "0" (k / 4))
noncomputable def wlist (m i : Nat) : List Str := (List.range i).filterMap fun k => if m.testBit k then some (wordOf k) else none
noncomputable def wordsS (m : Nat) : Str := if (wlist m 32).isEmpty then "0x0" else Builtin.Str.glued ", " (wlist m 32)
noncomputable def hiB (m i : Nat) : Nat := m / 2 ^ i * 2 ^ i

theorem tb (m i : Nat) : m.testBit i = decide (m / 2 ^ i % 2 = 1) := Nat.testBit_eq_decide_div_mod_eq
theorem hiB_succ (m i : Nat) : hiB m i = hiB m (i + 1) + (if m.testBit i then 2 ^ i else 0) := by
  unfold hiB
  rw [tb, Nat.pow_succ, ← Nat.div_div_eq_div_mul]
  generalize m / 2 ^ i = q
  have e : q = 2 * (q / 2) + q % 2 := by omega
  have e2 : q / 2 * (2 ^ i * 2) = (2 * (q / 2)) * 2 ^ i := by rw [Nat.mul_comm (2 ^ i) 2, ← Nat.mul_assoc, Nat.mul_comm (q / 2) 2]
  rw [e2]
  by_cases h : q % 2 = 1
  · rw [if_pos (by simpa using h)]
    conv => lhs; rw [e, h, Nat.add_mul, Nat.one_mul]
  · rw [if_neg (by simpa using h)]
    have : q % 2 = 0 := by omega
    conv => lhs; rw [e, this, Nat.add_zero]
    rfl
theorem hiB_and (m i : Nat) : Builtin.bitAnd (hiB m i : Nat) ((2 ^ i : Nat) : Int) = ((if m.testBit i then 2 ^ i else 0 : Nat) : Int) := by
  unfold Builtin.bitAnd
  have e1 : decide ((0 : Int) ≤ ((hiB m i : Nat) : Int)) = true := by simp
  have e2 : decide ((0 : Int) ≤ ((2 ^ i : Nat) : Int)) = true := by
    have : (0 : Int) ≤ ((2 ^ i : Nat) : Int) := Int.natCast_nonneg _
    simpa using this
  rw [e1, e2]
  show (((((hiB m i : Nat) : Int).toNat &&& ((2 ^ i : Nat) : Int).toNat : Nat)) : Int) = _
  rw [Int.toNat_natCast, Int.toNat_natCast]
  congr 1
  refine Nat.eq_of_testBit_eq fun j => ?_
  rw [Nat.testBit_and, Nat.testBit_two_pow]
  by_cases q : i = j
  · subst q
    have : (hiB m i).testBit i = m.testBit i := by
      unfold hiB
      rw [Nat.testBit_mul_two_pow]; simp [tb]
    rw [this]
    cases m.testBit i <;> simp [Nat.testBit_two_pow]
  · cases m.testBit i <;> simp [Nat.testBit_two_pow, q]
theorem wlist_succ (m i : Nat) : wlist m (i + 1) = wlist m i ++ (if m.testBit i then [wordOf i] else []) := by
  unfold wlist
  rw [List.range_succ, List.filterMap_append]
  simp only [List.filterMap_cons, List.filterMap_nil]
  cases m.testBit i <;> rfl
theorem wlist_top (m i : Nat) (h : hiB m i = 0) : ∀ j, wlist m (i + j) = wlist m i
  | 0 => rfl
  | j + 1 => by
    rw [← Nat.add_assoc, wlist_succ, wlist_top m i h j]
    have : m / 2 ^ i = 0 := by
      unfold hiB at h
      rcases Nat.mul_eq_zero.mp h with h | h
      · exact h
      · exact absurd h (Nat.ne_of_gt (Nat.two_pow_pos i))
    have : m.testBit (i + j) = false := by
      refine Nat.testBit_lt_two_pow ?_
      have h1 : m < 2 ^ i := by
        have := (Nat.div_eq_zero_iff).mp this
        rcases this with w | w
        · exact absurd w (Nat.ne_of_gt (Nat.two_pow_pos i))
        · exact w
      exact Nat.lt_of_lt_of_le h1 (Nat.pow_le_pow_right (by decide) (by omega))
    rw [this, if_neg (by simp), List.append_nil]
theorem hex_words : ∀ i, i < 32 → (if i < 10 then True else baseText "0x" 16 (1 * 2 ^ i) = wordOf i) := by decide +kernel
theorem word_len : ∀ i, i < 32 → (wordOf i).length ≤ 20 := by decide +kernel
end Mine
end

section
set_option maxHeartbeats 4000000
open PySem PySem.W PySem.Calls PyProof.Rows
namespace Mine

open Builtin.Str in
theorem glued_len {sep : Str} {B : Nat} : ∀ {ns : List Str} {acc : Array Nat}, (∀ w ∈ ns, w.length ≤ B) → (ns.foldl (fun acc p => acc ++ sep.cps ++ p.cps) acc).size ≤ acc.size + ns.length * (sep.length + B)
  | [], acc, _ => by simp
  | w :: ns, acc, h => by
    have h1 := glued_len (sep := sep) (ns := ns) (acc := acc ++ sep.cps ++ w.cps) fun x hx => h x (List.mem_cons_of_mem _ hx)
    have h2 := h w (List.mem_cons_self ..)
    have e : (acc ++ sep.cps ++ w.cps).size = acc.size + sep.length + w.length := by rw [Array.size_append, Array.size_append]; rfl
    rw [List.foldl_cons, List.length_cons, Nat.add_mul, Nat.one_mul]
    omega
theorem fold_len {c : Nat} {B : Nat} : ∀ {ns : List Str} {acc : Nat}, (∀ w ∈ ns, w.length ≤ B) → ns.foldl (· + ·.length + c) acc ≤ acc + ns.length * (c + B)
  | [], acc, _ => by simp
  | w :: ns, acc, h => by
    have h1 := fold_len (c := c) (ns := ns) (acc := acc + w.length + c) fun x hx => h x (List.mem_cons_of_mem _ hx)
    have h2 := h w (List.mem_cons_self ..)
    rw [List.foldl_cons, List.length_cons, Nat.add_mul, Nat.one_mul]
    omega

section
variable {K : Bse} {c : Cx} {h : Hp} {Q : AV → Hp → Prop} {d : Nat}
theorem Ca.joinB {sep : Str} {a : AV} {ns : List Str} (hr : readL h a = some (ns.map .str)) (hn : ns.length ≤ 1000) (hs : sep.length ≤ 10) (hb : ∀ w ∈ ns, w.length ≤ 1000) (hQ : Q (.str (Builtin.Str.glued sep ns)) h) : Ca K d (.raw (.builtin "str.join")) [.str sep, a] [] h Q := by
  have hm : ns.length * (sep.length + 1000) ≤ 1000 * 1010 := Nat.mul_le_mul hn (by omega)
  refine Ca.join hr ?_ ?_ hQ
  · rw [List.foldl_toArray]
    have := fold_len (c := sep.length) (acc := 0) hb
    rw [sizeLine_eq]; omega
  · show (Array.size _) ≤ _
    unfold Builtin.Str.glued
    have h1 : (ns.drop 1).length ≤ ns.length := by simp
    have := glued_len (sep := sep) (B := 1000) (ns := ns.drop 1) (acc := (ns.headD Str.empty).cps) fun w hw => hb w (List.mem_of_mem_drop hw)
    have h3 : (ns.headD Str.empty).cps.size ≤ 1000 := by
      cases ns with
      | nil => exact Nat.zero_le _
      | cons a r => exact hb a (List.mem_cons_self ..)
    have h4 : (ns.drop 1).length * (sep.length + 1000) ≤ 1000 * 1010 := Nat.le_trans (Nat.mul_le_mul_right _ h1) hm
    rw [sizeLine_eq]
    exact Nat.le_trans this (by omega)

/-- a dict of the start with ints as keys -/
noncomputable def DictI (K : Bse) (a : Addr) (f : Int → Option Str) : Prop := (a == sysModules) = false ∧ ∃ o kvs, K.B a = some o ∧ o.IsDictOf (intKind K.prog K.w) kvs ∧ ∀ k, match f k with | some x => ∃ t, valueAt kvs k = some (.str x t) | none => valueAt kvs k = none
theorem DictI.of {G : Gh} {s : Shared} {a : Addr} {f : Int → Option Str} (x : DictI K a f) (R : Rel K c h G s.heap) : ∃ kvs, s.heap.DictOf (intKind K.prog K.w) a kvs ∧ ∀ k, match f k with | some x => ∃ t, valueAt kvs k = some (.str x t) | none => valueAt kvs k = none := by
  obtain ⟨_, o, kvs, h1, h2, h3⟩ := x
  exact ⟨kvs, Heap.dictOf_iff.mpr ⟨o, R.baseAt h1, h2⟩, h3⟩
theorem Meth.dget {a : Addr} {f : Int → Option Str} {Q : AV → List AV → Hp → Prop} (x : DictI K a f) (hQ : Q (.raw (.builtin "dict.get")) [.raw (.ref a)] h) : Meth K c "get" (.raw (.ref a)) h Q := fun A G s u pl hA R hu => by
  cases hu
  obtain ⟨kvs, hd, _⟩ := x.of R
  exact getMethod_builtin hd.typeIs PySem.F.plainAttrs_dict PySem.F.slot_dict_get PySem.F.type_dict_get hd.mapOf.noDict ⟨G, .raw (.builtin "dict.get"), [.raw (.ref a)], h, Stp.refl _ _ _, R, rfl, ⟨rfl, trivial⟩, hQ⟩
theorem Ca.dget {a : Addr} {f : Int → Option Str} {k : Int} {z : AV} (x : DictI K a f) (hQ : Q (match f k with | some x => .str x | none => z) h) : Ca K d (.raw (.builtin "dict.get")) [.raw (.ref a), .int k, z] [] h Q := Ca.mk3 fun c A G s u v w hA R hu hv hw => by
  cases hu
  obtain ⟨t, rfl⟩ := hv
  obtain ⟨kvs, hd, hf⟩ := x.of R
  refine call_meetsIn PySem.F.slot_dict_get hd.typeIs PySem.F.entry_dict_get (PySem.F.args_dict_get_3 _ _ _) (meets_dict_get_default (intKind K.prog K.w) a (intKind_is _ _ k t) x.1 w) ⟨_, hd.mapOf, ?_⟩
  have := hf k
  cases e : f k with
  | some y =>
    rw [e] at this hQ
    obtain ⟨t', e'⟩ := this
    rw [e']
    exact res_now (av := .str y) R ⟨_, rfl⟩ hQ
  | none =>
    rw [e] at this hQ
    rw [show valueAt kvs k = none from this]
    exact res_now (av := z) R hw hQ

theorem wlist_mem {m i : Nat} (hi : i ≤ 32) : ∀ w ∈ wlist m i, w.length ≤ 1000 := fun w hw => by
  unfold wlist at hw
  obtain ⟨k, hk, e⟩ := List.mem_filterMap.mp hw
  have hk := List.mem_range.mp hk
  split at e
  · cases e
    exact Nat.le_trans (word_len k (by omega)) (by decide)
  · cases e
theorem wlist_len (m i : Nat) : (wlist m i).length ≤ i := by
  unfold wlist
  have := List.length_filterMap_le (fun k => if m.testBit k then some (wordOf k) else none) (List.range i)
  rwa [List.length_range] at this

theorem words_spec (hK : OkK K) {m : Nat} (hQ : Q (.str (wordsS m)) h) : Ca K (d + 2) (.raw (.ref 198)) [.int m] [] h Q := by
  obtain ⟨kk, pm, F⟩ := hK.f23
  refine Ca.def (names := ["flags"]) F rfl (bind1 fun u => by kernel_rfl) (by decide +kernel) (by kernel_rfl) fun L => ?_
  refine Exs.asC ?_ rfl
  refine Ev.tuple ?_
  iterate 10
    refine Es.cs ?_
    refine Ev.str ?_
  refine Es.nil ⟨le_line (Nat.le_of_ble_eq_true rfl), ?_⟩
  refine Exs.asgComp (ml := false) (cl := [("plain", L + 2), ("flags", L + 1)]) (Lcap := [("plain", .tup (plainW.map .str)), ("flags", .int m)]) ⟨by kernel_rfl, ⟨by kernel_rfl, by kernel_rfl, trivial⟩, show (["plain", "flags"] : List Str).Nodup by decide +kernel, by kernel_rfl, ⟨rfl, rfl, trivial⟩⟩ ?_
  refine CompE.one ?_
  refine EvI.range ?_
  refine Ev.clB hK rfl rfl rfl ?_
  refine Es.cs ?_
  refine Ev.int ?_
  refine Es.nil ?_
  refine Ca.range1 ?_
  refine ⟨_, _, _, rfl, by decide +kernel, 32, by decide +kernel, trivial, by decide, fun k => if m.testBit k then some (.str (wordOf k)) else none, fun C i hi => ?_, ?_⟩
  · have ei : [AV.int (0 + (i : Nat) * 1)] = [.int i] := congrArg (fun z => [AV.int z]) (by omega)
    refine BindT.one ei ?_
    refine ⟨⟨rfl, rfl, trivial⟩, ?_⟩
    refine It.val ?_
    refine Ev.binop ?_
    refine Ev.binNN rfl rfl ?_
    refine Op2.rshift (by omega) ?_
    refine Ev.int ?_
    refine Op2.and ?_
    refine Tru.int ?_
    have eb : (Builtin.bitAnd ((m : Int).fdiv (2 ^ (i : Int).toNat)) 1 != 0) = m.testBit i := by
      rw [bitAnd_m1, Int.toNat_natCast, tb, Int.fdiv_eq_ediv_of_nonneg _ (by have : (0:Int) < 2 ^ i := Int.pow_pos (by decide); omega)]
      have e1 : (m : Int) / 2 ^ i % 2 = ((m / 2 ^ i % 2 : Nat) : Int) := by simp
      rw [e1]
      have : m / 2 ^ i % 2 < 2 := Nat.mod_lt _ (by decide)
      rw [Bool.eq_iff_iff, bne_iff_ne, decide_eq_true_eq]
      omega
    rw [eb]
    cases q : m.testBit i with
    | false => exact ⟨rfl, by show (if m.testBit i = true then _ else _) = _; rw [q]; rfl⟩
    | true =>
      have ef : (fun k => if m.testBit k then some (AV.str (wordOf k)) else none) i = some (.str (wordOf i)) := by show (if m.testBit i = true then _ else _) = _; rw [q]; rfl
      refine Ev.ifexp ?_
      refine It.cmpNI rfl ?_
      refine Op2.lt (Tru.bool ?_)
      by_cases q1 : i < 10
      · rw [show decide ((i : Int) < 10) = true by simpa using (by omega : (i : Int) < 10)]
        refine Ev.sub ?_
        refine Ev.nm rfl ?_
        refine Ev.nm rfl ?_
        refine GetI.tuple (x := .str (wordOf i)) (by omega) (by show (i : Int) < ((10 : Nat) : Int); omega) (by show (10 : Nat) < 2 ^ 62; decide) ?_ ?_
        · rw [Int.toNat_natCast]
          have : ∀ i, i < 10 → plainW[i]? = some (wordOf i) := by decide +kernel
          rw [List.getElem?_map, this i q1]; rfl
        · exact ⟨rfl, ef⟩
      · rw [show decide ((i : Int) < 10) = false by simpa using (by omega : ¬ (i : Int) < 10)]
        have hm4 : (i : Int).fmod 4 = ((i % 4 : Nat) : Int) := fmod_nat i 4 (by decide)
        have hd4 : (i : Int).fdiv 4 = ((i / 4 : Nat) : Int) := by rw [Int.fdiv_eq_ediv_of_nonneg _ (by decide)]; omega
        have h8 : i / 4 ≤ 8 := by omega
        refine Ev.binop ?_
        refine Ev.binop ?_
        refine Ev.str ?_
        refine Ev.sub ?_
        refine Ev.str ?_
        refine Ev.binNI rfl ?_
        refine Op2.mod (by decide) ?_
        rw [hm4]
        refine GetI.str (cp := digW.cps.getD (i % 4) 0) (by omega) (by show ((i % 4 : Nat) : Int) < ((4 : Nat) : Int); omega) (by show (4 : Nat) < 2 ^ 62; decide) ?_ ?_
        · rw [Int.toNat_natCast]
          have : ∀ j, j < 4 → (("1248" : Str).cps)[j]? = some (digW.cps.getD j 0) := by decide +kernel
          exact this _ (Nat.mod_lt _ (by decide))
        refine Op2.addS (by show 2 + 1 ≤ 1000; decide) ?_
        refine Ev.binop ?_
        refine Ev.str ?_
        refine Ev.binNI rfl ?_
        refine Op2.floordiv (by decide) (PyProof.noPylong_small (by decide)) ?_
        rw [hd4]
        refine Op2.mulS (by decide +kernel) (by omega) (by omega) ?_
        rw [Int.toNat_natCast]
        refine Op2.addS ?_ ?_
        · rw [repS_length]
          show 3 + i / 4 * 1 ≤ 1000
          omega
        · refine ⟨rfl, ?_⟩
          rw [ef]
          unfold wordOf
          rw [if_neg q1]
  have eW : (List.range 32).filterMap (fun k => if m.testBit k then some (AV.str (wordOf k)) else none) = (wlist m 32).map .str := by
    unfold wlist
    rw [List.map_filterMap]
    congr 1
    funext k
    cases m.testBit k <;> rfl
  rw [eW]
  have hl := wlist_len m 32
  have hm := wlist_mem (m := m) (Nat.le_refl 32)
  unfold wordsS at hQ
  generalize wlist m 32 = ws at hl hm hQ ⊢
  refine Exs.ret ?_
  refine Ev.ifexp ?_
  refine It.val ?_
  refine Ev.nm rfl ?_
  refine Tru.listR rfl (by simp; omega) ?_
  cases ws with
  | nil =>
    refine Ev.str ?_
    exact hQ
  | cons w ws =>
    refine Ev.meth (d := d) ?_ rfl
    refine Ev.str ?_
    refine Meth.join ?_
    refine Es.nm rfl ?_
    refine Es.nil ?_
    refine Ks.nil ⟨rfl, Kp.builtin, ?_⟩
    refine Ca.joinB (ns := w :: ws) rfl (by omega) (by decide +kernel) hm ?_
    exact hQ
end
end Mine
end

section
set_option maxHeartbeats 4000000
open PySem PySem.W PySem.Calls PyProof.Rows
namespace Mine

noncomputable def flagT : List (Int × Str) := [(1, "OPTIMIZED"), (2, "NEWLOCALS"), (4, "VARARGS"), (8, "VARKEYWORDS"), (16, "NESTED"), (32, "GENERATOR"), (64, "NOFREE"), (128, "COROUTINE"), (256, "ITERABLE_COROUTINE"), (512, "ASYNC_GENERATOR")]
theorem flag_words : ∀ i, i < 32 → ((1 * 2 ^ i : Int) != 0) = true ∧ (baseText "0x" 16 (1 * 2 ^ i)).length ≤ 100 ∧ (List.lookup (1 * 2 ^ i : Int) flagT).elim (AV.str (baseText "0x" 16 (1 * 2 ^ i))) AV.str = AV.str (wordOf i) := by
  intro i hi
  have h1 : ∀ i, i < 32 → (((1 * 2 ^ i : Int) != 0) && decide ((baseText "0x" 16 (1 * 2 ^ i)).length ≤ 100) && (List.lookup (1 * 2 ^ i : Int) flagT).elim (baseText "0x" 16 (1 * 2 ^ i)) id == wordOf i) = true := by decide +kernel
  have := h1 i hi
  rw [Bool.and_eq_true, Bool.and_eq_true, decide_eq_true_eq, beq_iff_eq] at this
  obtain ⟨⟨a, b⟩, c⟩ := this
  refine ⟨a, b, ?_⟩
  cases e : List.lookup (1 * 2 ^ i : Int) flagT with
  | some x => rw [e] at c; exact congrArg AV.str c
  | none => rw [e] at c; exact congrArg AV.str c
theorem hiB_xor (m i : Nat) (h : m.testBit i = true) : Builtin.bitXor (hiB m i : Nat) ((2 ^ i : Nat) : Int) = ((hiB m (i + 1) : Nat) : Int) := by
  rw [bitXor_and, hiB_and, h]
  have := hiB_succ m i
  rw [h, if_pos rfl] at this
  rw [if_pos rfl]
  omega

section
variable {K : Bse} {c : Cx} {h : Hp} {Q : AV → Hp → Prop} {d : Nat}
theorem Ca.dgetE {a : Addr} {f : Int → Option Str} {k : Int} {z r : AV} (x : DictI K a f) (hr : (f k).elim z AV.str = r) (hQ : Q r h) : Ca K d (.raw (.builtin "dict.get")) [.raw (.ref a), .int k, z] [] h Q := by
  refine Ca.dget x ?_
  subst hr
  cases e : f k <;> (rw [e] at hQ; exact hQ)
theorem pretty_spec (hK : OkK K) (hD : DictI K 38 fun k => List.lookup k flagT) {m : Nat} (hm : m < 2 ^ 32) (hQ : ∀ h', Keep h h' [] → Q (.str (wordsS m)) h') : Ca K (d + 3) (.raw (.ref 45)) [.int m] [] h Q := by
  obtain ⟨kk, pm, F⟩ := hK.f6
  refine Ca.def (names := ["flags"]) F rfl (bind1 fun u => by kernel_rfl) (by decide +kernel) (by kernel_rfl) fun L => ?_
  refine Exs.asL ?_
  refine Ev.listM ?_
  refine Es.nil ⟨by decide, fun l hl => ?_⟩
  have fin : ∀ (B : Lc) (ws : List Str), B.lookup ("names" : Str) = some (AV.obj l) → ws.length ≤ 1000 → (∀ w ∈ ws, w.length ≤ 1000) → Builtin.Str.glued ", " ws = wordsS m →
      Exs K ((⟨d + 2, callEnvC (fdI 6 kk .none pm) L 45, true, []⟩ : Cx).at B) (match bodyI 6 with | _ :: _ :: r => r | _ => []) (h.put l (.list (ws.map .str))) (Rt Q) := by
    intro B ws hB h1 h2 h3
    refine Exs.ret ?_
    refine Ev.meth (d := d + 1) ?_ rfl
    refine Ev.str ?_
    refine Meth.join ?_
    refine Es.cs ?_
    refine Ev.nm hB ?_
    refine Es.nil ?_
    refine Ks.nil ⟨rfl, Kp.builtin, ?_⟩
    refine Ca.joinB (readL_obj (Hp.put_self ..)) h1 (by decide +kernel) h2 ?_
    show Q (.str _) _
    rw [h3]
    exact hQ _ (Keep.new hl)
  refine Exs.fo ?_
  refine EvI.range ?_
  refine Ev.clB hK rfl rfl rfl ?_
  refine Es.cs ?_
  refine Ev.int ?_
  refine Es.nil ?_
  refine Ca.range1 ?_
  refine ⟨_, _, _, rfl, by decide +kernel, 32, by decide +kernel, fun i B h' => i ≤ 32 ∧ B = ([("flags", .int (hiB m i : Nat)), ("names", .obj l)] : Lc) ∧ h' = h.put l (.list ((wlist m i).map .str)) ∧ (m = 0 ∨ hiB m i ≠ 0), fun _ _ _ _ => trivial, ?_, ?_, ?_⟩
  · rintro i B h' hi ⟨_, rfl, rfl, hne⟩
    have ei : [AV.int (0 + (i : Nat) * 1)] = [.int i] := congrArg (fun z => [AV.int z]) (by omega)
    obtain ⟨f1, f2, f3⟩ := flag_words i hi
    have hp : ((1 : Int) * 2 ^ i) = ((2 ^ i : Nat) : Int) := by simp
    refine BindT.one ei ?_
    refine Exs.asL ?_
    refine Ev.binop ?_
    refine Ev.int ?_
    refine Ev.nm rfl ?_
    refine Op2.lshift (by omega) (by have : Builtin.Int.intBits 1 ≤ 64 := intBits_le_64 (by decide) (by decide); omega) ?_
    rw [Int.toNat_natCast]
    refine Exs.ifs ?_
    refine It.val ?_
    refine Ev.binNN rfl rfl ?_
    refine Op2.and ?_
    refine Tru.int ?_
    rw [hp, hiB_and]
    cases q : m.testBit i with
    | false =>
      rw [if_neg (by simp)]
      refine Exs.endS ?_
      refine Exs.next ⟨([("flags", .int (hiB m (i + 1) : Nat)), ("names", .obj l)] : Lc), ?_, hi, rfl, ?_, ?_⟩
      · have := hiB_succ m i
        rw [q, if_neg (by simp), Nat.add_zero] at this
        rw [← this]
        exact ⟨rfl, rfl, trivial⟩
      · rw [wlist_succ, q, if_neg (by simp), List.append_nil]
      · have := hiB_succ m i
        rw [q, if_neg (by simp), Nat.add_zero] at this
        rw [← this]; exact hne
    | true =>
      rw [if_pos rfl]
      have e1 : ((((2 ^ i : Nat) : Int)) != 0) = true := by rw [← hp]; exact f1
      rw [e1]
      have hwl := wlist_len m i
      have hlst : ((wlist m i).map AV.str).length ≤ 1000 := by rw [List.length_map]; omega
      refine Exs.app rfl rfl (Hp.put_self ..) ?_
      refine Ev.meth (d := d + 1) ?_ rfl
      refine Ev.G hK rfl rfl ?_
      refine Meth.dget hD ?_
      refine Es.nm rfl ?_
      refine Es.cs ?_
      refine Ev.clB hK rfl rfl rfl ?_
      refine Es.nm rfl ?_
      refine Es.nil ?_
      refine Ca.hex ?_ ?_
      · rw [← hp]; exact le_line (Nat.le_trans f2 (by decide))
      refine Es.nil ?_
      refine Ks.nil ⟨rfl, Kp.builtin, ?_⟩
      rw [← hp]
      refine Ca.dgetE hD f3 ?_
      refine ⟨_, (Hp.put_self ..), hlst, ?_⟩
      rw [Hp.put_put]
      have ew : (wlist m i).map AV.str ++ [AV.str (wordOf i)] = (wlist m (i + 1)).map AV.str := by
        rw [wlist_succ, q, if_pos rfl, List.map_append]; rfl
      rw [ew]
      refine Exs.aug rfl ?_
      refine Ev.nm rfl ?_
      refine Op2.ixor ?_
      rw [hp, hiB_xor _ _ q]
      refine Exs.ifs ?_
      refine It.not ?_
      refine It.val ?_
      refine Ev.nm rfl ?_
      refine Tru.int ?_
      by_cases q2 : hiB m (i + 1) = 0
      · have e2 : (!(((hiB m (i + 1) : Nat) : Int) != 0)) = true := by rw [q2]; rfl
        rw [e2]
        refine Exs.brk ?_
        have et := wlist_top m (i + 1) q2 (32 - (i + 1))
        rw [show i + 1 + (32 - (i + 1)) = 32 by omega] at et
        refine fin _ _ rfl (by have := wlist_len m (i + 1); omega) (wlist_mem hi) ?_
        unfold wordsS
        rw [et, wlist_succ, q, if_pos rfl]
        have : (wlist m i ++ [wordOf i]).isEmpty = false := by cases wlist m i <;> rfl
        rw [this]; rfl
      · have e2 : (!(((hiB m (i + 1) : Nat) : Int) != 0)) = false := by
          have : ((hiB m (i + 1) : Nat) : Int) ≠ 0 := by omega
          simpa using this
        rw [e2]
        refine Exs.endS ?_
        refine Exs.endS ?_
        exact Exs.next ⟨([("flags", .int (hiB m (i + 1) : Nat)), ("names", .obj l)] : Lc), ⟨rfl, rfl, trivial⟩, hi, rfl, rfl, .inr q2⟩
  · rintro B L' h' hB ⟨_, rfl, rfl, hne⟩
    have h32 : hiB m 32 = 0 := by unfold hiB; rw [Nat.div_eq_of_lt hm, Nat.zero_mul]
    have m0 : m = 0 := hne.resolve_right fun w => w h32
    subst m0
    have w0 : wlist 0 32 = [] := by decide +kernel
    rw [w0, h32]
    refine Exs.app rfl rfl (Hp.put_self ..) ?_
    refine Ev.clB hK rfl rfl rfl ?_
    refine Es.nm rfl ?_
    refine Es.nil ?_
    refine Ca.hex (le_line (by decide +kernel)) ?_
    refine ⟨_, (Hp.put_self ..), (by decide), ?_⟩
    rw [Hp.put_put]
    refine Exs.endS ?_
    refine fin _ [baseText "0x" 16 ((0 : Nat) : Int)] rfl (by decide) (by decide +kernel) (by decide +kernel)
  · refine ⟨([("flags", .int (hiB m 0 : Nat)), ("names", .obj l)] : Lc), ?_, Nat.zero_le _, rfl, rfl, ?_⟩
    · have : hiB m 0 = m := by simp [hiB]
      rw [this]
      exact ⟨rfl, rfl, trivial⟩
    · have : hiB m 0 = m := by simp [hiB]
      rw [this]
      by_cases q : m = 0
      · exact .inl q
      · exact .inr q
end
end Mine
end

section
open PySem PySem.W PySem.Calls PyProof.Rows
namespace Mine

/-! the plain game -/
noncomputable def insN (x : Nat) : List Nat → List Nat
  | [] => [x]
  | y :: r => bif Nat.ble x y then x :: y :: r else y :: insN x r
noncomputable def isortN : List Nat → List Nat
  | [] => []
  | x :: r => insN x (isortN r)
noncomputable def moveN (S : List Nat) : List Nat := (S.filterMap fun x => if 1 < x then some (x - 1) else none) ++ [S.length]
noncomputable def orbN : Nat → List (List Nat) → List Nat → Option (List (List Nat) × List Nat)
  | 0, _, _ => none
  | f + 1, acc, S => if isortN S ∈ acc then some (acc, S) else orbN f (acc ++ [isortN S]) (moveN S)
noncomputable def Pos (S : List Nat) : Prop := ∀ x ∈ S, 1 ≤ x

theorem insN_perm (x : Nat) : ∀ r, (insN x r).Perm (x :: r)
  | [] => List.Perm.refl _
  | y :: r => by
    unfold insN
    cases Nat.ble x y
    · exact ((insN_perm x r).cons y).trans (List.Perm.swap x y r)
    · exact List.Perm.refl _
theorem isortN_perm : ∀ S, (isortN S).Perm S
  | [] => List.Perm.refl _
  | x :: r => (insN_perm x _).trans ((isortN_perm r).cons x)
theorem insN_sorted (x : Nat) : ∀ r, r.Pairwise (· ≤ ·) → (insN x r).Pairwise (· ≤ ·)
  | [], _ => by simp [insN]
  | y :: r, h => by
    unfold insN
    rw [List.pairwise_cons] at h
    cases q : Nat.ble x y with
    | true =>
      have q := Nat.le_of_ble_eq_true q
      show (x :: y :: r).Pairwise _
      rw [List.pairwise_cons, List.pairwise_cons]
      exact ⟨fun z hz => by
        rcases List.mem_cons.mp hz with rfl | hz
        · exact q
        · exact Nat.le_trans q (h.1 z hz), h⟩
    | false =>
      have q : ¬ x ≤ y := fun w => by rw [Nat.ble_eq_true_of_le w] at q; cases q
      show (y :: insN x r).Pairwise _
      rw [List.pairwise_cons]
      refine ⟨fun z hz => ?_, insN_sorted x r h.2⟩
      rcases List.mem_cons.mp ((insN_perm x r).mem_iff.mp hz) with rfl | hz
      · omega
      · exact h.1 z hz
theorem isortN_sorted : ∀ S, (isortN S).Pairwise (· ≤ ·)
  | [] => List.Pairwise.nil
  | x :: r => insN_sorted x _ (isortN_sorted r)
theorem isortN_eq {S T : List Nat} (h : S.Perm T) : isortN S = isortN T :=
  List.Perm.eq_of_pairwise (fun a b _ _ h1 h2 => Nat.le_antisymm h1 h2) (isortN_sorted S) (isortN_sorted T) ((isortN_perm S).trans (h.trans (isortN_perm T).symm))
theorem isortN_idem (S : List Nat) : isortN (isortN S) = isortN S := isortN_eq (isortN_perm S)
theorem moveN_perm {S T : List Nat} (h : S.Perm T) : (moveN S).Perm (moveN T) := by
  unfold moveN
  rw [h.length_eq]
  exact (h.filterMap _).append_right _
theorem orbN_perm : ∀ {f acc S T R S1}, S.Perm T → orbN f acc S = some (R, S1) → ∃ T1, orbN f acc T = some (R, T1) ∧ S1.Perm T1
  | 0, _, _, _, _, _, _, e => by cases e
  | f + 1, acc, S, T, R, S1, h, e => by
    unfold orbN at e ⊢
    rw [isortN_eq h] at e
    by_cases q : isortN T ∈ acc
    · rw [if_pos q] at e ⊢
      cases e
      exact ⟨T, rfl, h⟩
    · rw [if_neg q] at e ⊢
      exact orbN_perm (moveN_perm h) e
theorem Pos.perm {S T : List Nat} (h : S.Perm T) (p : Pos S) : Pos T := fun x hx => p x (h.mem_iff.mpr hx)
theorem moveN_sum : ∀ {S : List Nat}, Pos S → (moveN S).sum = S.sum := by
  intro S h
  have : ∀ S : List Nat, Pos S → (S.filterMap fun x => if 1 < x then some (x - 1) else none).sum + S.length = S.sum := by
    intro S
    induction S with
    | nil => intro _; rfl
    | cons x r ih =>
      intro p
      have hx := p x (List.mem_cons_self ..)
      have := ih fun y hy => p y (List.mem_cons_of_mem _ hy)
      by_cases q : 1 < x
      · rw [List.filterMap_cons_some (b := x - 1) (by simp [q])]
        simp only [List.sum_cons, List.length_cons]; omega
      · rw [List.filterMap_cons_none (by simp [q])]
        simp only [List.sum_cons, List.length_cons]; omega
  unfold moveN
  rw [List.sum_append]
  have := this S h
  simp; omega
theorem moveN_pos {S : List Nat} (h0 : S ≠ []) : Pos (moveN S) := by
  intro x hx
  unfold moveN at hx
  rcases List.mem_append.mp hx with hx | hx
  · obtain ⟨y, _, e⟩ := List.mem_filterMap.mp hx
    split at e
    · cases e; omega
    · cases e
  · rw [List.mem_singleton.mp hx]
    exact List.length_pos_iff.mpr h0
theorem moveN_ne (S : List Nat) : moveN S ≠ [] := by unfold moveN; simp
theorem moveN_last (S : List Nat) : moveN S = (moveN S).dropLast ++ [S.length] := by unfold moveN; simp

/-- all sorted lists of numbers from m on with the sum n -/
noncomputable def partsG : Nat → Nat → Nat → List (List Nat)
  | 0, _, n => if n = 0 then [[]] else []
  | f + 1, m, n => if n = 0 then [[]] else (List.range (n + 1)).flatMap fun x => if m ≤ x ∧ 1 ≤ x then (partsG f x (n - x)).map (x :: ·) else []
noncomputable def parts (n : Nat) : List (List Nat) := partsG n 1 n
theorem partsG_mem : ∀ (f m n : Nat) (P : List Nat), P.Pairwise (· ≤ ·) → Pos P → (∀ x ∈ P, m ≤ x) → P.sum = n → n ≤ f → P ∈ partsG f m n
  | f, m, n, [], _, _, _, hs, _ => by
    have : n = 0 := by simpa using hs.symm
    subst this
    cases f <;> simp [partsG]
  | 0, m, n, x :: P, _, hp, _, hs, hf => by
    have := hp x (List.mem_cons_self ..)
    simp only [List.sum_cons] at hs
    omega
  | f + 1, m, n, x :: P, hw, hp, hm, hs, hf => by
    have hx := hp x (List.mem_cons_self ..)
    simp only [List.sum_cons] at hs
    rw [List.pairwise_cons] at hw
    unfold partsG
    rw [if_neg (by omega)]
    refine List.mem_flatMap.mpr ⟨x, List.mem_range.mpr (by omega), ?_⟩
    rw [if_pos ⟨hm x (List.mem_cons_self ..), hx⟩]
    exact List.mem_map.mpr ⟨P, partsG_mem f x (n - x) P hw.2 (fun y hy => hp y (List.mem_cons_of_mem _ hy)) hw.1 (by omega) (by omega), rfl⟩
theorem parts_mem {S : List Nat} (hp : Pos S) : isortN S ∈ parts S.sum :=
  partsG_mem _ _ _ _ (isortN_sorted S) (hp.perm (isortN_perm S).symm) (fun x hx => hp.perm (isortN_perm S).symm x hx) (isortN_perm S).sum_nat (Nat.le_refl _)

/-! counting -/
theorem bumpP_getD (c : List Int) (b i : Nat) : (bumpP c b).getD i 0 = c.getD i 0 := by
  unfold bumpP
  split
  · by_cases q : i < c.length
    · simp [List.getD_eq_getElem?_getD, List.getElem?_append_left q]
    · rw [List.getD_eq_getElem?_getD, List.getElem?_append_right (by omega), List.getD_eq_getElem?_getD, List.getElem?_eq_none (l := c) (by omega)]
      rw [List.getElem?_replicate]; split <;> rfl
  · rfl
theorem bump_length (c : List Int) (b : Nat) : (bump c b).length = max c.length (b + 1) := by
  unfold bump; rw [List.length_set]; unfold bumpP
  split
  · rw [List.length_append, List.length_replicate]; omega
  · omega
theorem bump_getD (c : List Int) (b i : Nat) : (bump c b).getD i 0 = c.getD i 0 + if i = b then 1 else 0 := by
  have hb := (bumpP_len c b).1
  unfold bump
  by_cases q : i = b
  · subst q
    rw [if_pos rfl, List.getD_eq_getElem?_getD, List.getElem?_set_self hb, Option.getD_some, bumpP_getD]
  · rw [if_neg q, List.getD_eq_getElem?_getD, List.getElem?_set_ne (fun w => q w.symm), ← List.getD_eq_getElem?_getD, bumpP_getD]; omega
theorem ext_getD {xs ys : List Int} (hl : xs.length = ys.length) (h : ∀ i, xs.getD i 0 = ys.getD i 0) : xs = ys := by
  refine List.ext_getElem hl fun i h1 h2 => ?_
  have := h i
  simpa [h1, h2] using this
theorem bump_comm (c : List Int) (a b : Nat) : bump (bump c a) b = bump (bump c b) a := by
  refine ext_getD ?_ fun i => ?_
  · rw [bump_length, bump_length, bump_length, bump_length, Nat.max_assoc, Nat.max_comm (a + 1), ← Nat.max_assoc]
  · rw [bump_getD, bump_getD, bump_getD, bump_getD]; exact Int.add_right_comm _ _ _
noncomputable def cntN (S : List Nat) : List Int := S.foldl bump []
theorem foldl_perm {S T : List Nat} (h : S.Perm T) : ∀ c, S.foldl bump c = T.foldl bump c := by
  induction h with
  | nil => intro _; rfl
  | cons x _ ih => intro c; exact ih _
  | swap x y l => intro c; simp only [List.foldl_cons]; rw [bump_comm]
  | trans _ _ ih1 ih2 => intro c; rw [ih1, ih2]
theorem cntN_perm {S T : List Nat} (h : S.Perm T) : cntN S = cntN T := foldl_perm h []
noncomputable def uncnt (i : Nat) : List Int → List Nat
  | [] => []
  | x :: r => List.replicate x.toNat i ++ uncnt (i + 1) r
theorem cntN_len (S : List Nat) (m : Nat) (h : ∀ x ∈ S, x < m) : (cntN S).length ≤ m := by
  have : ∀ (S : List Nat) (c : List Int), (∀ x ∈ S, x < m) → c.length ≤ m → (S.foldl bump c).length ≤ m := by
    intro S
    induction S with
    | nil => intro c _ hc; exact hc
    | cons x r ih =>
      intro c hx hc
      exact ih _ (fun y hy => hx y (List.mem_cons_of_mem _ hy)) (by rw [bump_length]; have := hx x (List.mem_cons_self ..); omega)
  exact this S [] h (Nat.zero_le _)
theorem cnt_back : ∀ n, n < 11 → ∀ P ∈ parts n, uncnt 0 (cntN P) = P := by decide +kernel
theorem cnt_inj {n : Nat} (hn : n ≤ 10) {P P' : List Nat} (h : P ∈ parts n) (h' : P' ∈ parts n) : (cntN P == cntN P') = (P == P') := by
  rw [Bool.eq_iff_iff, beq_iff_eq, beq_iff_eq]
  refine ⟨fun e => ?_, fun e => by rw [e]⟩
  rw [← cnt_back n (by omega) P h, ← cnt_back n (by omega) P' h', e]
end Mine
end

section
open PySem PySem.W PySem.Calls PyProof.Rows
namespace Mine

noncomputable def ci (S : List Nat) : List Int := S.map fun x : Nat => (x : Int)
noncomputable def wrow (row : List Nat) (t : Nat) : Wst := ⟨cntN row, t, row.sum + row.length + t, row.length⟩
noncomputable def kOf (n : Nat) : Nat := if 10 ≤ n then 4 else if 6 ≤ n then 3 else 2
noncomputable def restOf (n : Nat) : Nat := n - kOf n * (kOf n + 1) / 2
noncomputable def flRow (k : Nat) (r : List Nat) : Int := flagsOf (ci r) k
noncomputable def turn (k : Nat) (t : Int) : Int := Builtin.bitOr (Builtin.bitAnd t (2 ^ k - 1) * 2 ^ 1) (t.fdiv (2 ^ k))
noncomputable def follow (k : Nat) : Int → List Int → Bool
  | _, [] => true
  | t, x :: xs => decide (x = t) && decide (0 ≤ x) && decide (x < 32) && follow k (turn k t) xs
noncomputable def stopsOf (k rest t : Nat) : Int := ((k : Int) + 1) * k + rest + ((List.range (k + 1)).map fun i => ((k : Int) + 1 - rest) * ((i : Nat) : Int).fdiv t + rest * (((i : Nat) : Int) + 1).fdiv t).sum
noncomputable def levR (tl t : Nat) (r : List Nat) : Int := levOf (wrow r tl) t
noncomputable def ringOk (n : Nat) (R : List (List Nat)) (first tl t : Nat) : Bool :=
  decide (((R.drop first).map (levR tl t)).sum * ((kOf n : Int) + 1) = ((R.length : Int) - first) * (t * stopsOf (kOf n) (restOf n) t + ((kOf n : Int) + 1) * tl))
noncomputable def chkR (n : Nat) (R : List (List Nat)) (first : Nat) : Bool :=
  decide (first < R.length) && (R.map fun r => decide (0 ≤ flRow (kOf n) r)) == (List.range R.length).map (fun i => decide (first ≤ i)) &&
  follow (kOf n) (flRow (kOf n) (R.getD first [])) (((R.map (flRow (kOf n))).drop first) ++ ((R.map (flRow (kOf n))).drop first).take 1) &&
  (List.range 3).all fun tl => (List.range (kOf n + 2)).all fun t => ringOk n R first tl (t + 1)
noncomputable def chk (n : Nat) (P : List Nat) : Bool := match orbN 40 [] P with
  | none => false
  | some (R, P') => chkR n R (R.idxOf (isortN P'))
theorem chk3 : ∀ P ∈ parts 3, chk 3 P = true := by decide +kernel
theorem chk4 : ∀ P ∈ parts 4, chk 4 P = true := by decide +kernel
theorem chk5 : ∀ P ∈ parts 5, chk 5 P = true := by decide +kernel
theorem chk6 : ∀ P ∈ parts 6, chk 6 P = true := by decide +kernel
theorem chk7 : ∀ P ∈ parts 7, chk 7 P = true := by decide +kernel
theorem chk8 : ∀ P ∈ parts 8, chk 8 P = true := by decide +kernel
theorem chk9 : ∀ P ∈ parts 9, chk 9 P = true := by decide +kernel
theorem chk10 : ∀ P ∈ parts 10, chk 10 P = true := by decide +kernel
end Mine
end

section
open PySem PySem.W PySem.Calls PyProof.Rows
namespace Mine

/-! the text of a position -/
noncomputable def blk (m : Nat) : Str := repS " " m
noncomputable def piecesOf (S : List Nat) (t : Nat) : List Str := (S.flatMap fun x => [blk x, "\t"]) ++ tailP (blk t)
noncomputable def codes (S : List Nat) (t : Nat) : List Nat := (S.flatMap fun x => List.replicate x 32 ++ [9]) ++ List.replicate t 32

theorem foldl_cps (a : Array Nat) : ∀ (n : Nat) (acc : Array Nat), ((List.replicate n a).foldl (· ++ ·) acc).toList = acc.toList ++ (List.replicate n a.toList).flatten
  | 0, acc => by simp
  | n + 1, acc => by rw [List.replicate_succ, List.foldl_cons, foldl_cps a n]; simp [List.replicate_succ]
theorem blk_codes (m : Nat) : (blk m).cps.toList = List.replicate m 32 := by
  unfold blk repS
  rw [foldl_cps, blank_eq]
  simp
theorem blk_length (m : Nat) : (blk m).length = m := by
  unfold blk; rw [repS_length]; show m * 1 = m; omega
theorem blk_inj {m n : Nat} (h : blk m = blk n) : m = n := by rw [← blk_length m, h, blk_length]
theorem blk_zero : blk 0 = "" := by decide +kernel
theorem blk_ne {m : Nat} (h : m ≠ 0) : (blk m == ("" : Str)) = false := by
  have : blk m ≠ "" := fun q => h (blk_inj (q.trans blk_zero.symm))
  simpa using this
theorem partsT_blk (m : Nat) : partsT (blk m) = if m = 0 then [] else [blk m, "\t"] := by
  unfold partsT
  by_cases h : m = 0
  · subst h; rw [blk_zero]; rfl
  · rw [blk_ne h, if_neg h]; rfl
theorem tailP_blk (m : Nat) : tailP (blk m) = if m = 0 then [] else [blk m] := by
  unfold tailP
  by_cases h : m = 0
  · subst h; rw [blk_zero]; rfl
  · rw [blk_ne h, if_neg h]; rfl

open Builtin.Str in
theorem glued_codes (ns : List Str) : (glued "" ns).cps.toList = (ns.map (·.cps.toList)).flatten := by
  have e0 : ("" : Str).cps = #[] := by kernel_rfl
  have : ∀ (ns : List Str) (acc : Array Nat), (ns.foldl (fun acc p => acc ++ ("" : Str).cps ++ p.cps) acc).toList = acc.toList ++ (ns.map (·.cps.toList)).flatten := by
    intro ns
    induction ns with
    | nil => intro acc; simp
    | cons p ns ih => intro acc; rw [List.foldl_cons, ih, e0]; simp
  unfold glued
  show Array.toList (List.foldl _ _ _) = _
  rw [this]
  cases ns with
  | nil => rfl
  | cons p ns => rfl
theorem pieces_codes (S : List Nat) (t : Nat) : ((piecesOf S t).map (·.cps.toList)).flatten = codes S t := by
  unfold piecesOf codes
  rw [List.map_append, List.flatten_append]
  congr 1
  · induction S with
    | nil => rfl
    | cons x S ih =>
      rw [List.flatMap_cons, List.flatMap_cons, List.map_append, List.flatten_append, ih]
      congr 1
      simp only [List.map_cons, List.map_nil, List.flatten_cons, List.flatten_nil, List.append_nil]
      rw [blk_codes]
      congr 1
  · rw [tailP_blk]
    by_cases h : t = 0
    · subst h; rfl
    · rw [if_neg h]; simp [blk_codes]
theorem append_codes (x y : Str) : (x ++ y).cps.toList = x.cps.toList ++ y.cps.toList := by
  show (x.cps ++ y.cps).toList = _
  simp

theorem wsRun_blanks : ∀ (m : Nat) (s : Wst) (r : List Nat), wsRun s (List.replicate m 32 ++ r) = wsRun ⟨s.count, s.b + m, s.n + m, s.nt⟩ r
  | 0, s, r => rfl
  | m + 1, s, r => by
    rw [List.replicate_succ, List.cons_append, wsRun_32, wsRun_blanks m]
    show wsRun ⟨s.count, s.b + 1 + m, s.n + 1 + m, s.nt⟩ r = _
    rw [show s.b + 1 + m = s.b + (m + 1) by omega, show s.n + 1 + m = s.n + (m + 1) by omega]
theorem wsRun_piles : ∀ (S : List Nat) (c : List Int) (n k : Nat) (r : List Nat), wsRun ⟨c, 0, n, k⟩ ((S.flatMap fun x => List.replicate x 32 ++ [9]) ++ r) = wsRun ⟨S.foldl bump c, 0, n + S.sum + S.length, k + S.length⟩ r
  | [], c, n, k, r => rfl
  | x :: S, c, n, k, r => by
    rw [List.flatMap_cons, List.append_assoc, List.append_assoc, wsRun_blanks]
    show wsRun _ (9 :: ((S.flatMap fun x => List.replicate x 32 ++ [9]) ++ r)) = _
    rw [wsRun_9, wsRun_piles S]
    show wsRun ⟨List.foldl bump (bump c (0 + x)) S, 0, n + x + 1 + S.sum + S.length, k + 1 + S.length⟩ r = wsRun ⟨List.foldl bump (bump c x) S, 0, n + (x + S.sum) + (S.length + 1), k + (S.length + 1)⟩ r
    rw [Nat.zero_add, show n + x + 1 + S.sum + S.length = n + (x + S.sum) + (S.length + 1) by omega, show k + 1 + S.length = k + (S.length + 1) by omega]
theorem wsRun_codes (S : List Nat) (t : Nat) (r : List Nat) : wsRun ⟨[], 0, 0, 0⟩ (codes S t ++ r) = wsRun ⟨cntN S, t, S.sum + S.length + t, S.length⟩ r := by
  unfold codes
  rw [List.append_assoc, wsRun_piles, wsRun_blanks]
  show wsRun ⟨cntN S, 0 + t, 0 + S.sum + S.length + t, 0 + S.length⟩ r = _
  rw [Nat.zero_add, Nat.zero_add, Nat.zero_add]
theorem wrow_perm {S T : List Nat} (h : S.Perm T) (t : Nat) : wrow S t = wrow T t := by
  unfold wrow; rw [cntN_perm h, h.sum_nat, h.length_eq]
noncomputable def textOf (S : List Nat) (t : Nat) (e : Str) : Str := Builtin.Str.glued "" (piecesOf S t) ++ e
theorem textOf_codes (S : List Nat) (t : Nat) (e : Str) : (textOf S t e).cps.toList = codes S t ++ e.cps.toList := by
  unfold textOf
  rw [append_codes, glued_codes, pieces_codes]
theorem x_codes : ("x \t" : Str).cps.toList = [120, 32, 9] := by kernel_rfl
theorem bx_codes : (" x \t" : Str).cps.toList = [32, 120, 32, 9] := by kernel_rfl
theorem ws_text (S : List Nat) (t : Nat) : wsOf (textOf S t "x \t") = wrow (isortN S) t := by
  unfold wsOf
  rw [textOf_codes, wsRun_codes, x_codes, wsRun_no _ _ _ (by decide) (by decide), wrow_perm (isortN_perm S)]; rfl
theorem ws_text2 (S : List Nat) (t : Nat) : (wsOf (textOf S t " x \t")).b = t + 1 := by
  unfold wsOf
  rw [textOf_codes, wsRun_codes, bx_codes, wsRun_32, wsRun_no _ _ _ (by decide) (by decide)]
theorem codes_lt (S : List Nat) (t : Nat) : ∀ c ∈ codes S t, c < 128 := fun c hc => by
  unfold codes at hc
  rcases List.mem_append.mp hc with hc | hc
  · obtain ⟨x, _, hc⟩ := List.mem_flatMap.mp hc
    rcases List.mem_append.mp hc with hc | hc
    · rw [(List.mem_replicate.mp hc).2]; decide
    · rw [List.mem_singleton.mp hc]; decide
  · rw [(List.mem_replicate.mp hc).2]; decide
theorem codes_length (S : List Nat) (t : Nat) : (codes S t).length = S.sum + S.length + t := by
  unfold codes
  rw [List.length_append, List.length_replicate]
  congr 1
  induction S with
  | nil => rfl
  | cons x S ih => rw [List.flatMap_cons, List.length_append, ih]; simp; omega
theorem text_ascii (S : List Nat) (t : Nat) {e : Str} (he : e.cps.toList.all (· < 128) = true) : (textOf S t e).cps.all (· < 128) = true := by
  rw [← Array.all_toList, textOf_codes, List.all_append, he, Bool.and_true]
  exact List.all_eq_true.mpr fun c hc => by simpa using codes_lt S t c hc
theorem text_size (S : List Nat) (t : Nat) (e : Str) : (textOf S t e).cps.size = S.sum + S.length + t + e.cps.size := by
  have h := congrArg List.length (textOf_codes S t e)
  rw [List.length_append, codes_length, Array.length_toList, Array.length_toList] at h
  exact h
theorem glued_size (S : List Nat) (t : Nat) : (Builtin.Str.glued "" (piecesOf S t)).length = S.sum + S.length + t := by
  show Array.size _ = _
  rw [← Array.length_toList, glued_codes, pieces_codes, codes_length]

/-! the texts of the piles -/
noncomputable def TxtOk (ps : List Pl) (S : List Nat) : Prop := ∃ ms : List Nat, ps.map (·.text) = ms.map blk ∧ ms.filter (fun m => decide (m ≠ 0)) = S ∧ ∀ m ∈ ms, m ≤ 500
theorem TxtOk.parts {ps S} (h : TxtOk ps S) : partsP ps = S.flatMap fun x => [blk x, "\t"] := by
  obtain ⟨ms, h1, h2, h3⟩ := h
  clear h3
  have e1 : partsP ps = (ps.map (·.text)).flatMap partsT := by unfold partsP; rw [List.flatMap_map]
  rw [e1, h1, List.flatMap_map, ← h2]
  clear h1 h2 e1
  induction ms with
  | nil => rfl
  | cons m ms ih =>
    rw [List.flatMap_cons, ih, partsT_blk]
    by_cases q : m = 0
    · subst q; rfl
    · rw [if_neg q, List.filter_cons_of_pos (by simpa using q)]; rfl
theorem TxtOk.nil : TxtOk [] [] := ⟨[], rfl, rfl, fun _ h => nomatch h⟩
theorem TxtOk.add {ps S p x} (h : TxtOk ps S) (hp : p.text = blk x) (hx : 1 ≤ x) (hx' : x ≤ 500) : TxtOk (ps ++ [p]) (S ++ [x]) := by
  obtain ⟨ms, h1, h2, h3⟩ := h
  refine ⟨ms ++ [x], by rw [List.map_append, h1, List.map_append]; simp [hp], ?_, fun m hm => ?_⟩
  · rw [List.filter_append, h2, List.filter_cons_of_pos (by simp; omega)]; rfl
  · rcases List.mem_append.mp hm with hm | hm
    · exact h3 m hm
    · rw [List.mem_singleton.mp hm]; exact hx'
theorem tl_blk (m : Nat) : tl (blk m) = blk (m - 1) := by
  have e : (tl (blk m)).cps.toList = (blk (m - 1)).cps.toList := by
    show ((blk m).cps.extract 1 (blk m).cps.size).toList = _
    rw [Array.toList_extract, List.extract_eq_take_drop, blk_codes, blk_codes, List.take_of_length_le (by rw [List.length_drop, List.length_replicate]; show _ ≤ (blk m).length - 1; rw [blk_length]; omega)]
    simp
  have e2 : (tl (blk m)).cps = (blk (m - 1)).cps := Array.toList_inj.mp e
  cases h1 : tl (blk m); cases h2 : blk (m - 1)
  rw [h1, h2] at e2
  simp only at e2
  rw [e2]
theorem TxtOk.move {ps S p} (h : TxtOk ps S) (hp : p.text = blk S.length) (h0 : S ≠ []) (hl : S.length ≤ 500) : TxtOk (ps.map shorten ++ [p]) (moveN S) := by
  obtain ⟨ms, h1, h2, h3⟩ := h
  have h4 : TxtOk (ps.map shorten) (S.filterMap fun x => if 1 < x then some (x - 1) else none) := by
    refine ⟨ms.map (· - 1), ?_, ?_, fun m hm => ?_⟩
    · rw [List.map_map, List.map_map]
      have : ps.map ((fun p => p.text) ∘ shorten) = (ps.map (·.text)).map tl := by rw [List.map_map]; rfl
      rw [this, h1, List.map_map]
      exact List.map_congr_left fun m _ => tl_blk m
    · rw [← h2]
      clear h1 h2 h3
      induction ms with
      | nil => rfl
      | cons m ms ih =>
        rw [List.map_cons]
        by_cases q : m = 0
        · subst q
          rw [List.filter_cons_of_neg (by simp), List.filter_cons_of_neg (a := 0) (by simp), ih]
        · rw [List.filter_cons_of_pos (a := m) (by simpa using q)]
          by_cases q1 : 1 < m
          · rw [List.filter_cons_of_pos (by simp; omega), List.filterMap_cons_some (b := m - 1) (by simp [q1]), ih]
          · rw [List.filter_cons_of_neg (by simp; omega), List.filterMap_cons_none (by simp [q1]), ih]
    · obtain ⟨m', hm', rfl⟩ := List.mem_map.mp hm
      have := h3 m' hm'; omega
  have hpos := List.length_pos_iff.mpr h0
  exact h4.add hp (by omega) hl
theorem TxtOk.len {ps S} (h : TxtOk ps S) : ∀ p ∈ ps, p.text.length ≤ 1000 := fun p hp => by
  obtain ⟨ms, h1, h2, h3⟩ := h
  have : p.text ∈ ms.map blk := by rw [← h1]; exact List.mem_map_of_mem hp
  obtain ⟨m, hm, e⟩ := List.mem_map.mp this
  rw [← e, blk_length]
  have := h3 m hm; omega
end Mine
end

section
set_option maxHeartbeats 4000000
open PySem PySem.W PySem.Calls PyProof.Rows
namespace Mine

noncomputable def rowV (r : List Nat) : AV := .list ((ci r).map .int)
/-- where the law's lists lie -/
structure LL where
  B : Nat
  D : Nat
  L : Nat
  R : Nat
noncomputable def LeadsAt (h : Hp) (l : Nat) (R : List (List Nat)) (t : Nat) : Prop := ∃ ls : List Nat, h l = some (.list (ls.map .obj)) ∧ ls.length = R.length ∧
  ∀ (i k : Nat) (r : List Nat), ls[i]? = some k → R[i]? = some r → ∃ x ld, h k = some (.inst 142 ld) ∧ h ld = some (.iattrs (wsA x (wrow r t)))
noncomputable def BooksOk (bs : List AV) : Prop := ∀ x ∈ bs, ∃ n c, x = bookOf n c
noncomputable def SzOk (h : Hp) (P : Nat) (z : LL) (a : AV) (S : List Nat) : Prop := a = .list ((ci S).map .int) ∨ ∃ l, a = .obj l ∧ h l = some (.list ((ci S).map .int)) ∧ l ∉ [z.B, z.D, z.L, z.R, P]
/-- the law's state between two turns -/
structure LSt (h : Hp) (b : TB) (z : LL) (t : Nat) (a : AV) (S : List Nat) (R : List (List Nat)) (m : Nat) : Prop where
  T : ∃ ps, Tbl h b (blk t) ps ∧ TxtOk ps S ∧ ps.length = m
  q : TQ h 0 qPile
  q1 : TQ h 1 qTab
  bk : ∃ bs, h z.B = some (.list bs) ∧ h z.D = some (.list bs) ∧ bs.length = m ∧ BooksOk bs
  ld : LeadsAt h z.L R t
  rw : h z.R = some (.list (R.map rowV))
  ne : [z.B, z.D, z.L, z.R, b.P].Nodup
  sz : SzOk h b.P z a S

theorem ci_len (S : List Nat) : ((ci S).map AV.int).length = S.length := by unfold ci; rw [List.length_map, List.length_map]
theorem ci_lt {S : List Nat} {i : Nat} (hi : i < ((ci S).map AV.int).length) : i < S.length := Nat.lt_of_lt_of_eq hi (ci_len S)
theorem ci_at {S : List Nat} {i : Nat} (hi : i < S.length) : ((ci S).map AV.int).getD i .none = .int ((S.getD i 0 : Nat) : Int) := by
  unfold ci; rw [List.map_map, getD_mapD (d := 0) hi]; rfl
theorem SzOk.readL {h P z a S} (x : SzOk h P z a S) : readL h a = some ((ci S).map .int) := by
  rcases x with rfl | ⟨l, rfl, e, _⟩
  · rfl
  · exact readL_obj e
theorem TQ.keep0 {h h' : Hp} {l : Nat} {q : Str} (t : TQ h l q) (k : Keep h h' []) : TQ h' l q := let ⟨es, e1, e2⟩ := t; ⟨es, k _ _ e1 (fun z => nomatch z), e2⟩
theorem LeadsAt.stay {h h' : Hp} {l : Nat} {R t} (x : LeadsAt h l R t) (h1 : ∀ o, h l = some o → h' l = some o) (h2 : ∀ k o, h k = some o → kindA o = 6 ∨ kindA o = 7 → h' k = some o) : LeadsAt h' l R t := by
  obtain ⟨ls, e1, e2, e3⟩ := x
  refine ⟨ls, h1 _ e1, e2, fun i k r a b => ?_⟩
  obtain ⟨x, ld, w1, w2⟩ := e3 i k r a b
  exact ⟨x, ld, h2 _ _ w1 (.inl rfl), h2 _ _ w2 (.inr rfl)⟩
theorem LSt.keep {h h' : Hp} {b z t a S R m} (x : LSt h b z t a S R m) (k : Keep h h' []) : LSt h' b z t a S R m where
  T := let ⟨ps, T, e⟩ := x.T; ⟨ps, T.keep k (fun _ w => nomatch w), e⟩
  q := x.q.keep0 k
  q1 := x.q1.keep0 k
  bk := let ⟨bs, e1, e2, e3⟩ := x.bk; ⟨bs, k _ _ e1 (fun w => nomatch w), k _ _ e2 (fun w => nomatch w), e3⟩
  ld := x.ld.stay (fun o e => k _ _ e (fun w => nomatch w)) fun l o e _ => k _ _ e (fun w => nomatch w)
  rw := k _ _ x.rw (fun w => nomatch w)
  ne := x.ne
  sz := x.sz.imp id fun ⟨l, e1, e2, e3⟩ => ⟨l, e1, k _ _ e2 (fun w => nomatch w), e3⟩

/-- two texts, two flags -/
theorem Cmps.strs (n : Nat) (ns : List Str) : Cmps n (ns.map .str) (ns.map .str) (fun _ => true) := fun j x y hx hy => by
  rw [hx] at hy; cases hy
  rw [List.getElem?_map, Option.map_eq_some_iff] at hx
  obtain ⟨s, _, rfl⟩ := hx
  have := Cmp.str n s s
  rw [beq_self_eq_true] at this; exact this
theorem Cmps.bools (n : Nat) (xs ys : List Bool) : Cmps n (xs.map .bool) (ys.map .bool) (fun j => xs.getD j true == ys.getD j true) := fun j x y hx hy => by
  rw [List.getElem?_map, Option.map_eq_some_iff] at hx hy
  obtain ⟨a, ha, rfl⟩ := hx
  obtain ⟨b, hb, rfl⟩ := hy
  have e1 : xs.getD j true = a := by simp [ha]
  have e2 : ys.getD j true = b := by simp [hb]
  show Cmp n _ _ (xs.getD j true == ys.getD j true)
  rw [e1, e2]; exact Cmp.bool ..
theorem all_true (n : Nat) : (n == n && (List.range n).all fun _ => true) = true := by simp
theorem bools_all (xs ys : List Bool) : ((xs.map AV.bool).length == (ys.map AV.bool).length && (List.range (xs.map AV.bool).length).all fun j => xs.getD j true == ys.getD j true) = (xs == ys) := by
  rw [List.length_map, List.length_map, Bool.eq_iff_iff, Bool.and_eq_true, beq_iff_eq, beq_iff_eq, List.all_eq_true]
  constructor
  · rintro ⟨h1, h2⟩
    refine List.ext_getElem h1 fun i a b => ?_
    have := h2 i (List.mem_range.mpr a)
    simpa [a, b] using this
  · rintro rfl
    exact ⟨rfl, fun i _ => by simp⟩
theorem Cmps.ints (n : Nat) (xs ys : List Int) : Cmps n (xs.map .int) (ys.map .int) (fun i => xs.getD i 0 == ys.getD i 0) := fun j x y hx hy => by
  rw [List.getElem?_map, Option.map_eq_some_iff] at hx hy
  obtain ⟨a, ha, rfl⟩ := hx
  obtain ⟨b, hb, rfl⟩ := hy
  have e1 : xs.getD j 0 = a := by simp [ha]
  have e2 : ys.getD j 0 = b := by simp [hb]
  show Cmp n _ _ (xs.getD j 0 == ys.getD j 0)
  rw [e1, e2]; exact Cmp.int ..
theorem ints_all (xs ys : List Int) : ((xs.map AV.int).length == (ys.map AV.int).length && (List.range (xs.map AV.int).length).all fun i => xs.getD i 0 == ys.getD i 0) = (xs == ys) := by
  rw [List.length_map, List.length_map]; exact all_getD xs ys
theorem ci_eq (r s : List Nat) : (ci r == ci s) = (r == s) := by
  rw [Bool.eq_iff_iff, beq_iff_eq, beq_iff_eq]
  refine ⟨fun e => ?_, fun e => by rw [e]⟩
  unfold ci at e
  exact (List.map_inj_right (f := fun x : Nat => (x : Int)) fun a b h => by omega).mp e
theorem Cmp.rows (n : Nat) (r s : List Nat) : Cmp (n + 1) (rowV r) (rowV s) (r == s) := by
  have := Cmp.list n ((ci r).map .int) ((ci s).map .int) (fun i => (ci r).getD i 0 == (ci s).getD i 0) (Cmps.ints n _ _)
  rw [ints_all, ci_eq] at this
  exact this
theorem sorted_ci {S : List Nat} {ns : List Int} (h1 : ns.Perm (ci S)) (h2 : ns.Pairwise (· ≤ ·)) : ns = ci (isortN S) := by
  refine List.Perm.eq_of_pairwise (le := (· ≤ ·)) (fun a b _ _ x y => Int.le_antisymm x y) h2 ?_ (h1.trans ?_)
  · unfold ci
    rw [List.pairwise_map]
    exact (isortN_sorted S).imp fun h => by omega
  · exact ((isortN_perm S).map _).symm

section
variable {K : Bse} {c : Cx} {h : Hp} {Q : AV → Hp → Prop} {d : Nat} {F : Frag}
theorem Kp.cls {C : Addr} (hF : ∀ a o, F.lookup a = some o → K.B a = some o) (hk : keepIn F (.ref C) = true) : Kp K (.raw (.ref C)) h := fun c A G s fv P R hf hP => by
  cases hf
  obtain ⟨k, _, L⟩ := looks_keep (M := K.M) hk (R.fragIn hF)
  exact L A P _ s (fun _ _ e => e) (hP k)
theorem Exs.subL {L B : Lc} {sts : List Stmt} {Q : Fl → Lc → Hp → Prop} (hB : SubL B L) (x : Exs K (c.at B) sts h Q) : Exs K (c.at L) sts h Q := fun A G s hA R => x A G s hA (Rel.sub R fun _ _ e => hB.get e)
end
end Mine
end

section
set_option maxHeartbeats 4000000
open PySem PySem.W PySem.Calls PyProof.Rows
namespace Mine

noncomputable def whB : List Stmt := match (bodyI 24).drop 10 with | .While _ b _ _ :: _ => b | _ => []
noncomputable def bL (cards high t : Nat) (a : AV) (b : TB) (z : LL) : Lc := [("cards", .int cards), ("high", .int high), ("tail", .str (blk t)), ("sizes", a), ("given", givenV), ("table", .obj b.T), ("books", .obj z.B), ("due", .obj z.D), ("leads", .obj z.L), ("rows", .obj z.R)]
noncomputable def sameV (R : List (List Nat)) (row : List Nat) : List Bool := R.map fun r => r == row
noncomputable def bG (cards high t : Nat) (a : AV) (b : TB) (z : LL) (l : Nat) (row : List Nat) : Lc := [("cards", .int cards), ("high", .int high), ("tail", .str (blk t)), ("sizes", a), ("given", givenV), ("table", .obj b.T), ("books", .obj z.B), ("due", .obj z.D), ("leads", .obj z.L), ("rows", .obj z.R), ("lead", .obj l), ("row", rowV row)]
noncomputable def bE (cards high t : Nat) (z : LL) (lP l : Nat) (same : List Bool) : Lc := [("cards", .int cards), ("high", .int high), ("tail", .str (blk t)), ("given", givenV), ("books", .obj z.B), ("due", .obj z.D), ("leads", .obj z.L), ("rows", .obj z.R), ("pieces", .obj lP), ("lead", .obj l), ("same", .list (same.map .bool))]
theorem pos_len {S : List Nat} (h : Pos S) : S.length ≤ S.sum := by
  induction S with
  | nil => exact Nat.le_refl _
  | cons x S ih =>
    have := ih fun y hy => h y (List.mem_cons_of_mem _ hy)
    have := h x (List.mem_cons_self ..)
    simp only [List.length_cons, List.sum_cons]; omega
theorem mem_sum {S : List Nat} {x : Nat} (h : x ∈ S) : x ≤ S.sum := by
  induction S with
  | nil => cases h
  | cons y S ih =>
    simp only [List.sum_cons]
    rcases List.mem_cons.mp h with rfl | h
    · omega
    · have := ih h; omega
theorem two_len (S : List Nat) : (S.flatMap fun x => [blk x, ("\t" : Str)]).length = 2 * S.length := by
  induction S with
  | nil => rfl
  | cons x S ih => rw [List.flatMap_cons, List.length_append, ih]; simp; omega
theorem wrow_eq {n : Nat} (hn : n ≤ 10) {r s : List Nat} (h : r ∈ parts n) (h' : s ∈ parts n) (t : Nat) : nEq (wrow r t) (wrow s t) = (r == s) := by
  unfold nEq wrow
  rw [cnt_inj hn h h']; simp

section
variable {K : Bse} {c : Cx} {h : Hp} {d : Nat} {F : Frag} {fI fL fE : Addr} {mc : Value} {tS tT : Tok} {kk fa L : Addr} {pm : Value}
noncomputable abbrev cLaw (kk : Addr) (pm : Value) (L fa : Addr) (d : Nat) : Cx := ⟨d + 9, callEnvC (fdI 24 kk .none pm) L fa, true, []⟩

theorem turnA (hK : OkK K) (W : WsK K F fI fL fE mc tS tT) (hkp : keepIn F (.ref 142) = true) {b : TB} {z : LL} {t m cards high : Nat} {a : AV} {S : List Nat} {R : List (List Nat)} (I : LSt h b z t a S R m) (hS : Pos S) (hn : S.sum ≤ 10) (hm : m ≤ 60) (hR : ∀ r ∈ R, r ∈ parts S.sum) (hRl : R.length ≤ 60) (ht : t ≤ 2) {Q : Fl → Lc → Hp → Prop}
    (hb : isortN S ∈ R → ∀ L' h' lP l x ld, SubL (bE cards high t z lP l (sameV R (isortN S))) L' → LSt h' b z t a S R m → h' lP = some (.list ((piecesOf S t).map .str)) → h' l = some (.inst 142 ld) → h' ld = some (.iattrs (wsA x (wrow (isortN S) t))) → Q .brk L' h')
    (hg : isortN S ∉ R → ∀ h' l x ld, LSt h' b z t a S R m → h l = none → h' l = some (.inst 142 ld) → h' ld = some (.iattrs (wsA x (wrow (isortN S) t))) → Exs K ((cLaw kk pm L fa d).at (bG cards high t a b z l (isortN S))) (whB.drop 8) h' Q) :
    Exs K ((cLaw kk pm L fa d).at (bL cards high t a b z)) whB h Q := by
  have hlen := pos_len hS
  refine Exs.asL ?_
  refine Ev.listM ?_
  refine Es.nil ⟨by decide, fun lP hlP => ?_⟩
  obtain ⟨ps, T, X, hps⟩ := I.T
  have k1 : Keep h (h.put lP (.list [])) [] := Keep.new hlP
  have T1 := T.keep k1 (fun _ w => nomatch w)
  have hne : lP ≠ b.P := fun w => by rw [w, T.P] at hlP; cases hlP
  refine Exs.exE ?_
  refine Ev.clG hK rfl rfl rfl ?_
  refine Es.cs ?_
  refine Ev.attrN rfl ?_
  refine Attr.append (Hp.put_self ..) ?_
  refine Es.nm rfl ?_
  refine Es.nil ?_
  refine ser_spec hK T1 (by omega) (by rw [blk_length]; omega) (Hp.put_self ..) hne ?_
  rw [Hp.put_put, X.parts]
  have k2 : Keep h (h.put lP (.list ((piecesOf S t).map .str))) [] := Keep.new hlP
  have e2 : (h.put lP (.list ((piecesOf S t).map .str))) lP = some (.list ((piecesOf S t).map .str)) := Hp.put_self ..
  show Exs K _ _ (h.put lP (.list ((piecesOf S t).map .str))) _
  generalize h.put lP (.list ((piecesOf S t).map .str)) = h2 at k2 e2
  have I2 := I.keep k2
  -- the pieces
  refine Exs.ifs ?_
  refine It.compare ?_
  refine Ev.nm rfl ?_
  refine Ev.binop ?_
  refine Ev.comp (ml := false) (cl := []) (Lcap := []) ⟨by kernel_rfl, trivial, List.nodup_nil, by kernel_rfl, trivial⟩ ?_
  refine CompE.two ?_ (by intro _ _; kernel_rfl)
  refine EvI.listN rfl ?_
  refine ⟨_, I2.sz.readL, I2.sz.readL, by rw [List.length_map]; unfold ci; rw [List.length_map]; omega, fun i => [.str (blk (S.getD i 0)), .str "\t"], fun C i hi => ?_, ?_⟩
  · have hib : i < S.length := ci_lt hi
    have hx : S.getD i 0 ≤ 10 := by
      have e : S.getD i 0 = S[i] := getD_at hib
      rw [e]; exact Nat.le_trans (mem_sum (List.getElem_mem hib)) hn
    have ei : ([((ci S).map AV.int).getD i .none] : List AV) = [.int ((S.getD i 0 : Nat) : Int)] := congrArg (fun z => [z]) (ci_at hib)
    refine BindT.one ei ?_
    refine EvI.tuple ?_
    refine Ev.tuple ?_
    refine Es.cs ?_
    refine Ev.binop ?_
    refine Ev.str ?_
    refine Ev.nm rfl ?_
    refine Op2.mulS (by decide +kernel) (by omega) (by omega) ?_
    rw [Int.toNat_natCast]
    refine Es.cs ?_
    refine Ev.str ?_
    refine Es.nil ⟨le_line (Nat.le_of_ble_eq_true rfl), ?_⟩
    refine ⟨_, rfl, rfl, trivial, by simp, fun j => ([AV.str (blk (S.getD i 0)), .str "\t"]).getD j .none, rfl, trivial, fun j hj => ?_⟩
    refine BindT.one rfl ?_
    refine ⟨⟨rfl, trivial⟩, rfl, ?_⟩
    exact Ev.name rfl ⟨rfl, rfl⟩
  have ef : (List.range ((ci S).map AV.int).length).flatMap (fun i => [AV.str (blk (S.getD i 0)), AV.str "\t"]) = (S.flatMap fun x => [blk x, "\t"]).map .str := by
    have := ci_len S
    rw [this, range_flatMap S (fun x => [AV.str (blk x), AV.str "\t"]) _ fun i hi => by simp [hi], List.map_flatMap]; rfl
  rw [ef]
  have hP : (S.flatMap fun x => [blk x, ("\t" : Str)]).map AV.str ++ (tailP (blk t)).map AV.str = (piecesOf S t).map .str := by unfold piecesOf; rw [List.map_append]
  have hPl : ((S.flatMap fun x => [blk x, ("\t" : Str)]).map AV.str).length + ((tailP (blk t)).map AV.str).length ≤ sizeLine := by
    rw [List.length_map, two_len, List.length_map, tailP_blk]
    refine le_line ?_
    split <;> simp <;> omega
  have hcont : ∀ {Q : Bool → Hp → Prop}, Q false h2 → ∀ {c : Cx}, Op2 K c (compareOp .NotEq) (.obj lP) (.list ((piecesOf S t).map .str)) h2 fun v h3 => Tru K c v h3 Q := fun {Q} hq {c} => by
    refine Op2.neL (n := 0) (readL_obj e2) rfl (Cmps.strs 0 _) (by decide) (Tru.bool ?_)
    rw [all_true]; exact hq
  refine Ev.ifexp ?_
  refine It.val ?_
  refine Ev.nm rfl ?_
  refine Tru.str (by rw [blk_length]; omega) ?_
  rw [blk_length]
  have part2 : Exs K ((cLaw kk pm L fa d).at (setL (bL cards high t a b z) "pieces" (.obj lP))) (whB.drop 3) h2 Q := by
    have hpl : (piecesOf S t).length ≤ 1000 := by
      unfold piecesOf
      rw [List.length_append, two_len, tailP_blk]
      split <;> simp <;> omega
    have hpw : ∀ w ∈ piecesOf S t, w.length ≤ 1000 := fun w hw => by
      unfold piecesOf at hw
      rcases List.mem_append.mp hw with hw | hw
      · obtain ⟨x, hx, hw⟩ := List.mem_flatMap.mp hw
        have := mem_sum hx
        rcases List.mem_cons.mp hw with rfl | hw
        · rw [blk_length]; omega
        · rw [List.mem_singleton.mp hw]; decide +kernel
      · rw [tailP_blk] at hw
        split at hw
        · cases hw
        · rw [List.mem_singleton.mp hw, blk_length]; omega
    refine Exs.asC ?_ rfl
    refine Ev.cl ?_ rfl
    refine Ev.G hK rfl rfl ?_
    refine Es.cs ?_
    refine Ev.binop ?_
    refine Ev.meth (d := d + 8) ?_ rfl
    refine Ev.str ?_
    refine Meth.join ?_
    refine Es.nm rfl ?_
    refine Es.nil ?_
    refine Ks.nil ⟨rfl, Kp.builtin, ?_⟩
    refine Ca.joinB (readL_obj e2) hpl (by decide +kernel) hpw ?_
    refine Ev.str ?_
    refine Op2.addS (by rw [glued_size, show ("x \t" : Str).length = 3 by decide +kernel]; omega) ?_
    refine Es.nil ?_
    refine Ks.nil ⟨rfl, Kp.cls W.X.sub hkp, ?_⟩
    refine ws_spec hK W (x := textOf S t "x \t") (text_ascii S t (by kernel_rfl)) (by rw [text_size]; show _ + 3 ≤ 1000; omega) fun l ld h3 hl0 hld0 k3' i3 a3 => ?_
    rw [ws_text] at a3
    have I3 := I2.keep k3'
    have e3 := k3' _ _ e2 (fun w => nomatch w)
    have hl : h l = none := k2.none hl0 (fun w => nomatch w)
    have hlen2 := ci_len S
    refine Exs.asC ?_ rfl
    refine Ev.clB hK rfl rfl rfl ?_
    refine Es.nm rfl ?_
    refine Es.nil ?_
    refine Ca.sorted I3.sz.readL (by unfold ci; rw [List.length_map]; omega) fun ns' hp hs => ?_
    rw [sorted_ci hp hs]
    show Exs K ((cLaw kk pm L fa d).at (setL (setL (setL (bL cards high t a b z) "pieces" (.obj lP)) "lead" (.obj l)) "row" (rowV (isortN S)))) (whB.drop 5) h3 Q
    have hP' : isortN S ∈ parts S.sum := parts_mem hS
    generalize isortN S = row at *
    obtain ⟨ls, l1, l2, l3⟩ := I3.ld
    refine Exs.asgComp (ml := false) (cl := [("lead", L + 7)]) (Lcap := [("lead", .obj l)]) ⟨by kernel_rfl, ⟨by kernel_rfl, trivial⟩, show (["lead"] : List Str).Nodup by decide +kernel, by kernel_rfl, ⟨rfl, trivial⟩⟩ ?_
    refine CompE.one ?_
    refine EvI.listN rfl ?_
    refine ⟨_, readL_obj l1, readL_obj l1, by rw [List.length_map]; omega, fun i => some (.bool (R.getD i [] == row)), fun C i hi => ?_, ?_⟩
    · have hib : i < ls.length := len_lt hi
      have hir : i < R.length := by omega
      have ei : ([(ls.map AV.obj).getD i .none] : List AV) = [.obj ls[i]] := congrArg (fun z => [z]) (getD_map hib)
      refine BindT.one ei ?_
      obtain ⟨x', ld', j1, j2⟩ := l3 i ls[i] R[i] (by simp [hib]) (by simp [hir])
      refine ⟨⟨rfl, trivial⟩, ?_⟩
      refine Ev.meth (d := d + 8) ?_ rfl
      refine Ev.nm rfl ?_
      refine Meth.inst W.X ⟨ld', j1, .inr j2⟩ W.cE op_equal rfl ?_
      refine Es.nm rfl ?_
      refine Es.nil ?_
      refine Ks.nil ⟨rfl, ?_⟩
      refine equal_spec W ⟨ld', j1, .inr j2⟩ ⟨ld, i3, .inr a3⟩ ?_
      rw [wrow_eq hn (hR _ (List.getElem_mem hir)) hP']
      refine ⟨rfl, ?_⟩
      simp [hir]
    have es : (List.range (ls.map AV.obj).length).filterMap (fun i => some (AV.bool (R.getD i [] == row))) = (sameV R row).map .bool := by
      rw [List.length_map, l2, range_filterMap R (f := fun r => some (AV.bool (r == row))) _ fun i hi => by simp [hi]]
      unfold sameV
      rw [List.map_map]
      exact congrFun List.filterMap_eq_map _
    rw [es]
    have hsl : (sameV R row).length = R.length := by unfold sameV; rw [List.length_map]
    have hrr := readL_obj I3.rw
    show Exs K ((cLaw kk pm L fa d).at (setL (setL (setL (setL (bL cards high t a b z) "pieces" (.obj lP)) "lead" (.obj l)) "row" (rowV row)) "same" (.list ((sameV R row).map .bool)))) (whB.drop 6) h3 Q
    refine Exs.ifs ?_
    refine It.compare ?_
    refine Ev.comp (ml := false) (cl := [("row", L + 8)]) (Lcap := [("row", rowV row)]) ⟨by kernel_rfl, ⟨by kernel_rfl, trivial⟩, show (["row"] : List Str).Nodup by decide +kernel, by kernel_rfl, ⟨rfl, trivial⟩⟩ ?_
    refine CompE.one ?_
    refine EvI.zip ?_
    refine Ev.B hK rfl rfl ⟨rfl, ?_⟩
    refine Ev.nm rfl ?_
    refine Ev.nm rfl ?_
    refine ⟨_, _, rfl, hrr, ⟨rfl, hrr⟩, by rw [List.length_map, List.length_map, hsl]; omega, fun i => some (.bool true), fun C i hi => ?_, ?_⟩
    · have hir : i < R.length := by rw [List.length_map, List.length_map, hsl] at hi; omega
      have ei : ([((sameV R row).map AV.bool).getD i .none, (R.map rowV).getD i .none] : List AV) = [.bool (R[i] == row), rowV R[i]] := by
        unfold sameV; simp [hir]
      refine BindT.two ei ?_
      refine ⟨⟨rfl, trivial⟩, ?_⟩
      refine Ev.compare ?_
      refine Ev.nm rfl ?_
      refine Ev.compare ?_
      refine Ev.nm rfl ?_
      refine Ev.nm rfl ?_
      refine Op2.eqL (n := 0) rfl rfl (Cmps.ints 0 (ci R[i]) (ci row)) (by decide) ?_
      rw [ints_all, ci_eq]
      refine Op2.isB ⟨rfl, ?_⟩
      rw [beq_self_eq_true]
    rw [List.length_map, List.length_map, hsl, Nat.min_self, range_map R.length _ (fun _ => AV.bool true) fun i _ => rfl]
    refine Ev.binop ?_
    refine Ev.list ?_
    refine Es.cs ?_
    refine Ev.cbool ?_
    refine Es.nil ⟨le_line (Nat.le_of_ble_eq_true rfl), ?_⟩
    refine Ev.lenN hK rfl rfl rfl hrr (by simp; omega) ?_
    rw [List.length_map]
    refine Op2.mulL rfl (by omega) (by omega) ?_
    rw [Int.toNat_natCast]
    have eb : (List.range R.length).map (fun _ => AV.bool true) = (List.replicate R.length true).map .bool := by
      rw [List.map_replicate]; exact (List.eq_replicate_iff.mpr ⟨by simp, fun x hx => by obtain ⟨_, _, e⟩ := List.mem_map.mp hx; exact e.symm⟩)
    have eb2 : List.replicate R.length (AV.bool true) = (List.replicate R.length true).map .bool := by rw [List.map_replicate]
    rw [eb, eb2]
    refine Op2.neL (n := 0) rfl rfl (Cmps.bools 0 _ _) (by decide) (Tru.bool ?_)
    rw [bools_all, beq_self_eq_true]
    refine Exs.endS ?_
    refine Exs.ifs ?_
    refine It.cmpNN rfl rfl ?_
    refine Op2.inL (n := 1) (e := fun x => match x with | .list ys => (ys.map fun y => match y with | .int i => i | _ => 0) == ci row | _ => false) hrr (fun x hx => ?_) (by decide) (Tru.bool ?_)
    · obtain ⟨r, _, rfl⟩ := List.mem_map.mp hx
      have := Cmp.rows 0 r row
      rw [← ci_eq] at this
      have e : ((ci r).map AV.int).map (fun y => match y with | .int i => i | _ => 0) = ci r := by
        rw [List.map_map]; exact List.map_id' _
      show Cmp 1 _ _ (((ci r).map AV.int).map (fun y => match y with | .int i => i | _ => 0) == ci row)
      rw [e]; exact this
    have ea : ((R.map rowV).any fun x => match x with | .list ys => (ys.map fun y => match y with | .int i => i | _ => 0) == ci row | _ => false) = decide (row ∈ R) := by
      rw [List.any_map, Bool.eq_iff_iff, List.any_eq_true, decide_eq_true_eq]
      have e : ∀ r, ((ci r).map AV.int).map (fun y => match y with | .int i => i | _ => 0) = ci r := fun r => by
        rw [List.map_map]; exact List.map_id' _
      constructor
      · rintro ⟨r, hr, h⟩
        have h : (((ci r).map AV.int).map (fun y => match y with | .int i => i | _ => 0) == ci row) = true := h
        rw [e, ci_eq, beq_iff_eq] at h
        exact h ▸ hr
      · intro hr
        refine ⟨row, hr, ?_⟩
        show (((ci row).map AV.int).map (fun y => match y with | .int i => i | _ => 0) == ci row) = true
        rw [e, beq_self_eq_true]
    rw [ea]
    by_cases q : row ∈ R
    · rw [decide_eq_true q]
      refine Exs.brk ?_
      exact hb q _ h3 lP l _ ld ⟨rfl, rfl, rfl, rfl, rfl, rfl, rfl, rfl, rfl, rfl, rfl, trivial⟩ I3 e3 i3 a3
    · rw [decide_eq_false q]
      refine Exs.endS ?_
      refine Exs.subL (B := bG cards high t a b z l row) ⟨rfl, rfl, rfl, rfl, rfl, rfl, rfl, rfl, rfl, rfl, rfl, rfl, trivial⟩ ?_
      exact hg q h3 l _ ld I3 hl i3 a3
  by_cases q0 : t = 0
  · subst q0
    refine Ev.list ?_
    refine Es.nil ⟨le_line (Nat.le_of_ble_eq_true rfl), ?_⟩
    rw [tailP_blk, if_pos rfl] at hP hPl
    refine Op2.addL rfl rfl hPl ?_
    rw [show (List.map AV.str (S.flatMap fun x => [blk x, ("\t" : Str)])) ++ [] = (piecesOf S 0).map .str from hP]
    refine hcont ?_
    refine Exs.endS ?_
    exact part2
  · have e1 : (((t : Nat) : Int) != 0) = true := by
      have : ((t : Nat) : Int) ≠ 0 := by omega
      simpa using this
    rw [e1]
    refine Ev.list ?_
    refine Es.nm rfl ?_
    refine Es.nil ⟨le_line (Nat.le_of_ble_eq_true rfl), ?_⟩
    rw [tailP_blk, if_neg q0] at hP hPl
    refine Op2.addL rfl rfl hPl ?_
    rw [show (List.map AV.str (S.flatMap fun x => [blk x, ("\t" : Str)])) ++ [AV.str (blk t)] = (piecesOf S t).map .str from hP]
    refine hcont ?_
    refine Exs.endS ?_
    exact part2
end
end Mine
end

section
set_option maxHeartbeats 4000000
open PySem PySem.W PySem.Calls PyProof.Rows
namespace Mine

theorem ci_move (S : List Nat) : (S.filterMap fun x : Nat => if 1 < x then some (AV.int ((x : Int) - 1)) else none) ++ [AV.int (S.length : Int)] = (ci (moveN S)).map .int := by
  unfold moveN ci
  rw [List.map_append, List.map_append]
  congr 1
  rw [List.map_filterMap, List.map_filterMap]
  congr 1
  funext x
  by_cases q : 1 < x
  · rw [if_pos q, if_pos q]
    show some _ = some (AV.int ((x - 1 : Nat) : Int))
    rw [show ((x - 1 : Nat) : Int) = (x : Int) - 1 by omega]
  · rw [if_neg q, if_neg q]; rfl

section
variable {K : Bse} {c : Cx} {h : Hp} {d : Nat} {F : Frag} {fI fL fE : Addr} {mc : Value} {tS tT : Tok} {kk fa L : Addr} {pm : Value}

theorem turnB (hK : OkK K) (W : WsK K F fI fL fE mc tS tT) {b : TB} {z : LL} {t m cards high : Nat} {a : AV} {S : List Nat} {R : List (List Nat)} (I : LSt h b z t a S R m) (h0 : S ≠ []) (hS : Pos S) (hn : S.sum ≤ 10) (hm : m ≤ 60) (hRl : R.length ≤ 60)
    {l ld : Nat} {x : Str} (i1 : h l = some (.inst 142 ld)) (i2 : h ld = some (.iattrs (wsA x (wrow (isortN S) t)))) {Q : Fl → Lc → Hp → Prop}
    (hQ : ∀ L' h2 a', SubL (bL cards high t a' b z) L' → LSt h2 b z t a' (moveN S) (R ++ [isortN S]) (m + 1) → Q .next L' h2) :
    Exs K ((cLaw kk pm L fa d).at (bG cards high t a b z l (isortN S))) (whB.drop 8) h Q := by
  have hlen := pos_len hS
  have ne := I.ne
  simp only [List.nodup_cons, List.mem_cons, List.not_mem_nil, or_false, not_or, List.nodup_nil, and_true, not_false_eq_true] at ne
  obtain ⟨⟨nBD, nBL, nBR, nBP⟩, ⟨nDL, nDR, nDP⟩, ⟨nLR, nLP⟩, nRP⟩ := ne
  obtain ⟨ls, l1, l2, l3⟩ := I.ld
  obtain ⟨bs, b1, b2, b3, b4⟩ := I.bk
  obtain ⟨ps, T, X, hps⟩ := I.T
  have hrr := I.rw
  have hnt : (isortN S).length = S.length := (isortN_perm S).length_eq
  generalize isortN S = row at *
  -- leads and rows
  refine Exs.app rfl rfl l1 ?_
  refine Ev.nm rfl ?_
  refine ⟨_, l1, (by rw [List.length_map]; omega), ?_⟩
  have kL : Keep h (h.put z.L (.list (ls.map .obj ++ [.obj l]))) [z.L] := Keep.upd (List.mem_singleton.mpr rfl)
  have eL : (h.put z.L (.list (ls.map .obj ++ [.obj l]))) z.L = _ := Hp.put_self ..
  generalize h.put z.L (.list (ls.map .obj ++ [.obj l])) = h1 at kL eL
  have rw1 : h1 z.R = some (.list (R.map rowV)) := kL _ _ hrr (by simpa using Ne.symm nLR)
  refine Exs.app rfl rfl rw1 ?_
  refine Ev.nm rfl ?_
  refine ⟨_, rw1, (by rw [List.length_map]; omega), ?_⟩
  have kR : Keep h1 (h1.put z.R (.list (R.map rowV ++ [rowV row]))) [z.R] := Keep.upd (List.mem_singleton.mpr rfl)
  have eR : (h1.put z.R (.list (R.map rowV ++ [rowV row]))) z.R = _ := Hp.put_self ..
  generalize h1.put z.R (.list (R.map rowV ++ [rowV row])) = h2 at kR eR
  have k2 : Keep h h2 [z.L, z.R] := (kL.sub fun w hw => by rw [List.mem_singleton.mp hw]; exact List.mem_cons_self ..).trans (kR.sub fun w hw => by rw [List.mem_singleton.mp hw]; exact List.mem_cons_of_mem _ (List.mem_cons_self ..))
  have offs : ∀ w ∈ [z.L, z.R], Off h b w := fun w hw o e => by
    rcases List.mem_cons.mp hw with q | hw
    · rw [q] at e ⊢; rw [l1] at e; cases e; exact .inl ⟨rfl, nLP⟩
    · have q := List.mem_singleton.mp hw
      rw [q] at e ⊢; rw [hrr] at e; cases e; exact .inl ⟨rfl, nRP⟩
  have T2 := T.keep k2 offs
  have tq2 : TQ h2 0 qPile := (I.q.ki kL l1).ki kR rw1
  have tr2 : TQ h2 1 qTab := (I.q1.ki kL l1).ki kR rw1
  have kn : ∀ (o : AObj), kindA o ≠ 0 → ∀ w, h w = some o → h2 w = some o := fun o ho w e => k2 w o e fun hw => by
    rcases List.mem_cons.mp hw with q | hw
    · rw [q, l1] at e; cases e; exact ho rfl
    · rw [List.mem_singleton.mp hw, hrr] at e; cases e; exact ho rfl
  have sz2 : readL h2 a = some ((ci S).map .int) := by
    rcases I.sz with rfl | ⟨la, rfl, e, hn⟩
    · rfl
    · refine readL_obj (k2 _ _ e fun hw => hn ?_)
      rcases List.mem_cons.mp hw with q | hw
      · rw [q]; simp
      · rw [List.mem_singleton.mp hw]; simp
  have bB2 : h2 z.B = some (.list bs) := k2 _ _ b1 (by simp [nBL, nBR])
  have bD2 : h2 z.D = some (.list bs) := k2 _ _ b2 (by simp [nDL, nDR])
  have eL2 : h2 z.L = some (.list (ls.map .obj ++ [.obj l])) := kR _ _ eL (by simpa using nLR)
  -- sizes
  refine Exs.asL ?_
  refine Ev.binop ?_
  refine Ev.comp (ml := false) (cl := []) (Lcap := []) ⟨by kernel_rfl, trivial, List.nodup_nil, by kernel_rfl, trivial⟩ ?_
  refine CompE.one ?_
  refine EvI.listN rfl ?_
  refine ⟨_, sz2, sz2, by rw [List.length_map]; unfold ci; rw [List.length_map]; omega, fun i => if 1 < S.getD i 0 then some (.int ((S.getD i 0 : Nat) - 1 : Int)) else none, fun C i hi => ?_, ?_⟩
  · have hib : i < S.length := ci_lt hi
    have ei : ([((ci S).map AV.int).getD i .none] : List AV) = [.int ((S.getD i 0 : Nat) : Int)] := congrArg (fun z => [z]) (ci_at hib)
    refine BindT.one ei ?_
    refine ⟨trivial, ?_⟩
    refine It.cmpNI rfl ?_
    refine Op2.gt (Tru.bool ?_)
    have eg : decide (((S.getD i 0 : Nat) : Int) > 1) = decide (1 < S.getD i 0) := by rw [Bool.eq_iff_iff, decide_eq_true_eq, decide_eq_true_eq]; omega
    rw [eg]
    cases q : decide (1 < S.getD i 0) with
    | false => exact ⟨rfl, by show (if 1 < S.getD i 0 then _ else _) = _; rw [if_neg (of_decide_eq_false q)]⟩
    | true =>
      refine Ev.binNI rfl ?_
      refine Op2.sub ⟨rfl, ?_⟩
      show (if 1 < S.getD i 0 then _ else _) = _
      rw [if_pos (of_decide_eq_true q)]
  have e1 : (List.range ((ci S).map AV.int).length).filterMap (fun i => if 1 < S.getD i 0 then some (AV.int ((S.getD i 0 : Nat) - 1 : Int)) else none) = S.filterMap fun x : Nat => if 1 < x then some (AV.int ((x : Int) - 1)) else none := by
    have := ci_len S
    rw [this, range_filterMap S (f := fun x : Nat => if 1 < x then some (AV.int ((x : Int) - 1)) else none) _ fun i hi => by simp [hi]]
  rw [e1]
  refine Ev.list ?_
  refine Es.cs ?_
  refine Ev.lenN hK rfl rfl rfl sz2 (by simp [ci]; omega) ?_
  refine Es.nil ⟨le_line (Nat.le_of_ble_eq_true rfl), ?_⟩
  have hfl : (S.filterMap fun x : Nat => if 1 < x then some (AV.int ((x : Int) - 1)) else none).length ≤ S.length := List.length_filterMap_le _ _
  refine Op2.addL rfl rfl (le_line (by simp; omega)) ?_
  have e2 := ci_len S
  rw [e2, ci_move]
  -- books
  refine Exs.app rfl rfl bB2 ?_
  refine Ev.clG hK rfl rfl rfl ?_
  refine Es.nm rfl ?_
  refine Es.cs ?_
  refine Ev.lenN hK rfl rfl rfl (readL_obj bD2) (by omega) ?_
  refine Es.nm rfl ?_
  refine Es.cs ?_
  refine Ev.attrN rfl ?_
  refine Attr.inst W.X ⟨ld, kn (.inst 142 ld) (show (6 : Nat) ≠ 0 by decide) _ i1, .inr (kn (.iattrs _) (show (7 : Nat) ≠ 0 by decide) _ i2)⟩ (W.no _ (by simp)) op_nt (av := .int (row.length : Nat)) rfl rfl ?_
  refine Es.nil ?_
  rw [hnt]
  refine move_spec hK T2 tq2 (by omega) X.len (by omega) (by omega) fun p h3 hp T3 tq3 st => ?_
  have bB3 := st _ _ bB2 (.inl ⟨rfl, nBP⟩)
  have bD3 := st _ _ bD2 (.inl ⟨rfl, nDP⟩)
  have eL3 := st _ _ eL2 (.inl ⟨rfl, nLP⟩)
  have eR3 := st _ _ eR (.inl ⟨rfl, nRP⟩)
  have tr3 : TQ h3 1 qTab := let ⟨es, w1, w2⟩ := tr2; ⟨es, st _ _ w1 (.inr (.inr (.inr ⟨rfl, by decide⟩))), w2⟩
  have X3 : TxtOk (ps.map shorten ++ [p]) (moveN S) := X.move (by rw [hp, Int.toNat_natCast]; rfl) h0 (by omega)
  refine ⟨_, bB3, (by omega), ?_⟩
  have k4 : Keep h3 (h3.put z.B (.list (bs ++ [bookOf bs.length S.length]))) [z.B] := Keep.upd (List.mem_singleton.mpr rfl)
  have eB4 : (h3.put z.B (.list (bs ++ [bookOf bs.length S.length]))) z.B = _ := Hp.put_self ..
  generalize h3.put z.B (.list (bs ++ [bookOf bs.length S.length])) = h4 at k4 eB4
  have bD4 := k4 _ _ bD3 (by simpa using Ne.symm nBD)
  -- due
  refine Exs.app rfl rfl bD4 ?_
  refine Ev.clG hK rfl rfl rfl ?_
  refine Es.cs ?_
  refine Ev.lenN hK rfl rfl rfl (readL_obj bD4) (by omega) ?_
  refine Es.cs ?_
  refine Ev.sub ?_
  refine Ev.nm rfl ?_
  refine Ev.neg ?_
  refine Ev.int ?_
  refine Op1.neg ?_
  have elast : (ci (moveN S)).map AV.int = (ci (moveN S).dropLast).map AV.int ++ [.int (S.length : Nat)] := by
    conv => lhs; rw [moveN_last S]
    unfold ci
    rw [List.map_append, List.map_append]; rfl
  refine GetI.listLast (xs := (ci (moveN S).dropLast).map AV.int) (x := .int (S.length : Nat)) (by rw [elast]; rfl) ?_
  refine Es.nil ?_
  refine book_spec hK ?_
  refine ⟨_, bD4, (by omega), ?_⟩
  have k5 : Keep h4 (h4.put z.D (.list (bs ++ [bookOf bs.length S.length]))) [z.D] := Keep.upd (List.mem_singleton.mpr rfl)
  have eD5 : (h4.put z.D (.list (bs ++ [bookOf bs.length S.length]))) z.D = _ := Hp.put_self ..
  generalize h4.put z.D (.list (bs ++ [bookOf bs.length S.length])) = h5 at k5 eD5
  refine Exs.next ?_
  have k45 : Keep h3 h5 [z.B, z.D] := (k4.sub fun w hw => by rw [List.mem_singleton.mp hw]; exact List.mem_cons_self ..).trans (k5.sub fun w hw => by rw [List.mem_singleton.mp hw]; exact List.mem_cons_of_mem _ (List.mem_cons_self ..))
  have off5 : ∀ w ∈ [z.B, z.D], Off h3 b w := fun w hw o e => by
    rcases List.mem_cons.mp hw with q | hw
    · rw [q] at e ⊢; rw [bB3] at e; cases e; exact .inl ⟨rfl, nBP⟩
    · have q := List.mem_singleton.mp hw
      rw [q] at e ⊢; rw [bD3] at e; cases e; exact .inl ⟨rfl, nDP⟩
  have kn5 : ∀ (o : AObj), kindA o = 6 ∨ kindA o = 7 → ∀ w, h w = some o → h5 w = some o := fun o ho w e => by
    have hno : kindA o ≠ 0 := by omega
    have ho' : kindA o = 6 ∨ kindA o = 7 ∨ (kindA o = 8 ∧ w ≠ 0) := ho.elim .inl fun q => .inr (.inl q)
    refine k45 w o (st w o (kn o hno w e) (.inr ho')) fun hw => ?_
    rcases List.mem_cons.mp hw with q | hw
    · have := st w o (kn o hno w e) (.inr ho')
      rw [q, bB3] at this; cases this; exact hno rfl
    · have := st w o (kn o hno w e) (.inr ho')
      rw [List.mem_singleton.mp hw, bD3] at this; cases this; exact hno rfl
  refine hQ _ h5 (.list ((ci (moveN S)).map .int)) ⟨rfl, rfl, rfl, rfl, rfl, rfl, rfl, rfl, rfl, rfl, trivial⟩ ⟨⟨_, T3.keep k45 off5, X3, by simp [hps]⟩, (tq3.ki k4 bB3).ki k5 bD4, (tr3.ki k4 bB3).ki k5 bD4, ⟨_, k5 _ _ eB4 (by simpa using nBD), eD5, by simp [b3], ?_⟩, ?_, ?_, I.ne, .inl rfl⟩
  · intro y hy
    rcases List.mem_append.mp hy with hy | hy
    · exact b4 y hy
    · exact ⟨_, _, List.mem_singleton.mp hy⟩
  · refine ⟨ls ++ [l], by rw [List.map_append]; exact k45 _ _ eL3 (by simp [Ne.symm nBL, Ne.symm nDL]), by simp [l2], fun i k r hk hr => ?_⟩
    by_cases q : i < ls.length
    · rw [List.getElem?_append_left q] at hk
      rw [List.getElem?_append_left (by omega)] at hr
      obtain ⟨x', ld', j1, j2⟩ := l3 i k r hk hr
      exact ⟨x', ld', kn5 _ (.inl rfl) _ j1, kn5 _ (.inr rfl) _ j2⟩
    · have e : i = ls.length := by
        have := (List.getElem?_eq_some_iff.mp hk).1
        simp at this; omega
      subst e
      rw [List.getElem?_append_right (Nat.le_refl _), Nat.sub_self] at hk
      rw [l2, List.getElem?_append_right (Nat.le_refl _), Nat.sub_self] at hr
      cases hk; cases hr
      exact ⟨x, ld, kn5 _ (.inl rfl) _ i1, kn5 _ (.inr rfl) _ i2⟩
  · rw [List.map_append]
    exact k45 _ _ eR3 (by simp [Ne.symm nBR, Ne.symm nDR])
end
end Mine
end

section
set_option maxHeartbeats 4000000
open PySem PySem.W PySem.Calls PyProof.Rows
namespace Mine
section
variable {K : Bse} {c : Cx} {d : Nat} {F : Frag} {fI fL fE : Addr} {mc : Value} {tS tT : Tok} {kk fa L : Addr} {pm : Value}

theorem loop_spec (hK : OkK K) (W : WsK K F fI fL fE mc tS tT) (hkp : keepIn F (.ref 142) = true) {b : TB} {z : LL} {t n cards high : Nat} (hn : n ≤ 10) (ht : t ≤ 2) {R' : List (List Nat)} {S' : List Nat} {kt : Nat} {pos : PySem.Pos} {Q : Fl → Lc → Hp → Prop}
    (hQ : ∀ L' h' lP l x ld a' m', isortN S' ∈ R' → SubL (bE cards high t z lP l (sameV R' (isortN S'))) L' → LSt h' b z t a' S' R' m' → h' lP = some (.list ((piecesOf S' t).map .str)) → h' l = some (.inst 142 ld) → h' ld = some (.iattrs (wsA x (wrow (isortN S') t))) →
      m' ≤ 60 → R'.length ≤ 60 → (∀ r ∈ R', r ∈ parts n) → Pos S' → S'.sum = n → Q .next L' h') :
    ∀ (f : Nat) (R : List (List Nat)) (S : List Nat) (a : AV) (m : Nat) (h : Hp) (L0 : Lc), orbN f R S = some (R', S') → LSt h b z t a S R m → S ≠ [] → Pos S → S.sum = n → (∀ r ∈ R, r ∈ parts n) → m + f ≤ 60 → R.length + f ≤ 60 → SubL (bL cards high t a b z) L0 →
      Wh K ((cLaw kk pm L fa d).at L0) (.Constant (.bool true) kt pos) whB [] h Q := by
  intro f
  induction f with
  | zero => intro R S a m h L0 e; cases e
  | succ f ih =>
    intro R S a m h L0 e I h0 hS hs hR hm hRl hL
    unfold orbN at e
    refine Wh.turnS (B := bL cards high t a b z) hL ?_
    refine It.val ?_
    refine Ev.cbool ?_
    refine Tru.bool ?_
    show Exs K ((cLaw kk pm L fa d).at (bL cards high t a b z)) whB h _
    refine turnA hK W hkp I hS (by omega) (by omega) (by rw [hs]; exact hR) (by omega) ht ?_ ?_
    · intro hin L' h' lP l x ld hB I' e1 e2 e3
      rw [if_pos hin] at e
      cases e
      exact hQ L' h' lP l x ld a m hin hB I' e1 e2 e3 (by omega) (by omega) hR hS hs
    · intro hni h' l x ld I' hl e2 e3
      rw [if_neg hni] at e
      refine turnB hK W I' h0 hS (by omega) (by omega) (by omega) e2 e3 fun L' h2 a' hB I2 => ?_
      refine ih (R ++ [isortN S]) (moveN S) a' (m + 1) h2 L' e I2 (moveN_ne S) (moveN_pos h0) ((moveN_sum hS).trans hs) ?_ (by omega) (by rw [List.length_append]; simp; omega) hB
      intro r hr
      rcases List.mem_append.mp hr with hr | hr
      · exact hR r hr
      · rw [List.mem_singleton.mp hr, ← hs]; exact parts_mem hS
end
end Mine
end

section
set_option maxHeartbeats 4000000
open PySem PySem.W PySem.Calls PyProof.Rows
namespace Mine

theorem lookup_mem {es : List (Str × AV)} {k : Str} {v : AV} (hn : (es.map (·.1)).Nodup) (h : (k, v) ∈ es) : es.lookup k = some v := by
  obtain ⟨j, hj⟩ := List.mem_iff_getElem?.mp h
  exact lookup_of_nodup hn hj
theorem Cmp.dictRefl (n : Nat) {es : List (Str × AV)} (hn : (es.map (·.1)).Nodup) (h : ∀ k v, (k, v) ∈ es → Cmp n v v true) : Cmp (n + 1) (.dict es) (.dict es) true := by
  refine Cmp.dict n es es (fun k => (es.lookup k).getD .none) rfl (fun k v hm => ?_) (fun k v hm => ?_)
  · show (k, (es.lookup k).getD .none) ∈ es
    rw [lookup_mem hn hm]; exact hm
  · show Cmp n v ((es.lookup k).getD .none) true
    rw [lookup_mem hn hm]; exact h k v hm
theorem Cmp.intR (n : Nat) (i : Int) : Cmp n (.int i) (.int i) true := by
  have := Cmp.int n i i
  rw [beq_self_eq_true] at this; exact this
theorem Cmp.strR (n : Nat) (x : Str) : Cmp n (.str x) (.str x) true := by
  have := Cmp.str n x x
  rw [beq_self_eq_true] at this; exact this
theorem Cmp.named (b : Nat) (cnt : Int) : Cmp 1 (.dict (namedOf b cnt)) (.dict (namedOf b cnt)) true := by
  refine Cmp.dictRefl 0 ?_ fun k v hm => ?_
  · unfold namedOf
    split
    · show (["kind", "born", "hand"] : List Str).Nodup; decide +kernel
    · show (["kind", "born"] : List Str).Nodup; decide +kernel
    · exact List.nodup_nil
    · show (["born"] : List Str).Nodup; decide +kernel
  · unfold namedOf at hm
    split at hm <;> simp only [List.mem_cons, List.not_mem_nil, or_false, Prod.mk.injEq] at hm
    · rcases hm with ⟨_, rfl⟩ | ⟨_, rfl⟩ | ⟨_, rfl⟩
      · exact Cmp.strR ..
      · exact Cmp.intR ..
      · exact Cmp.intR ..
    · rcases hm with ⟨_, rfl⟩ | ⟨_, rfl⟩
      · exact Cmp.strR ..
      · exact Cmp.strR ..
    · obtain ⟨_, rfl⟩ := hm
      exact Cmp.intR ..
theorem Cmp.book (b : Nat) (cnt : Int) : Cmp 2 (bookOf b cnt) (bookOf b cnt) true := by
  unfold bookOf
  have := Cmp.tup 1 [.str (tagOf b), .str "", .dict (namedOf b cnt)] [.str (tagOf b), .str "", .dict (namedOf b cnt)] (fun _ => true) fun j x y hx hy => by
    rw [hx] at hy; cases hy
    match j, hx with
    | 0, hx => cases hx; exact Cmp.strR ..
    | 1, hx => cases hx; exact Cmp.strR ..
    | 2, hx => cases hx; exact Cmp.named b cnt
    | j + 3, hx => simp at hx
  rw [all_true] at this; exact this
theorem Cmps.books {bs : List AV} (h : BooksOk bs) : Cmps 2 bs bs (fun _ => true) := fun j x y hx hy => by
  rw [hx] at hy; cases hy
  obtain ⟨n, c, rfl⟩ := h x (List.mem_of_getElem? hx)
  exact Cmp.book n c
noncomputable def stepsOf (n : Nat) : List Int := (List.range 5).filterMap fun i => if i * (i + 1) / 2 ≤ n then some ((i : Nat) : Int) else none
theorem steps_max : ∀ n, n < 11 → 3 ≤ n → ∀ m ∈ stepsOf n, (∀ x ∈ stepsOf n, x ≤ m) → m = ((kOf n : Nat) : Int) := by decide +kernel
theorem steps_ne : ∀ n, n < 11 → stepsOf n ≠ [] := by decide +kernel
theorem idx_same {R : List (List Nat)} {row : List Nat} (h : row ∈ R) : (sameV R row)[R.idxOf row]? = some true ∧ ∀ i, i < R.idxOf row → (sameV R row)[i]? = some false := by
  unfold sameV
  have h1 : R.idxOf row < R.length := List.idxOf_lt_length_iff.mpr h
  refine ⟨by rw [List.getElem?_map, List.getElem?_eq_getElem h1]; simp, fun i hi => ?_⟩
  have h2 : i < R.length := by omega
  rw [List.getElem?_map, List.getElem?_eq_getElem h2]
  have := List.not_of_lt_findIdx (p := (· == row)) (xs := R) (i := i) hi
  simpa using this

noncomputable def bF (n high t first k : Nat) (z : LL) (fl : List Int) (tv : Int) : Lc := [("cards", .int n), ("high", .int high), ("tail", .str (blk t)), ("leads", .obj z.L), ("rows", .obj z.R), ("first", .int first), ("k", .int k), ("flags", .list (fl.map .int)), ("turned", .int tv)]

section
variable {K : Bse} {c : Cx} {h : Hp} {d : Nat} {F : Frag} {fI fL fE : Addr} {mc : Value} {tS tT : Tok} {kk fa L : Addr} {pm : Value} {Q : AV → Hp → Prop}
theorem Ca.lenS {x : Str} (hl : x.length < 2 ^ 62) (hQ : Q (.int x.length) h) : Ca K d (.raw (.builtin "len")) [.str x] [] h Q := Ca.mk1 fun c A G s u hA R ⟨t, e⟩ => by
  subst e
  exact P.len_str (by omega) (res_now (av := .int x.length) R ⟨_, rfl⟩ hQ)

theorem finA (hK : OkK K) (W : WsK K F fI fL fE mc tS tT) (hkp : keepIn F (.ref 142) = true) {b : TB} {z : LL} {t m n high lP l ld : Nat} {x : Str} {a : AV} {S : List Nat} {R : List (List Nat)} (I : LSt h b z t a S R m) (hin : isortN S ∈ R)
    (e1 : h lP = some (.list ((piecesOf S t).map .str))) (i1 : h l = some (.inst 142 ld)) (i2 : h ld = some (.iattrs (wsA x (wrow (isortN S) t)))) (hS : Pos S) (hs : S.sum = n) (hn : n ≤ 10) (hn3 : 3 ≤ n) (ht : t ≤ 2) (hm : m ≤ 60) (hRl : R.length ≤ 60) (hRn : ∀ r ∈ R, r ∈ parts n)
    (hrl : ∀ r ∈ R, r.length ≤ 100) (hf : (R.map fun r => decide (0 ≤ flRow (kOf n) r)) = (List.range R.length).map fun i => decide (R.idxOf (isortN S) ≤ i)) {Q : Fl → Lc → Hp → Prop}
    (hQ : ∀ h2, TQ h2 0 qPile → TQ h2 1 qTab → LeadsAt h2 z.L R t → h2 z.R = some (.list (R.map rowV)) → Exs K ((cLaw kk pm L fa d).at (bF n high t (R.idxOf (isortN S)) (kOf n) z (R.map (flRow (kOf n))) (flRow (kOf n) (R.getD (R.idxOf (isortN S)) [])))) ((bodyI 24).drop 18) h2 Q) :
    Exs K ((cLaw kk pm L fa d).at (bE n high t z lP l (sameV R (isortN S)))) ((bodyI 24).drop 11) h Q := by
  obtain ⟨bs, b1, b2, b3, b4⟩ := I.bk
  refine Exs.ifs ?_
  refine It.boolop ?_
  refine AllT.or_cons ?_
  refine It.cmpNN rfl rfl ?_
  refine Op2.neL (n := 2) (readL_obj b1) (readL_obj b2) (Cmps.books b4) (by decide) (Tru.bool ?_)
  rw [all_true]
  refine AllT.or_cons ?_
  refine It.compare ?_
  refine Ev.nm rfl ?_
  refine Ev.dict2 (by decide +kernel) ?_
  refine Ev.str ?_
  refine Ev.str ?_
  refine Op2.neD (n := 0) (Cmp.dictRefl 0 (by decide +kernel) fun k v hm => ?_) (by decide) (Tru.bool ?_)
  · simp only [List.mem_cons, List.not_mem_nil, or_false, Prod.mk.injEq] at hm
    rcases hm with ⟨_, rfl⟩ | ⟨_, rfl⟩
    · exact Cmp.strR ..
    · exact Cmp.strR ..
  refine AllT.or_nil ?_
  refine Exs.endS ?_
  -- one blank more
  have hlen := pos_len hS
  have hpl : (piecesOf S t).length ≤ 1000 := by
    unfold piecesOf
    rw [List.length_append, two_len, tailP_blk]
    split <;> simp <;> omega
  have hpw : ∀ w ∈ piecesOf S t, w.length ≤ 1000 := fun w hw => by
    unfold piecesOf at hw
    rcases List.mem_append.mp hw with hw | hw
    · obtain ⟨x, hx, hw⟩ := List.mem_flatMap.mp hw
      have := mem_sum hx
      rcases List.mem_cons.mp hw with rfl | hw
      · rw [blk_length]; omega
      · rw [List.mem_singleton.mp hw]; decide +kernel
    · rw [tailP_blk] at hw
      split at hw
      · cases hw
      · rw [List.mem_singleton.mp hw, blk_length]; omega
  refine Exs.ifs ?_
  refine It.compare ?_
  refine Ev.meth (d := d + 8) ?_ rfl
  refine Ev.nm rfl ?_
  refine Meth.inst W.X ⟨ld, i1, .inr i2⟩ W.cE op_equal rfl ?_
  refine Es.cs ?_
  refine Ev.cl ?_ rfl
  refine Ev.G hK rfl rfl ?_
  refine Es.cs ?_
  refine Ev.binop ?_
  refine Ev.meth (d := d + 8) ?_ rfl
  refine Ev.str ?_
  refine Meth.join ?_
  refine Es.nm rfl ?_
  refine Es.nil ?_
  refine Ks.nil ⟨rfl, Kp.builtin, ?_⟩
  refine Ca.joinB (readL_obj e1) hpl (by decide +kernel) hpw ?_
  refine Ev.str ?_
  refine Op2.addS (by rw [glued_size, show (" x \t" : Str).length = 4 by decide +kernel]; omega) ?_
  refine Es.nil ?_
  refine Ks.nil ⟨rfl, Kp.cls W.X.sub hkp, ?_⟩
  refine ws_spec hK W (x := textOf S t " x \t") (text_ascii S t (by kernel_rfl)) (by rw [text_size]; show _ + 4 ≤ 1000; omega) fun l' ld' h2 hl0 hld0 k2 j1 j2 => ?_
  have I2 := I.keep k2
  refine Es.nil ?_
  refine Ks.nil ⟨rfl, ?_⟩
  refine equal_spec W ⟨ld, k2 _ _ i1 (fun w => nomatch w), .inr (k2 _ _ i2 (fun w => nomatch w))⟩ ⟨ld', j1, .inr j2⟩ ?_
  have eN : nEq (wrow (isortN S) t) (wsOf (textOf S t " x \t")) = false := by
    unfold nEq
    rw [ws_text2]
    have : ((wrow (isortN S) t).b == t + 1) = false := by
      show (t == t + 1) = false
      simp
    rw [this, Bool.and_false]
  rw [eN]
  refine Ev.cbool ?_
  refine Op2.isNotB (Tru.bool ?_)
  refine Exs.endS ?_
  have hrr := readL_obj I2.rw
  have tq2 := I2.q
  have tr2 := I2.q1
  obtain ⟨ls, l1, l2, l3⟩ := I2.ld
  have hli : LeadsAt h2 z.L R t := I2.ld
  have hrw : h2 z.R = some (.list (R.map rowV)) := I2.rw
  obtain ⟨s1, s0⟩ := idx_same hin
  have hfl : R.idxOf (isortN S) < R.length := List.idxOf_lt_length_iff.mpr hin
  have hsl : (sameV R (isortN S)).length = R.length := by unfold sameV; rw [List.length_map]
  generalize R.idxOf (isortN S) = first at *
  -- first
  refine Exs.asC ?_ rfl
  refine Ev.clG hK rfl rfl rfl ?_
  refine Es.nm rfl ?_
  refine Es.cs ?_
  refine Ev.cbool ?_
  refine Es.nil ?_
  refine indexOf_spec hK (bs := sameV R (isortN S)) (n := first) rfl (by omega) s1 s0 ?_
  -- k
  refine Exs.asC ?_ rfl
  refine Ev.clB hK rfl rfl rfl ?_
  refine Es.cs ?_
  refine Ev.comp (ml := false) (cl := [("cards", L + 3)]) (Lcap := [("cards", .int n)]) ⟨by kernel_rfl, ⟨by kernel_rfl, trivial⟩, show (["cards"] : List Str).Nodup by decide +kernel, by kernel_rfl, ⟨rfl, trivial⟩⟩ ?_
  refine CompE.one ?_
  refine EvI.range ?_
  refine Ev.clB hK rfl rfl rfl ?_
  refine Es.cs ?_
  refine Ev.int ?_
  refine Es.nil ?_
  refine Ca.range1 ?_
  refine ⟨_, _, _, rfl, by decide +kernel, 5, by decide +kernel, trivial, by decide, fun i => if i * (i + 1) / 2 ≤ n then some (.int (i : Nat)) else none, fun C i hi => ?_, ?_⟩
  · have ei : [AV.int (0 + (i : Nat) * 1)] = [.int i] := congrArg (fun z => [AV.int z]) (by omega)
    refine BindT.one ei ?_
    refine ⟨⟨rfl, trivial⟩, ?_⟩
    refine It.compare ?_
    refine Ev.binop ?_
    refine Ev.binN rfl ?_
    refine Ev.binNI rfl ?_
    refine Op2.add ?_
    refine Op2.mul ?_ (IntMulOk.of_left (intBits_le_64 (by omega) (by omega)))
    refine Ev.int ?_
    refine Op2.floordiv (by decide) (PyProof.noPylong_small (by decide)) ?_
    refine Ev.nm rfl ?_
    refine Op2.le (Tru.bool ?_)
    have eq : ((i : Int) * ((i : Int) + 1)).fdiv 2 = ((i * (i + 1) / 2 : Nat) : Int) := by
      rw [Int.fdiv_eq_ediv_of_nonneg _ (by decide)]
      simp
    rw [eq]
    have eg : decide (((i * (i + 1) / 2 : Nat) : Int) ≤ (n : Int)) = decide (i * (i + 1) / 2 ≤ n) := by rw [Bool.eq_iff_iff, decide_eq_true_eq, decide_eq_true_eq]; omega
    rw [eg]
    cases q : decide (i * (i + 1) / 2 ≤ n) with
    | false => exact ⟨rfl, by show (if i * (i + 1) / 2 ≤ n then _ else _) = _; rw [if_neg (of_decide_eq_false q)]⟩
    | true =>
      refine Ev.nm rfl ⟨rfl, ?_⟩
      show (if i * (i + 1) / 2 ≤ n then _ else _) = _
      rw [if_pos (of_decide_eq_true q)]
  have ek : (List.range 5).filterMap (fun i => if i * (i + 1) / 2 ≤ n then some (AV.int (i : Nat)) else none) = (stepsOf n).map .int := by
    unfold stepsOf
    rw [List.map_filterMap]
    congr 1
    funext i
    split <;> rfl
  rw [ek]
  refine Es.nil ?_
  refine Ca.max rfl (steps_ne n (by omega)) fun mx hmx hle => ?_
  rw [steps_max n (by omega) hn3 mx hmx hle]
  have hk : kOf n ≤ 4 := by unfold kOf; split <;> (try split) <;> omega
  generalize kOf n = k at *
  -- flags
  refine Exs.asgComp (ml := false) (cl := [("k", L + 2)]) (Lcap := [("k", .int k)]) ⟨by kernel_rfl, ⟨by kernel_rfl, trivial⟩, show (["k"] : List Str).Nodup by decide +kernel, by kernel_rfl, ⟨rfl, trivial⟩⟩ ?_
  refine CompE.one ?_
  refine EvI.listN rfl ?_
  refine ⟨_, hrr, hrr, by rw [List.length_map]; omega, fun i => some (.int (flRow k (R.getD i []))), fun C i hi => ?_, ?_⟩
  · have hir : i < R.length := len_lt hi
    have ei : ([(R.map rowV).getD i .none] : List AV) = [rowV R[i]] := congrArg (fun z => [z]) (getD_map hir)
    refine BindT.one ei ?_
    refine ⟨⟨rfl, trivial⟩, ?_⟩
    refine Ev.clG hK rfl rfl rfl ?_
    refine Es.nm rfl ?_
    refine Es.nm rfl ?_
    refine Es.nil ?_
    refine flags_spec hK (row := ci R[i]) (by unfold ci; rw [List.length_map]; exact hrl _ (List.getElem_mem hir)) (by omega) ⟨rfl, ?_⟩
    show some _ = some (AV.int (flagsOf (ci R[i]) k))
    unfold flRow; simp [hir]
  have efl : (List.range (R.map rowV).length).filterMap (fun i => some (AV.int (flRow k (R.getD i [])))) = (R.map (flRow k)).map .int := by
    rw [List.length_map, range_filterMap R (f := fun r => some (AV.int (flRow k r))) _ fun i hi => by simp [hi], List.map_map]
    exact congrFun List.filterMap_eq_map _
  rw [efl]
  show Exs K _ _ h2 _
  -- which are none
  refine Exs.ifs ?_
  refine It.compare ?_
  refine Ev.comp (ml := false) (cl := []) (Lcap := []) ⟨by kernel_rfl, trivial, List.nodup_nil, by kernel_rfl, trivial⟩ ?_
  refine CompE.one ?_
  refine EvI.listN rfl ?_
  refine ⟨_, rfl, rfl, by rw [List.length_map, List.length_map]; omega, fun i => some (.bool (decide (0 ≤ flRow k (R.getD i [])))), fun C i hi => ?_, ?_⟩
  · have hir : i < R.length := len_lt (len_lt hi)
    have ei : ([((R.map (flRow k)).map AV.int).getD i .none] : List AV) = [.int (flRow k (R.getD i []))] := by simp [hir]
    refine BindT.one ei ?_
    refine ⟨trivial, ?_⟩
    refine Ev.compare ?_
    refine Ev.nm rfl ?_
    refine Ev.int ?_
    exact Op2.ge ⟨rfl, rfl⟩
  have eb1 : (List.range ((R.map (flRow k)).map AV.int).length).filterMap (fun i => some (AV.bool (decide (0 ≤ flRow k (R.getD i []))))) = (R.map fun r => decide (0 ≤ flRow k r)).map .bool := by
    rw [List.length_map, List.length_map, range_filterMap R (f := fun r => some (AV.bool (decide (0 ≤ flRow k r)))) _ fun i hi => by simp [hi], List.map_map]
    exact congrFun List.filterMap_eq_map _
  rw [eb1]
  refine Ev.comp (ml := false) (cl := [("first", L + 9)]) (Lcap := [("first", .int first)]) ⟨by kernel_rfl, ⟨by kernel_rfl, trivial⟩, show (["first"] : List Str).Nodup by decide +kernel, by kernel_rfl, ⟨rfl, trivial⟩⟩ ?_
  refine CompE.one ?_
  refine EvI.range ?_
  refine Ev.clB hK rfl rfl rfl ?_
  refine Es.cs ?_
  refine Ev.lenN hK rfl rfl rfl hrr (by rw [List.length_map]; omega) ?_
  rw [List.length_map]
  refine Es.nil ?_
  refine Ca.range1 ?_
  refine ⟨_, _, _, rfl, PySem.small_one (by omega) (by omega) (by omega) (by omega), R.length, ?_, trivial, by omega, fun i => some (.bool (decide (first ≤ i))), fun C i hi => ?_, ?_⟩
  · have := rs_one 0 R.length
    rw [Nat.sub_zero] at this
    exact this.symm
  · have ei : [AV.int (0 + (i : Nat) * 1)] = [.int i] := congrArg (fun z => [AV.int z]) (by omega)
    refine BindT.one ei ?_
    refine ⟨⟨rfl, trivial⟩, ?_⟩
    refine Ev.compare ?_
    refine Ev.nm rfl ?_
    refine Ev.nm rfl ?_
    refine Op2.ge ⟨rfl, ?_⟩
    have eg : decide ((i : Int) ≥ (first : Int)) = decide (first ≤ i) := by rw [Bool.eq_iff_iff, decide_eq_true_eq, decide_eq_true_eq]; omega
    rw [eg]
  have eb2 : (List.range R.length).filterMap (fun i => some (AV.bool (decide (first ≤ i)))) = ((List.range R.length).map fun i => decide (first ≤ i)).map .bool := by
    rw [range_map R.length _ (fun i => AV.bool (decide (first ≤ i))) fun i _ => rfl, List.map_map]; rfl
  rw [eb2, hf]
  refine Op2.neL (n := 0) rfl rfl (Cmps.bools 0 _ _) (by decide) (Tru.bool ?_)
  rw [bools_all, beq_self_eq_true]
  refine Exs.endS ?_
  -- turned
  refine Exs.asL ?_
  refine Ev.sub ?_
  refine Ev.nm rfl ?_
  refine Ev.nm rfl ?_
  refine GetI.list (x := .int (flRow k (R.getD first []))) rfl (by omega) (by omega) (by rw [Int.toNat_natCast]; simp [hfl]) ?_
  refine Exs.subL (B := bF n high t first k z (R.map (flRow k)) (flRow k (R.getD first []))) ⟨rfl, rfl, rfl, rfl, rfl, rfl, rfl, rfl, rfl, trivial⟩ ?_
  exact hQ h2 tq2 tr2 hli hrw
end
end Mine
end

section
set_option maxHeartbeats 4000000
open PySem PySem.W PySem.Calls PyProof.Rows
namespace Mine

theorem parts_small : ∀ n, n < 11 → ∀ P ∈ parts n, (cntN P).length ≤ 11 ∧ P.length ≤ 10 := by decide +kernel
theorem kOf_le : ∀ n, n < 11 → 3 ≤ n → kOf n * (kOf n + 1) / 2 ≤ n ∧ kOf n ≤ 4 := by decide +kernel
theorem pow4 : ∀ k, k < 5 → (1 : Int) ≤ 2 ^ k ∧ (2 : Int) ^ k ≤ 16 := by decide +kernel
theorem drop_take_one {α : Type} (xs : List α) (i : Nat) (hi : i < xs.length) : [xs[i]] = (xs.drop i).take 1 := by
  rw [List.drop_eq_getElem_cons hi]; rfl

section
variable {K : Bse} {c : Cx} {h : Hp} {d : Nat} {F : Frag} {fI fL fE : Addr} {mc : Value} {tS tT : Tok} {kk fa L : Addr} {pm : Value} {Q : AV → Hp → Prop}

theorem finB (hK : OkK K) (hD : DictI K 38 fun k => List.lookup k flagT) {z : LL} {t n high first k : Nat} {fl : List Int} {tv : Int} (hh : high ≤ 27) (hk : k ≤ 4) (hf : first < fl.length) (hfl : fl.length ≤ 100) (hfo : follow k tv (fl.drop first ++ (fl.drop first).take 1) = true) {Q : Fl → Lc → Hp → Prop}
    (hQ : ∀ h2 tv', Keep h h2 [] → Exs K ((cLaw kk pm L fa d).at (bF n high t first k z fl tv')) ((bodyI 24).drop 19) h2 Q) :
    Exs K ((cLaw kk pm L fa d).at (bF n high t first k z fl tv)) ((bodyI 24).drop 18) h Q := by
  refine Exs.fo ?_
  refine EvI.list ?_
  refine Ev.binop ?_
  refine Ev.sliceL ?_
  refine Ev.nm rfl ?_
  show Ev _ _ _ _ _
  refine Ev.nm rfl ⟨(first : Nat), rfl, _, rfl, le_line (by rw [List.length_map]; omega), by simp, ?_⟩
  rw [pickL_map, pickN_drop]
  refine Ev.sliceL ?_
  refine Ev.nm rfl ?_
  show Ev _ _ _ _ _
  refine Ev.nm rfl ⟨(first : Nat), rfl, ?_⟩
  show Ev _ _ _ _ _
  refine Ev.binNI rfl ?_
  refine Op2.add ⟨((first : Nat) : Int) + 1, rfl, _, rfl, le_line (by rw [List.length_map]; omega), by simp, ?_⟩
  rw [pickL_map, pickN_one fl first hf]
  refine Op2.addL rfl rfl (le_line (by simp; omega)) ?_
  rw [← List.map_append, drop_take_one fl first hf]
  have hil : (fl.drop first ++ (fl.drop first).take 1).length ≤ 200 := by simp; omega
  generalize fl.drop first ++ (fl.drop first).take 1 = its at hfo hil
  refine ⟨_, rfl, fun i B h' => ∃ tv', B = bF n high t first k z fl tv' ∧ Keep h h' [] ∧ follow k tv' (its.drop i) = true, fun _ _ _ _ => rfl, ?_, ?_, ?_⟩
  · rintro i B h' hi ⟨tv', rfl, kp, hfo'⟩
    have hib : i < its.length := len_lt hi
    rw [List.drop_eq_getElem_cons hib] at hfo'
    have ei : ([(its.map AV.int).getD i .none] : List AV) = [.int its[i]] := congrArg (fun z => [z]) (getD_map hib)
    generalize its[i] = x at hfo' ei
    unfold follow at hfo'
    simp only [Bool.and_eq_true, decide_eq_true_eq] at hfo'
    obtain ⟨⟨⟨q1, q2⟩, q3⟩, q4⟩ := hfo'
    subst q1
    obtain ⟨xn, rfl⟩ := Int.eq_ofNat_of_zero_le q2
    have hx : xn < 32 := by omega
    have hsh : ((xn : Nat) : Int) * 2 ^ (high : Int).toNat = ((xn * 2 ^ high : Nat) : Int) := by rw [Int.toNat_natCast]; simp
    have hlt : xn * 2 ^ high < 2 ^ 32 := by
      have h1 : xn * 2 ^ high < 32 * 2 ^ high := Nat.mul_lt_mul_of_pos_right hx (Nat.two_pow_pos _)
      have h2 : 32 * 2 ^ high ≤ 32 * 2 ^ 27 := Nat.mul_le_mul_left _ (Nat.pow_le_pow_right (by decide) hh)
      omega
    have hbits : (Builtin.Int.intBits ((xn : Nat) : Int) : Int) + (high : Int) ≤ 2 ^ 27 := by
      have := intBits_le_64 (k := ((xn : Nat) : Int)) (by omega) (by omega)
      omega
    refine BindT.one ei ?_
    refine Exs.ifs ?_
    refine It.compare ?_
    refine Ev.clG hK rfl rfl rfl ?_
    refine Es.cs ?_
    refine Ev.clG hK rfl rfl rfl ?_
    refine Es.nm rfl ?_
    refine Es.nm rfl ?_
    refine Es.nil ?_
    refine lshift_spec hK (by omega) hbits ?_
    rw [hsh]
    refine Es.nil ?_
    refine pretty_spec hK hD hlt fun h2 k2 => ?_
    refine Ev.clG hK rfl rfl rfl ?_
    refine Es.cs ?_
    refine Ev.binNN rfl rfl ?_
    refine Op2.lshift (by omega) hbits ?_
    rw [hsh]
    refine Es.nil ?_
    refine words_spec hK ?_
    refine Op2.neS (Tru.bool ?_)
    rw [beq_self_eq_true]
    refine Exs.endS ?_
    -- a place on
    refine Exs.asL ?_
    refine Ev.clG hK rfl rfl rfl ?_
    refine Es.cs ?_
    refine Ev.clG hK rfl rfl rfl ?_
    refine Es.cs ?_
    refine Ev.clG hK rfl rfl rfl ?_
    refine Es.nm rfl ?_
    refine Es.cs ?_
    refine Ev.binop ?_
    refine Ev.binop ?_
    refine Ev.int ?_
    refine Ev.nm rfl ?_
    refine Op2.pow (by omega) (by rw [show (Builtin.Int.intBits 2 : Int) = 2 by decide +kernel]; omega) ?_
    refine Ev.int ?_
    refine Op2.sub ?_
    rw [Int.toNat_natCast]
    refine Es.nil ?_
    refine and_spec hK ?_
    refine Es.cs ?_
    refine Ev.int ?_
    refine Es.nil ?_
    have hp16 : (2 : Int) ^ k ≤ 16 := by
      exact (pow4 k (Nat.lt_succ_of_le hk)).2
    have hp1 : (1 : Int) ≤ 2 ^ k := by
      exact (pow4 k (Nat.lt_succ_of_le hk)).1
    have hand := bitAnd_range ((xn : Nat) : Int) (y := 2 ^ k - 1) (by omega)
    refine lshift_spec hK (by decide) (by have := intBits_le_64 (k := Builtin.bitAnd ((xn : Nat) : Int) (2 ^ k - 1)) (by omega) (by omega); omega) ?_
    refine Es.cs ?_
    refine Ev.clG hK rfl rfl rfl ?_
    refine Es.nm rfl ?_
    refine Es.nm rfl ?_
    refine Es.nil ?_
    refine rshift_spec hK (by omega) ?_
    rw [Int.toNat_natCast]
    refine Es.nil ?_
    refine or_spec hK ?_
    refine Exs.next ⟨bF n high t first k z fl (turn k ((xn : Nat) : Int)), ⟨rfl, rfl, rfl, rfl, rfl, rfl, rfl, rfl, rfl, trivial⟩, _, rfl, kp.trans k2, q4⟩
  · rintro B L' h' hB ⟨tv', rfl, kp, _⟩
    refine Exs.endS ?_
    exact hQ h' tv' kp
  · exact ⟨bF n high t first k z fl tv, ⟨rfl, rfl, rfl, rfl, rfl, rfl, rfl, rfl, rfl, trivial⟩, tv, rfl, Keep.refl _ _, hfo⟩

noncomputable def bC (n high t first k rest : Nat) (z : LL) : Lc := [("tail", .str (blk t)), ("leads", .obj z.L), ("rows", .obj z.R), ("first", .int first), ("k", .int k), ("rest", .int rest)]
theorem finC (hK : OkK K) (W : WsK K F fI fL fE mc tS tT) {z : LL} {t n high first : Nat} {fl : List Int} {tv : Int} {R : List (List Nat)} (hn : n ≤ 10) (hn3 : 3 ≤ n) (ht : t ≤ 2) (hl : LeadsAt h z.L R t) (hr : h z.R = some (.list (R.map rowV))) (hRl : R.length ≤ 60) (hRn : ∀ r ∈ R, r ∈ parts n) (hf : first ≤ R.length)
    (hring : ∀ i, i < kOf n + 2 → ringOk n R first t (i + 1) = true) (hQ : Q (.bool true) h) :
    Exs K ((cLaw kk pm L fa d).at (bF n high t first (kOf n) z fl tv)) ((bodyI 24).drop 19) h (Rt Q) := by
  obtain ⟨hk1, hk4⟩ := kOf_le n (by omega) hn3
  refine Exs.asC ?_ rfl
  refine Ev.binN rfl ?_
  refine Ev.binop ?_
  refine Ev.binN rfl ?_
  refine Ev.binNI rfl ?_
  refine Op2.add ?_
  refine Op2.mul ?_ (IntMulOk.of_left (intBits_le_64 (by omega) (by omega)))
  refine Ev.int ?_
  refine Op2.floordiv (by decide) (PyProof.noPylong_small (by decide)) ?_
  refine Op2.sub ?_
  have er : (n : Int) - ((kOf n : Int) * ((kOf n : Int) + 1)).fdiv 2 = ((restOf n : Nat) : Int) := by
    rw [Int.fdiv_eq_ediv_of_nonneg _ (by decide)]
    have e1 : (kOf n : Int) * ((kOf n : Int) + 1) / 2 = ((kOf n * (kOf n + 1) / 2 : Nat) : Int) := by simp
    rw [e1]
    unfold restOf; omega
  rw [er]
  have hrest : restOf n ≤ 10 := by unfold restOf; omega
  refine Exs.subL (B := bC n high t first (kOf n) (restOf n) z) ⟨rfl, rfl, rfl, rfl, rfl, rfl, trivial⟩ ?_
  unfold ringOk at hring
  generalize restOf n = rest at *
  generalize kOf n = k at *
  have hrr := readL_obj hr
  obtain ⟨ls, l1, l2, l3⟩ := hl
  refine Exs.fo ?_
  refine EvI.range ?_
  refine Ev.clB hK rfl rfl rfl ?_
  refine Es.cs ?_
  refine Ev.int ?_
  refine Es.cs ?_
  refine Ev.binNI rfl ?_
  refine Op2.add ?_
  refine Es.nil ?_
  refine Ca.range2 ?_
  refine ⟨_, _, _, rfl, PySem.small_one (by omega) (by omega) (by omega) (by omega), k + 2, ?_, fun i B h' => h' = h ∧ B = bC n high t first k rest z, fun _ _ _ _ => trivial, ?_, ?_, ?_⟩
  · have := rs_one 1 (k + 3)
    rw [show k + 3 - 1 = k + 2 by omega] at this
    exact this.symm
  · rintro i B h' hi ⟨rfl, rfl⟩
    have ei : [AV.int (1 + (i : Nat) * 1)] = [.int ((i + 1 : Nat) : Int)] := congrArg (fun z => [AV.int z]) (by omega)
    refine BindT.one ei ?_ (hk := Or.inr ⟨rfl, by kernel_rfl, by kernel_rfl⟩)
    have hri := hring i hi
    have hz1 : 1 ≤ i + 1 := by omega
    have hz2 : i + 1 ≤ 10 := by omega
    generalize i + 1 = sz at hri hz1 hz2
    rw [decide_eq_true_eq] at hri
    -- ring
    refine Exs.asL ?_
    refine Ev.clB hK rfl rfl rfl ?_
    refine Es.cs ?_
    refine Ev.comp (ml := false) (cl := [("size", L + 6)]) (Lcap := [("size", .int (sz : Nat))]) ⟨by kernel_rfl, ⟨by kernel_rfl, trivial⟩, show (["size"] : List Str).Nodup by decide +kernel, by kernel_rfl, ⟨rfl, trivial⟩⟩ ?_
    refine CompE.one ?_
    refine EvI.list ?_
    refine Ev.sliceL ?_
    refine Ev.nm rfl ?_
    show Ev _ _ _ _ _
    refine Ev.nm rfl ⟨(first : Nat), rfl, _, readL_obj l1, le_line (by rw [List.length_map]; omega), by simp, ?_⟩
    rw [pickL_map, pickN_drop]
    refine ⟨_, rfl, rfl, by rw [List.length_map, List.length_drop]; omega, fun j => some (.int (levR t sz (R.getD (first + j) []))), fun C j hj => ?_, ?_⟩
    · have hjl : first + j < ls.length := by rw [List.length_map, List.length_drop] at hj; omega
      have hjr : first + j < R.length := by omega
      have ej : ([((ls.drop first).map AV.obj).getD j .none] : List AV) = [.obj ls[first + j]] := by simp [hjl]
      obtain ⟨x', ld', j1, j2⟩ := l3 (first + j) ls[first + j] R[first + j] (by simp [hjl]) (by simp [hjr])
      have hsm := parts_small n (by omega) _ (hRn _ (List.getElem_mem hjr))
      refine BindT.one ej ?_
      refine ⟨⟨rfl, trivial⟩, ?_⟩
      refine Ev.meth (d := d + 8) ?_ rfl
      refine Ev.nm rfl ?_
      refine Meth.inst W.X ⟨ld', j1, .inr j2⟩ W.cL op_level rfl ?_
      refine Es.nm rfl ?_
      refine Es.nil ?_
      refine Ks.nil ⟨rfl, ?_⟩
      refine level_spec hK W ⟨ld', j1, .inr j2⟩ hz1 (by omega) (by show (cntN R[first + j]).length ≤ 1000; omega) ⟨rfl, ?_⟩
      unfold levR; simp [hjr]
    have eR : (List.range ((ls.drop first).map AV.obj).length).filterMap (fun j => some (AV.int (levR t sz (R.getD (first + j) [])))) = ((R.drop first).map (levR t sz)).map .int := by
      have : ((ls.drop first).map AV.obj).length = (R.drop first).length := by rw [List.length_map, List.length_drop, List.length_drop, l2]
      rw [this, range_filterMap (R.drop first) (f := fun r => some (AV.int (levR t sz r))) _ fun i hi => by
        rw [List.length_drop] at hi
        have : first + i < R.length := by omega
        simp [this], List.map_map]
      exact congrFun List.filterMap_eq_map _
    rw [eR]
    refine Es.nil ?_
    refine Ca.sum rfl ?_
    generalize ((R.drop first).map (levR t sz)).sum = ring at hri
    -- stops
    refine Exs.asL ?_
    refine Ev.binop ?_
    refine Ev.binop ?_
    refine Ev.binop ?_
    refine Ev.binNI rfl ?_
    refine Op2.add ?_
    refine Ev.nm rfl ?_
    refine Op2.mul ?_ (IntMulOk.of_left (intBits_le_64 (by omega) (by omega)))
    refine Ev.nm rfl ?_
    refine Op2.add ?_
    refine Ev.clB hK rfl rfl rfl ?_
    refine Es.cs ?_
    refine Ev.comp (ml := false) (cl := [("size", L + 6), ("rest", L + 10), ("k", L + 2)]) (Lcap := [("k", .int k), ("rest", .int rest), ("size", .int (sz : Nat))]) ⟨by kernel_rfl, ⟨by kernel_rfl, by kernel_rfl, by kernel_rfl, trivial⟩, show (["size", "rest", "k"] : List Str).Nodup by decide +kernel, by kernel_rfl, ⟨rfl, rfl, rfl, trivial⟩⟩ ?_
    refine CompE.one ?_
    refine EvI.range ?_
    refine Ev.clB hK rfl rfl rfl ?_
    refine Es.cs ?_
    refine Ev.binNI rfl ?_
    refine Op2.add ?_
    refine Es.nil ?_
    refine Ca.range1 ?_
    refine ⟨_, _, _, rfl, PySem.small_one (by omega) (by omega) (by omega) (by omega), k + 1, ?_, trivial, by omega, fun j => some (.int (((k : Int) + 1 - rest) * ((j : Nat) : Int).fdiv sz + rest * (((j : Nat) : Int) + 1).fdiv sz)), fun C j hj => ?_, ?_⟩
    · have := rs_one 0 (k + 1)
      rw [Nat.sub_zero] at this
      exact this.symm
    · have ej : [AV.int (0 + (j : Nat) * 1)] = [.int j] := congrArg (fun z => [AV.int z]) (by omega)
      refine BindT.one ej ?_
      refine ⟨⟨rfl, rfl, rfl, trivial⟩, ?_⟩
      refine Ev.binop ?_
      refine Ev.binop ?_
      refine Ev.binop ?_
      refine Ev.binNI rfl ?_
      refine Op2.add ?_
      refine Ev.nm rfl ?_
      refine Op2.sub ?_
      refine Ev.binNN rfl rfl ?_
      refine Op2.floordiv (by omega) (PyProof.noPylong_small (by omega)) ?_
      refine Op2.mul ?_ (IntMulOk.of_left (intBits_le_64 (by omega) (by omega)))
      refine Ev.binN rfl ?_
      refine Ev.binop ?_
      refine Ev.binNI rfl ?_
      refine Op2.add ?_
      refine Ev.nm rfl ?_
      refine Op2.floordiv (by omega) (PyProof.noPylong_small (by omega)) ?_
      refine Op2.mul ?_ (IntMulOk.of_left (intBits_le_64 (by omega) (by omega)))
      exact Op2.add ⟨rfl, rfl⟩
    rw [range_map (k + 1) _ (fun j => AV.int (((k : Int) + 1 - rest) * ((j : Nat) : Int).fdiv sz + rest * (((j : Nat) : Int) + 1).fdiv sz)) fun i _ => rfl]
    refine Es.nil ?_
    refine Ca.sum (ns := (List.range (k + 1)).map fun j => ((k : Int) + 1 - rest) * ((j : Nat) : Int).fdiv sz + rest * (((j : Nat) : Int) + 1).fdiv sz) (by rw [List.map_map]; rfl) ?_
    refine Op2.add ?_
    show Exs K ((cLaw kk pm L fa d).at (setL (setL (setL (bC n high t first k rest z) "size" (.int (sz : Nat))) "ring" (.int ring)) "stops" (.int (stopsOf k rest sz)))) _ _ _
    generalize stopsOf k rest sz = stops at hri
    -- the columns
    refine Exs.ifs ?_
    refine It.compare ?_
    refine Ev.binN rfl ?_
    refine Ev.binNI rfl ?_
    refine Op2.add ?_
    refine Op2.mul ?_ (IntMulOk.of_right (intBits_le_64 (by omega) (by omega)))
    refine Ev.binop ?_
    refine Ev.binop ?_
    refine Ev.lenN hK rfl rfl rfl hrr (by rw [List.length_map]; omega) ?_
    rw [List.length_map]
    refine Ev.nm rfl ?_
    refine Op2.sub ?_
    refine Ev.binop ?_
    refine Ev.binNN rfl rfl ?_
    refine Op2.mul ?_ (IntMulOk.of_left (intBits_le_64 (by omega) (by omega)))
    refine Ev.binop ?_
    refine Ev.binNI rfl ?_
    refine Op2.add ?_
    refine Ev.clB hK rfl rfl rfl ?_
    refine Es.nm rfl ?_
    refine Es.nil ?_
    refine Ca.lenS (by rw [blk_length]; omega) ?_
    rw [blk_length]
    refine Op2.mul ?_ (IntMulOk.of_left (intBits_le_64 (by omega) (by omega)))
    refine Op2.add ?_
    refine Op2.mul ?_ (IntMulOk.of_left (intBits_le_64 (by omega) (by omega)))
    refine Op2.ne (Tru.bool ?_)
    rw [hri, bne_self_eq_false]
    refine Exs.endS ?_
    exact Exs.next ⟨bC n high t first k rest z, ⟨rfl, rfl, rfl, rfl, rfl, rfl, trivial⟩, rfl, rfl⟩
  · rintro B L' h' hB ⟨rfl, rfl⟩
    refine Exs.endS ?_
    refine Exs.ret ?_
    refine Ev.cbool ?_
    exact hQ
  · exact ⟨bC n high t first k rest z, ⟨rfl, rfl, rfl, rfl, rfl, rfl, trivial⟩, rfl, rfl⟩
end
end Mine
end

section
set_option maxHeartbeats 4000000
open PySem PySem.W PySem.Calls PyProof.Rows
namespace Mine

theorem pick10_len {α : Type} (xs : List α) (i : Nat) : (pickN xs (some (i : Int)) none (some 10)).length ≤ xs.length + 1 := by
  unfold pickN
  refine Nat.le_trans (List.length_filterMap_le _ _) ?_
  unfold sliceRange
  rw [List.length_map, List.length_range]
  unfold sliceBounds
  simp only [Option.getD_some]
  split <;> (try split) <;> omega
theorem sum_set : ∀ (A : List Nat) (i : Nat), i < A.length → (A.set i (A.getD i 0 + 1)).sum = A.sum + 1
  | [], i, h => by simp at h
  | x :: A, 0, _ => by simp [List.set]; omega
  | x :: A, i + 1, h => by
    have := sum_set A i (by simpa using h)
    simp only [List.set_cons_succ, List.sum_cons, List.getD_cons_succ]; omega
theorem step_nat {A : List Nat} (hA : Pos A) (x : Int) : ∃ A' : List Nat, pileStep (ci A) x = ci A' ∧ Pos A' ∧ A'.sum = A.sum + 1 := by
  unfold pileStep
  have hl : (ci A).length = A.length := by simp [ci]
  have h0 : 0 ≤ x.fmod ((ci A).length + 1) := Int.fmod_nonneg_of_pos _ (by omega)
  have h1 : x.fmod ((ci A).length + 1) < (ci A).length + 1 := Int.fmod_lt_of_pos _ (by omega)
  obtain ⟨p, hp⟩ := Int.eq_ofNat_of_zero_le h0
  rw [hp] at h1
  simp only [hp, Int.toNat_natCast]
  by_cases q : p = (ci A).length
  · refine ⟨A ++ [1], ?_, fun y hy => ?_, by simp⟩
    · rw [if_pos q]
      subst q
      unfold ci
      simp
    · rcases List.mem_append.mp hy with hy | hy
      · exact hA y hy
      · rw [List.mem_singleton.mp hy]; exact Nat.le_refl _
  · have hpl : p < A.length := by omega
    refine ⟨A.set p (A.getD p 0 + 1), ?_, fun y hy => ?_, sum_set A p hpl⟩
    · rw [if_neg q]
      unfold ci
      rw [List.map_set]
      simp [hpl]
    · rcases List.mem_or_eq_of_mem_set hy with hy | hy
      · exact hA y hy
      · rw [hy]; omega
theorem piles_nat : ∀ (ns : List Int) (A : List Nat), Pos A → ∃ S : List Nat, ns.foldl pileStep (ci A) = ci S ∧ Pos S ∧ S.sum = A.sum + ns.length
  | [], A, h => ⟨A, rfl, h, rfl⟩
  | x :: ns, A, h => by
    obtain ⟨A', e1, h1, s1⟩ := step_nat h x
    obtain ⟨S, e2, h2, s2⟩ := piles_nat ns A' h1
    exact ⟨S, by rw [List.foldl_cons, e1, e2], h2, by rw [s2, s1, List.length_cons]; omega⟩
end Mine
end

section
set_option maxHeartbeats 4000000
open PySem PySem.W PySem.Calls PyProof.Rows
namespace Mine

theorem chk_use {n : Nat} (h3 : 3 ≤ n) (h10 : n ≤ 10) {S : List Nat} (hp : Pos S) (hs : S.sum = n) : ∃ R S', orbN 40 [] S = some (R, S') ∧ chkR n R (R.idxOf (isortN S')) = true := by
  have hm : isortN S ∈ parts n := hs ▸ parts_mem hp
  have hc : chk n (isortN S) = true := by
    rcases Nat.eq_or_lt_of_le h3 with q | h4
    · subst q; exact chk3 _ hm
    rcases Nat.eq_or_lt_of_le h4 with q | h5
    · subst q; exact chk4 _ hm
    rcases Nat.eq_or_lt_of_le h5 with q | h6
    · subst q; exact chk5 _ hm
    rcases Nat.eq_or_lt_of_le h6 with q | h7
    · subst q; exact chk6 _ hm
    rcases Nat.eq_or_lt_of_le h7 with q | h8
    · subst q; exact chk7 _ hm
    rcases Nat.eq_or_lt_of_le h8 with q | h9
    · subst q; exact chk8 _ hm
    rcases Nat.eq_or_lt_of_le h9 with q | h11
    · subst q; exact chk9 _ hm
    have q : n = 10 := Nat.le_antisymm h10 h11
    subst q; exact chk10 _ hm
  unfold chk at hc
  cases e : orbN 40 [] (isortN S) with
  | none => rw [e] at hc; cases hc
  | some p =>
    obtain ⟨R, P'⟩ := p
    rw [e] at hc
    obtain ⟨S', e2, hperm⟩ := orbN_perm (isortN_perm S) e
    refine ⟨R, S', e2, ?_⟩
    rw [← isortN_eq hperm]; exact hc
theorem ne_new {h : Hp} {a b : Nat} {o : AObj} (ha : h a = some o) (hb : h b = none) : a ≠ b := fun q => by rw [q, hb] at ha; cases ha

section
variable {K : Bse} {c : Cx} {h : Hp} {d : Nat} {F : Frag} {fI fL fE : Addr} {mc : Value} {tS tT : Tok} {kk fa L : Addr} {pm : Value} {Q : AV → Hp → Prop}
theorem end_spec (hK : OkK K) (W : WsK K F fI fL fE mc tS tT) (hkp : keepIn F (.ref 142) = true) (hD : DictI K 38 fun k => List.lookup k flagT) {b : TB} {z : LL} {t n high m : Nat} {a : AV} {S : List Nat} (h3 : 3 ≤ n) (h10 : n ≤ 10) (ht : t ≤ 2) (hh : high ≤ 27) (hp : Pos S) (hs : S.sum = n) (h0 : S ≠ []) (hm : m ≤ 20)
    (I : LSt h b z t a S [] m) {L0 : Lc} (hL : SubL (bL n high t a b z) L0) (hQ : ∀ h', TQ h' 0 qPile → TQ h' 1 qTab → Q (.bool true) h') : Exs K ((cLaw kk pm L fa d).at L0) ((bodyI 24).drop 10) h (Rt Q) := by
  obtain ⟨R, S', eo, hc⟩ := chk_use h3 h10 hp hs
  refine Exs.go ?_
  refine Ex.whl ?_
  refine loop_spec hK W hkp h10 ht (fun L' h' lP l x ld a' m' hin hB I' e1 i1 i2 hm' hRl hRn hp' hs' => ?_) 40 [] S a m h L0 eo I h0 hp hs (fun _ w => nomatch w) (by omega) (by simp) hL
  unfold chkR at hc
  simp only [Bool.and_eq_true, decide_eq_true_eq, beq_iff_eq] at hc
  obtain ⟨⟨⟨c1, c2⟩, c3⟩, c4⟩ := hc
  refine Exs.subL hB ?_
  refine finA hK W hkp I' hin e1 i1 i2 hp' hs' h10 h3 ht hm' hRl hRn (fun r hr => by have := parts_small n (by omega) r (hRn r hr); omega) c2 fun h2 tq2 tr2 hl hr => ?_
  refine finB hK hD hh (kOf_le n (by omega) h3).2 (by rw [List.length_map]; exact c1) (by rw [List.length_map]; omega) c3 fun h4 tv' k4 => ?_
  refine finC hK W h10 h3 ht (hl.stay (fun o e => k4 _ _ e (fun w => nomatch w)) fun l o e _ => k4 _ _ e (fun w => nomatch w)) (k4 _ _ hr (fun w => nomatch w)) hRl hRn (Nat.le_of_lt c1) (fun i hi => ?_) (hQ h4 (tq2.keep0 k4) (tr2.keep0 k4))
  have := List.all_eq_true.mp c4 t (List.mem_range.mpr (by omega))
  exact List.all_eq_true.mp this i (List.mem_range.mpr hi)

theorem pro2 (hK : OkK K) (W : WsK K F fI fL fE mc tS tT) (hkp : keepIn F (.ref 142) = true) (hD : DictI K 38 fun k => List.lookup k flagT) {t n high lS : Nat} {S : List Nat} (h3 : 3 ≤ n) (h10 : n ≤ 10) (ht : t ≤ 2) (hh : high ≤ 27) (hp : Pos S) (hs : S.sum = n) (h0 : S ≠ [])
    (t0 : TQ h 0 qPile) (t1 : TQ h 1 qTab) (hS : h lS = some (.list ((ci S).map .int))) (hQ : ∀ h', TQ h' 0 qPile → TQ h' 1 qTab → Q (.bool true) h') :
    Exs K ((cLaw kk pm L fa d).at [("cards", .int n), ("high", .int high), ("tail", .str (blk t)), ("sizes", .obj lS)]) ((bodyI 24).drop 4) h (Rt Q) := by
  have hlen := pos_len hp
  have hcl := ci_len S
  refine Exs.asC ?_ rfl
  refine Ev.dict2 (by decide +kernel) ?_
  refine Ev.str ?_
  refine Ev.str ?_
  refine Exs.asC ?_ rfl
  refine Ev.clG hK rfl rfl rfl ?_
  refine Es.nm rfl ?_
  refine Es.nil ?_
  refine table_spec hK t1 fun b h1 hbP T1 k1 t1' => ?_
  obtain ⟨es1, g1, _⟩ := id t1
  have nS1 : lS ≠ 1 := fun q => by rw [q, g1] at hS; cases hS
  have nSP : lS ≠ b.P := ne_new hS hbP
  have hS1 := k1 _ _ hS (by simpa using nS1)
  have t01 : TQ h1 0 qPile := let ⟨es, e1, e2⟩ := t0; ⟨es, k1 _ _ e1 (by simp), e2⟩
  obtain ⟨es0, g0, _⟩ := id t01
  have nS0 : lS ≠ 0 := fun q => by rw [q, g0] at hS1; cases hS1
  show Exs K ((cLaw kk pm L fa d).at [("cards", .int n), ("high", .int high), ("tail", .str (blk t)), ("sizes", .obj lS), ("given", givenV), ("table", .obj b.T)]) ((bodyI 24).drop 6) h1 (Rt Q)
  -- books
  refine Exs.asgComp (ml := true) (cl := [("table", L + 5), ("given", L + 4)]) (Lcap := [("given", givenV), ("table", .obj b.T)]) ⟨by kernel_rfl, ⟨by kernel_rfl, by kernel_rfl, trivial⟩, show (["table", "given"] : List Str).Nodup by decide +kernel, by kernel_rfl, ⟨rfl, rfl, trivial⟩⟩ ?_
  refine EvI.enum ?_
  refine Ev.B hK rfl rfl ⟨rfl, ?_⟩
  refine Ev.nm rfl ?_
  refine ⟨_, readL_obj hS1, _, fun I wr St C D X hD => CompRuns.lastS X hD (fun i B h' ys => B = ([("given", givenV), ("table", .obj b.T)] : Lc) ∧ (∃ ps, Tbl h' b (blk t) ps ∧ TxtOk ps (S.take i) ∧ ps.length = i) ∧ TQ h' 0 qPile ∧ TQ h' 1 qTab ∧ h' lS = some (.list ((ci S).map .int)) ∧ i ≤ S.length ∧ ys = (List.range i).map fun j => bookOf j (S.getD j 0)) ?_ ?_ ?_, ?_⟩
  · rintro i B h' ys ⟨_, _, _, _, e, hi, rfl⟩
    exact ⟨readL_obj e, le_line (by rw [List.length_map, List.length_range]; omega)⟩
  · rintro i B h' ys hi ⟨rfl, ⟨ps, T, X, hps⟩, tq, tr, hSi, _, rfl⟩
    have hib : i < S.length := by omega
    have ei : [AV.int i, ((ci S).map AV.int).getD i .none] = [.int i, .int ((S.getD i 0 : Nat) : Int)] := congrArg (fun z => [AV.int i, z]) (ci_at hib)
    have hx : S.getD i 0 ≤ 10 ∧ 1 ≤ S.getD i 0 := by
      have e : S.getD i 0 = S[i] := getD_at hib
      rw [e]
      exact ⟨Nat.le_trans (mem_sum (List.getElem_mem hib)) (by omega), hp _ (List.getElem_mem hib)⟩
    refine BindT.two ei ?_
    refine Ev.clG hK rfl rfl rfl ?_
    refine Es.nm rfl ?_
    refine Es.nm rfl ?_
    refine Es.nm rfl ?_
    refine Es.nm rfl ?_
    refine Es.nil ?_
    refine lay_spec hK T tq (by omega) (by omega) (by omega) fun p h2 hpt Y => ?_
    have tr' : TQ h2 1 qTab := by
      obtain ⟨es, w1, w2⟩ := tr
      have w3 : (1 : Nat) ≠ b.P := fun q => by rw [q, T.P] at w1; cases w1
      exact ⟨es, Y.k _ _ w1 (by simp [w3]), w2⟩
    refine ⟨([("given", givenV), ("table", .obj b.T)] : Lc), ⟨rfl, rfl, trivial⟩, rfl, ⟨_, Y.T, ?_, by simp [hps]⟩, Y.q, tr', Y.k _ _ hSi (by simp [nS0, nSP]), hib, ?_⟩
    · have e : S.take (i + 1) = S.take i ++ [S.getD i 0] := by rw [List.take_succ_eq_append_getElem hib]; simp [hib]
      rw [e]
      exact X.add (by rw [hpt, Int.toNat_natCast]; rfl) hx.2 (by omega)
    · rw [List.range_succ, List.map_append]; rfl
  · exact ⟨([("given", givenV), ("table", .obj b.T)] : Lc), ⟨rfl, rfl, trivial⟩, rfl, ⟨[], T1, TxtOk.nil, rfl⟩, t01, t1', hS1, Nat.zero_le _, rfl⟩
  rintro L2 h2 ys ⟨B, rfl, ⟨ps, T2, X2, hps⟩, tq2, tr2, hS2, _, rfl⟩ lB hlB
  rw [hcl] at hps
  rw [hcl, List.take_length] at X2
  rw [hcl]
  have hbks : BooksOk ((List.range S.length).map fun j => bookOf j (S.getD j 0 : Nat)) := fun x hx => by
    obtain ⟨j, _, e⟩ := List.mem_map.mp hx
    exact ⟨_, _, e.symm⟩
  have hbl : ((List.range S.length).map fun j => bookOf j (S.getD j 0 : Nat)).length = S.length := by simp
  have edue : (List.range S.length).filterMap (fun j => some (bookOf j (S.getD j 0 : Nat))) = (List.range S.length).map fun j => bookOf j (S.getD j 0 : Nat) := range_map _ _ _ fun i _ => rfl
  generalize (List.range S.length).map (fun j => bookOf j (S.getD j 0 : Nat)) = bs at *
  have k3 : Keep h2 (h2.put lB (.list bs)) [] := Keep.new hlB
  have eB3 : (h2.put lB (.list bs)) lB = _ := Hp.put_self ..
  have nSB : lS ≠ lB := ne_new hS2 hlB
  have nPB : b.P ≠ lB := ne_new T2.P hlB
  generalize h2.put lB (.list bs) = h3' at k3 eB3
  have hS3 := k3 _ _ hS2 (fun w => nomatch w)
  -- due
  refine Exs.asgComp (ml := true) (cl := []) (Lcap := []) ⟨by kernel_rfl, trivial, List.nodup_nil, by kernel_rfl, trivial⟩ ?_
  refine CompE.one ?_
  refine EvI.enum ?_
  refine Ev.B hK rfl rfl ⟨rfl, ?_⟩
  refine Ev.nm rfl ?_
  refine ⟨_, readL_obj hS3, readL_obj hS3, by omega, fun j => some (bookOf j (S.getD j 0 : Nat)), fun C i hi => ?_, ?_⟩
  · have hib : i < S.length := by omega
    have ei : [AV.int i, ((ci S).map AV.int).getD i .none] = [.int i, .int ((S.getD i 0 : Nat) : Int)] := congrArg (fun z => [AV.int i, z]) (ci_at hib)
    refine BindT.two ei ?_
    refine ⟨trivial, ?_⟩
    refine Ev.clG hK rfl rfl rfl ?_
    refine Es.nm rfl ?_
    refine Es.nm rfl ?_
    refine Es.nil ?_
    exact book_spec hK ⟨rfl, rfl⟩
  rw [hcl, edue]
  intro lD hlD
  have k4 : Keep h3' (h3'.put lD (.list bs)) [] := Keep.new hlD
  have eD4 : (h3'.put lD (.list bs)) lD = _ := Hp.put_self ..
  have nSD : lS ≠ lD := ne_new hS3 hlD
  have nPD : b.P ≠ lD := ne_new (k3 _ _ T2.P (fun w => nomatch w)) hlD
  have nBD : lB ≠ lD := ne_new eB3 hlD
  generalize h3'.put lD (.list bs) = h4 at k4 eD4
  -- leads, rows
  refine Exs.asL ?_
  refine Ev.listM ?_
  refine Es.nil ⟨by decide, fun lL hlL => ?_⟩
  have k5 : Keep h4 (h4.put lL (.list [])) [] := Keep.new hlL
  have eL5 : (h4.put lL (.list [])) lL = _ := Hp.put_self ..
  have hS4 := k4 _ _ hS3 (fun w => nomatch w)
  have eB4 := k4 _ _ eB3 (fun w => nomatch w)
  have k24 := k3.trans k4
  have nSL : lS ≠ lL := ne_new hS4 hlL
  have nPL : b.P ≠ lL := ne_new (k24 _ _ T2.P (fun w => nomatch w)) hlL
  have nBL : lB ≠ lL := ne_new eB4 hlL
  have nDL : lD ≠ lL := ne_new eD4 hlL
  generalize h4.put lL (.list []) = h5 at k5 eL5
  refine Exs.asL ?_
  refine Ev.listM ?_
  refine Es.nil ⟨by decide, fun lR hlR => ?_⟩
  have k6 : Keep h5 (h5.put lR (.list [])) [] := Keep.new hlR
  have eR6 : (h5.put lR (.list [])) lR = _ := Hp.put_self ..
  have k25 := k24.trans k5
  have nSR : lS ≠ lR := ne_new (k25 _ _ hS2 (fun w => nomatch w)) hlR
  have nPR : b.P ≠ lR := ne_new (k25 _ _ T2.P (fun w => nomatch w)) hlR
  have nBR : lB ≠ lR := ne_new (k5 _ _ eB4 (fun w => nomatch w)) hlR
  have nDR : lD ≠ lR := ne_new (k5 _ _ eD4 (fun w => nomatch w)) hlR
  have nLR : lL ≠ lR := ne_new eL5 hlR
  generalize h5.put lR (.list []) = h6 at k6 eR6
  have k26 := k25.trans k6
  have k46 := k5.trans k6
  refine end_spec hK W hkp hD (b := b) (z := ⟨lB, lD, lL, lR⟩) (t := t) (m := S.length) (a := .obj lS) (S := S) h3 h10 ht hh hp hs h0 (by omega) ?_ ⟨rfl, rfl, rfl, rfl, rfl, rfl, rfl, rfl, rfl, rfl, trivial⟩ hQ
  refine ⟨⟨ps, T2.keep k26 (fun _ w => nomatch w), X2, hps⟩, tq2.keep0 k26, tr2.keep0 k26, ⟨bs, k46 _ _ eB4 (fun w => nomatch w), k46 _ _ eD4 (fun w => nomatch w), hbl, hbks⟩, ⟨[], k6 _ _ eL5 (fun w => nomatch w), rfl, fun i k r w _ => by simp at w⟩, eR6, ?_, .inr ⟨lS, rfl, k26 _ _ hS2 (fun w => nomatch w), ?_⟩⟩
  · simp only [List.nodup_cons, List.mem_cons, List.not_mem_nil, or_false, not_or, List.nodup_nil, and_true, not_false_eq_true]
    exact ⟨⟨nBD, nBL, nBR, Ne.symm nPB⟩, ⟨nDL, nDR, Ne.symm nPD⟩, ⟨nLR, Ne.symm nPL⟩, Ne.symm nPR⟩
  · simp only [List.mem_cons, List.not_mem_nil, or_false, not_or]
    exact ⟨nSB, nSD, nSL, nSR, nSP⟩
end
end Mine
end

section
set_option maxHeartbeats 4000000
open PySem PySem.W PySem.Calls PyProof.Rows
namespace Mine

noncomputable def baseL : List Int := [0, 1, 2, 3, 5, 6, 7, 8, 9, 4]
noncomputable def heapK (ns : List Int) (k : Nat) : Int := baseL.getD k 0 + ((pickN ns (some (k : Nat)) none (some 10)).map fun x => x.fmod 1000000).sum
noncomputable def heapsOf (ns : List Int) : List Int := (List.range 10).map (heapK ns)
theorem tails : ∀ i, i < 3 → ([("" : Str), " ", "  "])[i]? = some (blk i) := by decide +kernel

section
variable {K : Bse} {c : Cx} {h : Hp} {d : Nat} {F : Frag} {fI fL fE : Addr} {mc : Value} {tS tT : Tok} {kk fa L : Addr} {pm : Value} {Q : AV → Hp → Prop}
theorem pro1 (hK : OkK K) (W : WsK K F fI fL fE mc tS tT) (hkp : keepIn F (.ref 142) = true) (hD : DictI K 38 fun k => List.lookup k flagT) {ns : List Int} (hns : ns.length ≤ 63) (t0 : TQ h 0 qPile) (t1 : TQ h 1 qTab) (hQ : ∀ h', TQ h' 0 qPile → TQ h' 1 qTab → Q (.bool true) h') :
    Exs K ((cLaw kk pm L fa d).at [("script", .list (ns.map .int))]) (bodyI 24) h (Rt Q) := by
  refine Exs.asgComp (ml := false) (cl := [("script", L + 1)]) (Lcap := [("script", .list (ns.map .int))]) ⟨by kernel_rfl, ⟨by kernel_rfl, trivial⟩, show (["script"] : List Str).Nodup by decide +kernel, by kernel_rfl, ⟨rfl, trivial⟩⟩ ?_
  refine CompE.one ?_
  refine EvI.range ?_
  refine Ev.clB hK rfl rfl rfl ?_
  refine Es.cs ?_
  refine Ev.int ?_
  refine Es.nil ?_
  refine Ca.range1 ?_
  refine ⟨_, _, _, rfl, by decide +kernel, 10, by decide +kernel, trivial, by decide, fun k => some (.int (heapK ns k)), fun C i hi => ?_, ?_⟩
  · have ei : [AV.int (0 + (i : Nat) * 1)] = [.int i] := congrArg (fun z => [AV.int z]) (by omega)
    refine BindT.one ei ?_
    refine ⟨⟨rfl, trivial⟩, ?_⟩
    refine Ev.binop ?_
    refine Ev.sub ?_
    refine Ev.tuple ?_
    iterate 10
      refine Es.cs ?_
      refine Ev.int ?_
    refine Es.nil ⟨le_line (Nat.le_of_ble_eq_true rfl), ?_⟩
    refine Ev.nm rfl ?_
    refine GetI.tuple (x := .int (baseL.getD i 0)) (by omega) (by show (i : Int) < ((10 : Nat) : Int); omega) (by show (10 : Nat) < 2 ^ 62; decide) ?_ ?_
    · rw [Int.toNat_natCast]
      show (baseL.map AV.int)[i]? = _
      have : i < baseL.length := hi
      simp [this]
    refine Ev.clB hK rfl rfl rfl ?_
    refine Es.cs ?_
    refine Ev.comp (ml := false) (cl := []) (Lcap := []) ⟨by kernel_rfl, trivial, List.nodup_nil, by kernel_rfl, trivial⟩ ?_
    refine CompE.one ?_
    refine EvI.list ?_
    refine Ev.sliceL ?_
    refine Ev.nm rfl ?_
    show Ev _ _ _ _ _
    refine Ev.nm rfl ⟨(i : Nat), rfl, ?_⟩
    show Ev _ _ _ _ _
    refine Ev.int ⟨10, rfl, _, rfl, le_line (by rw [List.length_map]; omega), by simp, ?_⟩
    rw [pickL_map]
    have hpl := pick10_len ns i
    generalize hpk : pickN ns (some (i : Int)) none (some 10) = ys at hpl
    refine ⟨_, rfl, rfl, by rw [List.length_map]; omega, fun j => some (.int ((ys.getD j 0).fmod 1000000)), fun C2 j hj => ?_, ?_⟩
    · have hjy : j < ys.length := len_lt hj
      have ej : ([(ys.map AV.int).getD j .none] : List AV) = [.int (ys.getD j 0)] := congrArg (fun z => [z]) (getD_mapD hjy)
      refine BindT.one ej ?_
      refine ⟨trivial, ?_⟩
      refine Ev.binN rfl ?_
      refine Ev.binop ?_
      refine Ev.int ?_
      refine Ev.int ?_
      refine Op2.pow (by decide) (by decide +kernel) ?_
      exact Op2.mod (by decide) ⟨rfl, rfl⟩
    have ey : (List.range (ys.map AV.int).length).filterMap (fun j => some (AV.int ((ys.getD j 0).fmod 1000000))) = (ys.map fun x => x.fmod 1000000).map .int := by
      rw [List.length_map, range_filterMap ys (f := fun x => some (AV.int (x.fmod 1000000))) _ fun i hi => by simp [hi], List.map_map]
      exact congrFun List.filterMap_eq_map _
    rw [ey]
    refine Es.nil ?_
    refine Ca.sum rfl ?_
    refine Op2.add ⟨rfl, ?_⟩
    subst hpk
    rfl
  have eh : (List.range 10).filterMap (fun k => some (AV.int (heapK ns k))) = (heapsOf ns).map .int := by
    rw [range_map 10 _ (fun k => AV.int (heapK ns k)) fun i _ => rfl]
    unfold heapsOf; rw [List.map_map]; rfl
  rw [eh]
  have hl : (heapsOf ns).length = 10 := by unfold heapsOf; simp
  generalize heapsOf ns = hs at hl
  show Exs K ((cLaw kk pm L fa d).at [("script", .list (ns.map .int)), ("heaps", .list (hs.map .int))]) ((bodyI 24).drop 1) h (Rt Q)
  refine Exs.asL ?_
  refine Ev.clB hK rfl rfl rfl ?_
  refine Es.nm rfl ?_
  refine Es.nil ?_
  refine Ca.sum rfl ?_
  generalize hs.sum = whole
  have m1 : 0 ≤ whole.fmod 8 ∧ whole.fmod 8 < 8 := ⟨Int.fmod_nonneg_of_pos _ (by decide), Int.fmod_lt_of_pos _ (by decide)⟩
  have m2 : 0 ≤ (whole.fdiv 8).fmod 28 ∧ (whole.fdiv 8).fmod 28 < 28 := ⟨Int.fmod_nonneg_of_pos _ (by decide), Int.fmod_lt_of_pos _ (by decide)⟩
  have m3 : 0 ≤ (whole.fdiv 224).fmod 3 ∧ (whole.fdiv 224).fmod 3 < 3 := ⟨Int.fmod_nonneg_of_pos _ (by decide), Int.fmod_lt_of_pos _ (by decide)⟩
  refine Exs.asgT ?_
  refine Ev.tuple ?_
  refine Es.cs ?_
  refine Ev.binop ?_
  refine Ev.int ?_
  refine Ev.binNI rfl ?_
  refine Op2.mod (by decide) ?_
  refine Op2.add ?_
  refine Es.cs ?_
  refine Ev.binop ?_
  refine Ev.binNI rfl ?_
  refine Op2.floordiv (by decide) (PyProof.noPylong_small (by decide)) ?_
  refine Ev.int ?_
  refine Op2.mod (by decide) ?_
  refine Es.cs ?_
  refine Ev.sub ?_
  refine Ev.tuple ?_
  refine Es.cs ?_
  refine Ev.str ?_
  refine Es.cs ?_
  refine Ev.str ?_
  refine Es.cs ?_
  refine Ev.str ?_
  refine Es.nil ⟨le_line (Nat.le_of_ble_eq_true rfl), ?_⟩
  refine Ev.binop ?_
  refine Ev.binNI rfl ?_
  refine Op2.floordiv (by decide) (PyProof.noPylong_small (by decide)) ?_
  refine Ev.int ?_
  refine Op2.mod (by decide) ?_
  generalize whole.fmod 8 = a1 at m1
  generalize (whole.fdiv 8).fmod 28 = a2 at m2
  generalize (whole.fdiv 224).fmod 3 = a3 at m3
  obtain ⟨c1, rfl⟩ := Int.eq_ofNat_of_zero_le m1.1
  obtain ⟨high, rfl⟩ := Int.eq_ofNat_of_zero_le m2.1
  obtain ⟨t, rfl⟩ := Int.eq_ofNat_of_zero_le m3.1
  refine GetI.tuple (x := .str (blk t)) (by omega) (by show (t : Int) < ((3 : Nat) : Int); omega) (by show (3 : Nat) < 2 ^ 62; decide) ?_ ?_
  · rw [Int.toNat_natCast]
    show (([("" : Str), " ", "  "]).map AV.str)[t]? = _
    rw [List.getElem?_map, tails t (by omega)]; rfl
  refine Es.nil ⟨le_line (Nat.le_of_ble_eq_true rfl), ?_⟩
  refine As.tupleT rfl (by kernel_rfl) ?_
  refine Ass.cons ?_
  refine As.name (.inr ⟨rfl, by kernel_rfl, by kernel_rfl⟩) ?_
  refine Ass.cons ?_
  refine As.name (.inl (by kernel_rfl)) ?_
  refine Ass.cons ?_
  refine As.name (.inl (by kernel_rfl)) ?_
  refine Ass.nil ?_
  have ec : (3 : Int) + (c1 : Int) = ((3 + c1 : Nat) : Int) := by omega
  have hc1 : c1 < 8 := by omega
  have hh : high ≤ 27 := by omega
  have ht : t ≤ 2 := by omega
  clear m1 m2 m3
  rw [ec]
  have h10 : 3 + c1 ≤ 10 := by omega
  have h3 : 3 ≤ 3 + c1 := by omega
  generalize 3 + c1 = n at h10 h3
  refine Exs.asL ?_
  refine Ev.clG hK rfl rfl rfl ?_
  refine Es.cs ?_
  refine Ev.sliceL ?_
  refine Ev.nm rfl ?_
  show Ev _ _ _ _ _
  refine Ev.nm rfl ⟨(n : Nat), rfl, _, rfl, le_line (by rw [List.length_map]; omega), by simp, ?_⟩
  rw [pickL_map, pickN_take]
  refine Es.nil ?_
  refine piles_spec hK (by rw [List.length_take]; omega) fun lS hlS => ?_
  obtain ⟨S, e1, p1, s1⟩ := piles_nat (hs.take n) [] (fun _ w => nomatch w)
  have e1 : pilesOf (hs.take n) = ci S := e1
  have hsum : S.sum = n := by rw [s1, List.length_take]; simp; omega
  rw [e1]
  have hne : S ≠ [] := fun q => by rw [q] at hsum; simp at hsum; omega
  refine Exs.subL (B := [("cards", .int n), ("high", .int high), ("tail", .str (blk t)), ("sizes", .obj lS)]) ⟨rfl, rfl, rfl, rfl, trivial⟩ ?_
  have tk : ∀ (l : Nat) (q : Str), TQ h l q → TQ (h.put lS (.list ((ci S).map .int))) l q := fun l q tq => tq.keep0 (Keep.new hlS)
  exact pro2 hK W hkp hD h3 h10 ht hh p1 hsum hne (tk _ _ t0) (tk _ _ t1) (Hp.put_self ..) hQ

end
end Mine
end

section
set_option maxHeartbeats 4000000
open PySem PySem.W PySem.Calls PyProof.Rows
namespace Mine

/-- what the store says of a heap, with no frame -/
structure Pre (K : Bse) (h : Hp) (G : Gh) (hp : Heap) : Prop where
  cells : ∀ a g, G a = some g → ∃ o, hp.get? a = some o ∧ Sat K G h g o
  bound : ∃ n, ∀ a l, G a = some (.loc l) → l < n
  inj : ∀ a b l, G a = some (.loc l) → G b = some (.loc l) → a = b
  live : ∀ l o, h l = some o → ∃ a, G a = some (.loc l)
  base : ∀ a o, K.B a = some o → G a = some (.base o)
  tabs : ∀ a l, K.T a = some l → G a = some (.loc l)

section
variable {K : Bse} {c : Cx} {h : Hp} {G G' : Gh} {s s' : Shared} {A : Around} {Q : AV → Hp → Prop} {d : Nat}
theorem Pre.none_of_ge {hp : Heap} (R : Pre K h G hp) {a : Addr} (ha : hp.objs.size ≤ a) : G a = none := by
  cases e : G a with
  | none => rfl
  | some g => obtain ⟨o, ho, _⟩ := R.cells a g e; exact absurd (Heap.lt_size ho) (Nat.not_lt.mpr ha)

theorem Pre.enter {env : Env} {binds : List (Str × Value)} {bs : Lc} {e : Nat} (R : Pre K h G s.heap) (x : InCallC s env.locals (bindL env.kindOf binds fun _ => Option.none) env.cells (bindC env.kindOf binds fun _ => Option.none) s')
    (hb1 : binds.map (·.1) = bs.map (·.1)) (hb2 : VRs G (binds.map (·.2)) (bs.map (·.2))) (hb3 : (bs.map (·.1)).Nodup) (hk : env.scope.kind = .function) (hg : env.globals = mainGlobals ∧ env.builtins = builtinsNs)
    (hkind : ∀ y ∈ bs, env.kindOf y.1 = some .local ∨ (env.kindOf y.1 = some .cell ∧ (env.cells.lookup y.1).isSome = true)) :
    Rel K ⟨e, env, true, bs⟩ h G s'.heap ∧ Stp [] G G s s' ∧ ∀ a ∈ (Cx.mk e env true bs).own, s.heap.objs.size ≤ a := by
  have hfr : ∀ a ∈ (Cx.mk e env true bs).own, s.heap.objs.size ≤ a := fun a ha => by
    rcases Cx.own_cases ha with rfl | ⟨n, hm⟩
    · exact x.toInCall.fresh
    · exact Nat.le_of_lt (Nat.lt_of_le_of_lt x.toInCall.fresh (x.above n _ (mem_of_lookup hm)))
  obtain ⟨hp1, tk, hs, hkeep⟩ := x.done
  have hsz : s.heap.objs.size ≤ s'.heap.objs.size := Nat.le_of_lt (Nat.lt_of_le_of_lt x.toInCall.fresh x.toInCall.ns.lt)
  have hkp : ∀ b o, s.heap.get? b = some o → s'.heap.get? b = some o := x.toInCall.keep
  have cellAt : ∀ y k, env.cells.lookup y = some k → s'.heap.IsCell k (bindC env.kindOf binds (fun _ => Option.none) y) := fun y k e => x.cell y k e
  refine ⟨⟨fun a g e => let ⟨o, ho, x⟩ := R.cells a g e; ⟨o, hkp _ _ ho, x⟩, R.bound, R.inj, R.live, R.base, R.tabs, hk, hg, ⟨_, x.toInCall.ns, fun y av e => ?_⟩, fun a ha => ⟨R.none_of_ge (hfr a ha), ?_⟩, fun y k e => ⟨?_, .inl (R.none_of_ge ?_), _, cellAt y k e⟩, x.apart⟩, ?_, hfr⟩
  · obtain ⟨v, hv, h1, h2⟩ := bind_has (kindOf := env.kindOf) (m := fun _ => Option.none) (cm := fun _ => Option.none) hb1 hb2 hb3 e
    rcases hkind _ (mem_of_lookup e) with hl | ⟨hl, hc⟩
    · exact ⟨v, hv, .inl ⟨hl, h1 hl⟩⟩
    · obtain ⟨k, hk⟩ := Option.isSome_iff_exists.mp hc
      refine ⟨v, hv, .inr ⟨.inl hl, k, hk, ?_⟩⟩
      have := cellAt y k hk
      have h3 := h2 (by show env.kindOf y ≠ _; rw [hl]; simp)
      rw [h3] at this; exact this
  · rcases Cx.own_cases ha with rfl | ⟨n, hm⟩
    · exact x.toInCall.ns.lt
    · exact (cellAt n _ hm).lt
  · intro q; have := x.above y k (mem_of_lookup e); rw [q] at this; exact Nat.lt_irrefl _ this
  · exact Nat.le_of_lt (Nat.lt_of_le_of_lt x.toInCall.fresh (x.above y k (mem_of_lookup e)))
  · rw [hs]; exact Stp.heap (fun b o e => hkeep b o e) (by rw [hs] at hsz; exact hsz)

/-- the law is called -/
theorem call_top {fa : Addr} {fd : FuncData} {body : List Stmt} {u : Value} {a : AV} {n : Str} (F : FnOk K fa fd body) (hb : bindArgs fd ⟨[u], []⟩ = pure [(n, u)]) (hkind : fd.scope.names.lookup n = some .cell) (hA : OkA (d + 10) A) (R : Pre K h G s.heap) (hv : VR G u a)
    (x : ∀ L : Addr, Exs K ((⟨d + 9, callEnvC fd L fa, true, []⟩ : Cx).at [(n, a)]) body h (Rt Q)) :
    wpAny K.M A (call (.ref fa) [u]) (fun v s' => ∃ G' av h' c, Stp [] G G' s s' ∧ Rel K c h' G' s'.heap ∧ VR G' v av ∧ Q av h') NoE s := by
  obtain ⟨o, ho, hdata⟩ := F.ho
  obtain ⟨cc, co, vs, t, e1, e2, e3, e4⟩ := F.hcd
  have at_ : ∀ a o, K.B a = some o → s.heap.get? a = some o := fun a o e => by
    obtain ⟨o', g, q⟩ := R.cells _ _ (R.base _ _ e)
    cases q; exact g
  refine wpAny_call ?_
  refine codeAny_call_function hA.room (at_ _ _ ho) hdata F.hco F.hgen F.hbody ⟨cc, co, vs, t, e1, at_ _ _ e2, e3, e4⟩ ?_
  rw [hb]
  refine wpAny_pure ?_
  rw [F.hcl]
  have hsome : ∀ m y, fd.scope.names.lookup y = some .cell → ((cellsFrom m fd.scope.names []).lookup y).isSome = true := fun m y e => cellsFrom_some _ _ _ (.inl e)
  have hk1 : ∀ y ∈ [(n, u)], fd.scope.names.lookup y.1 = some .local ∨ (fd.scope.names.lookup y.1 = some .cell ∧ ((cellsFrom (s.heap.objs.size + 1) fd.scope.names []).lookup y.1).isSome = true) := fun y hy => by
    rw [List.mem_singleton.mp hy]
    exact .inr ⟨hkind, hsome _ _ hkind⟩
  refine wpAny_newFunctionEnv_cells F.hk hk1 fun env he s2 x2 => ?_
  have he' : env = callEnvC fd s.heap.objs.size fa := he
  subst he'
  obtain ⟨R2, st2, hfr⟩ := Pre.enter (e := d + 9) (bs := [(n, a)]) R x2 rfl ⟨hv, trivial⟩ (by simp) F.hk F.hgl (fun y hy => by
    rw [List.mem_singleton.mp hy]
    exact .inr ⟨hkind, hsome _ _ hkind⟩)
  refine ⟨R2.noLimit, codeAny_func (wpAny_mono (x s.heap.objs.size (A.deeper (callEnvC fd s.heap.objs.size fa)) G s2 hA.deeper R2) (fun f s3 p => ?_) fun _ _ z => z.elim)⟩
  obtain ⟨G3, f3, L3, h3, x3, R3, v3, q3⟩ := p
  have st : Stp [] G G3 s s3 := Stp.frame st2 x3 hfr
  cases f <;> cases f3 <;> try exact v3.elim
  · exact ⟨G3, .none, h3, _, st, R3, rfl, q3⟩
  · exact ⟨G3, .none, h3, _, st, R3, rfl, q3⟩
  · exact ⟨G3, .none, h3, _, st, R3, rfl, q3⟩
  · exact ⟨G3, _, h3, _, st, R3, v3, q3⟩
end
end Mine
end

section
set_option maxHeartbeats 4000000
open PySem PySem.W PySem.Calls PyProof.Rows
namespace Mine

noncomputable def pmOf (H : Frag) (a : Addr) : Value := match H.lookup a with | some o => (match o.data with | .func fd => fd.pyModule | _ => .none) | none => .none
noncomputable def codeQ (H : Frag) (k : Addr) (q : Str) : Bool := match H.lookup k with | some o => (match o.data with | .fields vs => (match (vs[1]? : Option Value) with | some (.str x _) => x == q | _ => false) | _ => false) | none => false
/-- a def of the start -/
structure FnH (H : Frag) (a k : Addr) (fd : FuncData) : Prop where
  f : (H.lookup a).map (·.data) = some (.func fd)
  c : codeQ H k fd.qualname = true
noncomputable abbrev FnHI (H : Frag) (i : Nat) (a k : Addr) (dv : Value) : Prop := FnH H a k (fdI i k dv (pmOf H a))
noncomputable abbrev FnHM (H : Frag) (j : Nat) (a k : Addr) : Prop := FnH H a k (fdOf (methI 14 j) "Whitespace." k .none (pmOf H a))
noncomputable def oFlag : Obj := { cls := .type "dict", data := .dict (flagT.zipIdx.map fun p => (⟨p.1.1, .int p.1.1 (218 + 2 * p.2), .str p.1.2 (219 + 2 * p.2)⟩ : DictEntry)).toArray flagT.length }
noncomputable def nsQ (H : Frag) (N : Addr) (names : List Str) : Bool := match H.lookup N with | some o => (match o.data with | .dict es _ => (es.all fun e => match e.key with | .str _ _ => true | _ => false) && names.all fun x => (nsFind es x).isNone | _ => false) | none => false
noncomputable def fnQ (H : Frag) (N : Addr) (x : Str) (f : Addr) : Bool := match H.lookup N with | some o => (match o.data with | .dict es _ => (es.all fun e => match e.key with | .str _ _ => true | _ => false) && (match nsFind es x with | some (.ref g) => g == f | _ => false) | _ => false) | none => false
noncomputable def clsQ (H : Frag) (a : Addr) (T : String) : Bool := match H.lookup a with | some o => (match o.cls with | .type x => x == T | _ => false) | none => false

noncomputable def tokOf (r : Option CFound) : Tok := match r with | some (.val (.str _ t)) => t | _ => 0
/-- what the start must show, by evaluation -/
structure HeadOk (H : Frag) : Prop where
  mg : (mgT.all fun p => nsIn H mainGlobals p.1 == some (some p.2)) = true
  nb : (mbT.all fun p => nsIn H mainGlobals p.1 == some none) = true
  law : nsIn H mainGlobals "law" = some (some (.ref 203))
  blt : nsIn H mainGlobals "__builtins__" = some (some (.ref 4))
  f2 : FnHI H 2 30 29 (.ref 23)
  f3 : FnHI H 3 37 36 .none
  f6 : FnHI H 6 45 44 .none
  f8 : FnHI H 8 52 51 .none
  f9 : FnHI H 9 59 58 .none
  f10 : FnHI H 10 66 65 .none
  f11 : FnHI H 11 73 72 .none
  f12 : FnHI H 12 80 79 .none
  f16 : FnHI H 16 153 152 .none
  f17 : FnHI H 17 160 159 .none
  f18 : FnHI H 18 167 166 .none
  f19 : FnHI H 19 174 173 .none
  f20 : FnHI H 20 181 180 .none
  f21 : FnHI H 21 188 187 .none
  f22 : FnHI H 22 193 192 .none
  f23 : FnHI H 23 198 197 .none
  f24 : FnHI H 24 203 202 .none
  m1 : FnHM H 1 97 96
  m3 : FnHM H 3 111 110
  m4 : FnHM H 4 118 117
  dft : H.lookup 23 = some oDft
  emp : H.lookup 22 = some oEmp
  flg : H.lookup 38 = some oFlag
  ns : nsQ H 141 ["__getattribute__", "__getattr__", "__setattr__", "raw", "n", "nt", "norm", "is_simple"] = true
  cI : fnQ H 141 "indent_level" 111 = true
  cE : fnQ H 141 "equal" 118 = true
  t111 : clsQ H 111 "function" = true
  t118 : clsQ H 118 "function" = true
  makes : makesIn H 142 = true
  init : findIn H (.ref 142) "__init__" = some (some (.ref 97))
  initT : typeIn H (.ref 97) = some (.type "function")
  cls : ∃ bs sn sub ab col dd k0 k1 k2 k3 k5 newId, H.lookup 142 = some (excClassObj "Whitespace" "Whitespace" 142 141 bs [.type "object"] true sn sub ab col dd k0 k1 k2 k3 k5 newId)
  rd : readsIn H 142 (.type "type") = true
  S : findCls H (.ref 142) (.type "type") "S" = some (.val (.str " " (tokOf (findCls H (.ref 142) (.type "type") "S"))))
  T : findCls H (.ref 142) (.type "type") "T" = some (.val (.str "\t" (tokOf (findCls H (.ref 142) (.type "type") "T"))))
  keep : keepIn H (.ref 142) = true
  nolist : (H.all fun p => match p.2.cls with | .type x => x != "list" | _ => true) = true
  low : (H.lookup 3).isSome = true ∧ (H.lookup 2).isSome = true ∧ (H.lookup 152).isSome = true ∧ (H.lookup 159).isSome = true
  none_ : H.lookup 0 = none ∧ H.lookup 1 = none ∧ H.lookup 4 = none ∧ H.lookup 148 = none ∧ H.lookup 155 = none
theorem boots : (mbT.all fun p => bootBuiltins p.1 == some p.2) = true := by decide +kernel

/-- the start's objects that stay -/
noncomputable def baseF (H : Frag) (h : Heap) (a : Addr) : Option Obj := match H.lookup a with | some o => some o | none => if a = 0 ∨ a = 1 ∨ a = 4 then h.get? a else none
noncomputable def tabF (a : Addr) : Option Nat := if a = 148 then some 0 else if a = 155 then some 1 else none
theorem baseF_of {H : Frag} {h : Heap} {a : Addr} {o : Obj} (e : H.lookup a = some o) : baseF H h a = some o := by unfold baseF; rw [e]
theorem baseF_at {H : Frag} {h : Heap} (X : H.In h) {a : Addr} {o : Obj} (e : baseF H h a = some o) : h.get? a = some o := by
  unfold baseF at e
  split at e
  · rename_i o' q; cases e; exact X _ _ q
  · split at e
    · exact e
    · cases e
theorem baseF_some {H : Frag} {h : Heap} (X : H.In h) {a : Addr} {o : Obj} (hs : (H.lookup a).isSome = true) (e : h.get? a = some o) : baseF H h a = some o := by
  obtain ⟨o', q⟩ := Option.isSome_iff_exists.mp hs
  have := X _ _ q
  rw [e] at this; cases this
  exact baseF_of q
theorem baseF_low {H : Frag} {h : Heap} {a : Addr} {o : Obj} (hn : H.lookup a = none) (ha : a = 0 ∨ a = 1 ∨ a = 4) (e : h.get? a = some o) : baseF H h a = some o := by
  unfold baseF; rw [hn]; simp only [if_pos ha]; exact e

theorem strKeys_of {es : Array DictEntry} (e : (es.all fun e => match e.key with | .str _ _ => true | _ => false) = true) : StrKeys es := fun x hx => by
  have := (Array.all_eq_true_iff_forall_mem.mp e) x hx
  split at this
  · rename_i n t q; exact ⟨n, t, q⟩
  · cases this

section
variable {H : Frag} {K : Bse}
theorem FnH.ok {a k : Addr} {fd : FuncData} {body : List Stmt} (X : FnH H a k fd) (sub : ∀ a o, H.lookup a = some o → K.B a = some o) (hb : fd.body = .stmts body) (hcl : fd.closure = []) (hk : fd.code = .ref k) (hgl : fd.globals = mainGlobals ∧ fd.builtins = builtinsNs)
    (hco : fd.scope.isCoroutine = false) (hgen : fd.scope.isGenerator = false) (hf : fd.scope.kind = .function) : FnOk K a fd body := by
  obtain ⟨f, c⟩ := X
  obtain ⟨o, ho, hd⟩ := Option.map_eq_some_iff.mp f
  unfold codeQ at c
  split at c
  · rename_i co hc
    split at c
    · rename_i vs hv
      split at c
      · rename_i x t hx
        exact ⟨⟨o, sub _ _ ho, hd⟩, hb, hcl, ⟨k, co, vs, t, hk, sub _ _ hc, hv, by rw [hx, beq_iff_eq.mp c]⟩, hgl, hco, hgen, hf⟩
      · cases c
    · cases c
  · cases c
theorem ClsNo.of {N : Addr} {names : List Str} {x : Str} (e : nsQ H N names = true) (sub : ∀ a o, H.lookup a = some o → K.B a = some o) (hx : x ∈ names) : ClsNo K N x := by
  unfold nsQ at e
  split at e
  · rename_i o ho
    split at e
    · rename_i es ep hd
      rw [Bool.and_eq_true] at e
      have := List.all_eq_true.mp e.2 x hx
      exact ⟨o, es, ep, sub _ _ ho, hd, strKeys_of e.1, Option.isNone_iff_eq_none.mp this⟩
    · cases e
  · cases e
theorem ClsFn.of {N f : Addr} {x : Str} (e : fnQ H N x f = true) (hc : clsQ H f "function" = true) (sub : ∀ a o, H.lookup a = some o → K.B a = some o) : ClsFn K N x f := by
  unfold clsQ at hc
  split at hc
  · rename_i of hof
    split at hc
    · rename_i T hT
      unfold fnQ at e
      split at e
      · rename_i o ho
        split at e
        · rename_i es ep hd
          rw [Bool.and_eq_true] at e
          obtain ⟨e1, e2⟩ := e
          split at e2
          · rename_i g hg
            rw [beq_iff_eq.mp e2] at hg
            exact ⟨o, es, ep, sub _ _ ho, hd, strKeys_of e1, hg, of, sub _ _ hof, by rw [hT, beq_iff_eq.mp hc]⟩
          · cases e2
        · cases e
      · cases e
    · cases hc
  · cases hc
theorem ClsNo.three {N : Addr} {names : List Str} (e : nsQ H N names = true) (sub : ∀ a o, H.lookup a = some o → K.B a = some o) (h1 : ("__getattribute__" : Str) ∈ names) (h2 : ("__getattr__" : Str) ∈ names) (h3 : ("__setattr__" : Str) ∈ names) :
    ∃ o xs ep, K.B N = some o ∧ o.data = .dict xs ep ∧ StrKeys xs ∧ nsFind xs "__getattribute__" = none ∧ nsFind xs "__getattr__" = none ∧ nsFind xs "__setattr__" = none := by
  obtain ⟨o, xs, ep, a1, a2, a3, a4⟩ := ClsNo.of e sub h1
  obtain ⟨o', xs', ep', b1, b2, _, b4⟩ := ClsNo.of e sub h2
  obtain ⟨o'', xs'', ep'', c1, c2, _, c4⟩ := ClsNo.of e sub h3
  rw [a1] at b1 c1; cases b1; cases c1
  rw [a2] at b2 c2; cases b2; cases c2
  exact ⟨o, xs, ep, a1, a2, a3, a4, b4, c4⟩
theorem flag_pairs : ∀ (l : List (Int × Str)) (n : Nat), Pairs (intKind K.prog K.w) ((l.zipIdx n).map fun p => (⟨p.1.1, .int p.1.1 (218 + 2 * p.2), .str p.1.2 (219 + 2 * p.2)⟩ : DictEntry)) ((l.zipIdx n).map fun p => (p.1.1, Value.str p.1.2 (219 + 2 * p.2)))
  | [], _ => .nil
  | x :: l, n => by
    rw [List.zipIdx_cons, List.map_cons, List.map_cons]
    exact .cons (intKind_is _ _ _ _) rfl (flag_pairs l (n + 1))
theorem flag_at (k : Int) : ∀ (l : List (Int × Str)) (n : Nat), match List.lookup k l with | some x => ∃ t, valueAt ((l.zipIdx n).map fun p => (p.1.1, Value.str p.1.2 (219 + 2 * p.2))) k = some (.str x t) | none => valueAt ((l.zipIdx n).map fun p => (p.1.1, Value.str p.1.2 (219 + 2 * p.2))) k = none
  | [], n => rfl
  | (a, x) :: l, n => by
    have ih := flag_at k l (n + 1)
    rw [List.zipIdx_cons, List.map_cons]
    by_cases q : k = a
    · subst q
      simp only [List.lookup_cons, beq_self_eq_true]
      exact ⟨219 + 2 * n, by simp [valueAt]⟩
    · have e : (k == a) = false := by simpa using q
      simp only [List.lookup_cons, e]
      have e2 : valueAt ((a, Value.str x (219 + 2 * n)) :: ((l.zipIdx (n + 1)).map fun p => (p.1.1, Value.str p.1.2 (219 + 2 * p.2)))) k = valueAt ((l.zipIdx (n + 1)).map fun p => (p.1.1, Value.str p.1.2 (219 + 2 * p.2))) k := by
        unfold valueAt
        rw [List.find?_cons_of_neg]
        simpa using fun w => q w.symm
      show match List.lookup k l with | some x => _ | none => _
      split <;> rename_i e3 <;> rw [e3] at ih
      · obtain ⟨t, ih⟩ := ih; exact ⟨t, e2.trans ih⟩
      · exact e2.trans ih
theorem flag_dict (hB : K.B 38 = some oFlag) : DictI K 38 fun k => List.lookup k flagT := by
  refine ⟨by decide, oFlag, _, hB, ⟨_, _, ⟨rfl, rfl, rfl⟩, rfl, fun e he => ?_, flag_pairs flagT 0, ?_⟩, fun k => flag_at k flagT 0⟩
  · have : ∀ e ∈ flagT.zipIdx.map fun p => (⟨p.1.1, .int p.1.1 (218 + 2 * p.2), .str p.1.2 (219 + 2 * p.2)⟩ : DictEntry), e.hash = (match e.key with | .int k _ => hashInt k | _ => 0) ∧ ∃ k t, e.key = .int k t := by
      intro e he
      obtain ⟨p, hp, rfl⟩ := List.mem_map.mp he
      refine ⟨?_, _, _, rfl⟩
      have : ∀ p ∈ flagT.zipIdx, p.1.1 = hashInt p.1.1 := by decide +kernel
      exact this p hp
    obtain ⟨h1, k, t, h2⟩ := this e (by simpa using he)
    rw [h2] at h1
    exact ⟨k, by rw [h2]; exact intKind_is _ _ _ _, h1⟩
  · rw [List.map_map]
    decide +kernel
end
end Mine
end

section
set_option maxHeartbeats 4000000
open PySem PySem.W PySem.Calls PyProof.Rows
namespace Mine

/-- what is had of the heap at the start -/
structure Start (H : Frag) (mg mb : Str → Option Value) (hp : Heap) : Prop where
  X : H.In hp
  tabs : TabsAt [(152, 148), (159, 155)] hp
  g : hp.Ns mainGlobals mg
  b : hp.Ns builtinsNs mb
  boot : ∀ x : Str, x ≠ "__name__" → mb x = bootBuiltins x
  bm : ∃ bm ob, mg "__builtins__" = some (.ref bm) ∧ bm ≠ builtinsNs ∧ hp.get? bm = some ob ∧ ob.cls = .type "module" ∧ ob.dict = some builtinsNs ∧ ob.data = .plain
  seer : hp.NoSeer
  lim : hp.NoLimit
  ok : HeadOk H

section
variable {H : Frag} {mg mb : Str → Option Value} {hp : Heap}
noncomputable def mkBse (prog : Program) (w : World) (Z : Start H mg mb hp) : Bse where
  prog := prog
  w := w
  B := baseF H hp
  T := tabF
  mg := mg
  mb := mb
  glob := by
    obtain ⟨o, xs, ep, e, d, k, f⟩ := Z.g
    exact ⟨o, xs, ep, baseF_some Z.X Z.ok.low.1 e, d, k, f⟩
  blt := by
    obtain ⟨o, xs, ep, e, d, k, f⟩ := Z.b
    exact ⟨o, xs, ep, baseF_low Z.ok.none_.1 (.inl rfl) e, d, k, f⟩
  sysm := by
    obtain ⟨mm, ⟨o, xs, ep, e, _⟩, _⟩ := Z.seer.mods
    exact ⟨o, baseF_low Z.ok.none_.2.1 (.inr (.inl rfl)) e⟩
  stat := by
    obtain ⟨mc, ⟨o, xs, ep, e, d, k, f⟩, hn⟩ := Z.lim
    exact ⟨o, xs, ep, baseF_some Z.X Z.ok.low.2.1 e, d, k, (f _).trans hn⟩

theorem bse_code {prog w} (Z : Start H mg mb hp) {c P : Addr} (hc : (H.lookup c).isSome = true) (x : CodeHd hp c P) : CodeB (mkBse prog w Z) c P := by
  obtain ⟨o, vs, file, tf, flags, tg, inF, text, tt, e, r⟩ := x
  exact ⟨o, vs, file, tf, flags, tg, inF, text, tt, baseF_some Z.X hc e, r⟩

theorem bse_ok {prog w} (Z : Start H mg mb hp) : OkK (mkBse prog w Z) := by
  have O := Z.ok
  have sub : ∀ a o, H.lookup a = some o → (mkBse prog w Z).B a = some o := fun a o e => baseF_of e
  have t0 := Z.tabs (152, 148) (List.mem_cons_self ..)
  have t1 := Z.tabs (159, 155) (List.mem_cons_of_mem _ (List.mem_cons_self ..))
  exact {
    mg := fun x v e => mg_of Z.X Z.g (beq_iff_eq.mp (List.all_eq_true.mp O.mg (x, v) (mem_of_lookup e)))
    mb := fun x v e => ⟨mg_none_of Z.X Z.g (beq_iff_eq.mp (List.all_eq_true.mp O.nb (x, v) (mem_of_lookup e))), by
      have h1 := beq_iff_eq.mp (List.all_eq_true.mp boots (x, v) (mem_of_lookup e))
      refine (Z.boot x ?_).trans h1
      rintro rfl
      have : List.lookup ("__name__" : Str) mbT = none := by decide +kernel
      rw [this] at e; cases e⟩
    f2 := ⟨29, _, O.f2.ok sub (by kernel_rfl) rfl rfl ⟨rfl, rfl⟩ (by kernel_rfl) (by kernel_rfl) (by kernel_rfl)⟩
    dft := sub _ _ O.dft
    emp := sub _ _ O.emp
    f3 := ⟨36, _, O.f3.ok sub (by kernel_rfl) rfl rfl ⟨rfl, rfl⟩ (by kernel_rfl) (by kernel_rfl) (by kernel_rfl)⟩
    f6 := ⟨44, _, O.f6.ok sub (by kernel_rfl) rfl rfl ⟨rfl, rfl⟩ (by kernel_rfl) (by kernel_rfl) (by kernel_rfl)⟩
    f8 := ⟨51, _, O.f8.ok sub (by kernel_rfl) rfl rfl ⟨rfl, rfl⟩ (by kernel_rfl) (by kernel_rfl) (by kernel_rfl)⟩
    f9 := ⟨58, _, O.f9.ok sub (by kernel_rfl) rfl rfl ⟨rfl, rfl⟩ (by kernel_rfl) (by kernel_rfl) (by kernel_rfl)⟩
    f10 := ⟨65, _, O.f10.ok sub (by kernel_rfl) rfl rfl ⟨rfl, rfl⟩ (by kernel_rfl) (by kernel_rfl) (by kernel_rfl)⟩
    f11 := ⟨72, _, O.f11.ok sub (by kernel_rfl) rfl rfl ⟨rfl, rfl⟩ (by kernel_rfl) (by kernel_rfl) (by kernel_rfl)⟩
    f12 := ⟨79, _, O.f12.ok sub (by kernel_rfl) rfl rfl ⟨rfl, rfl⟩ (by kernel_rfl) (by kernel_rfl) (by kernel_rfl)⟩
    f16 := ⟨152, _, 148, O.f16.ok sub (by kernel_rfl) rfl rfl ⟨rfl, rfl⟩ (by kernel_rfl) (by kernel_rfl) (by kernel_rfl), bse_code Z O.low.2.2.1 t0.1, rfl⟩
    f17 := ⟨159, _, 155, O.f17.ok sub (by kernel_rfl) rfl rfl ⟨rfl, rfl⟩ (by kernel_rfl) (by kernel_rfl) (by kernel_rfl), bse_code Z O.low.2.2.2 t1.1, rfl⟩
    f18 := ⟨166, _, O.f18.ok sub (by kernel_rfl) rfl rfl ⟨rfl, rfl⟩ (by kernel_rfl) (by kernel_rfl) (by kernel_rfl)⟩
    f19 := ⟨173, _, O.f19.ok sub (by kernel_rfl) rfl rfl ⟨rfl, rfl⟩ (by kernel_rfl) (by kernel_rfl) (by kernel_rfl)⟩
    f20 := ⟨180, _, O.f20.ok sub (by kernel_rfl) rfl rfl ⟨rfl, rfl⟩ (by kernel_rfl) (by kernel_rfl) (by kernel_rfl)⟩
    f21 := ⟨187, _, O.f21.ok sub (by kernel_rfl) rfl rfl ⟨rfl, rfl⟩ (by kernel_rfl) (by kernel_rfl) (by kernel_rfl)⟩
    f22 := ⟨192, _, O.f22.ok sub (by kernel_rfl) rfl rfl ⟨rfl, rfl⟩ (by kernel_rfl) (by kernel_rfl) (by kernel_rfl)⟩
    f23 := ⟨197, _, O.f23.ok sub (by kernel_rfl) rfl rfl ⟨rfl, rfl⟩ (by kernel_rfl) (by kernel_rfl) (by kernel_rfl)⟩
    blt := by
      obtain ⟨bm, ob, e1, e2, e3, e4, e5, e6⟩ := Z.bm
      have h4 := mg_of Z.X Z.g O.blt
      rw [e1] at h4; cases h4
      exact ⟨4, ob, e1, e2, by decide, baseF_low O.none_.2.2.1 (.inr (.inr rfl)) e3, e4, e5, e6⟩ }

theorem bse_ws {prog w} (Z : Start H mg mb hp) : ∃ tS tT, WsK (mkBse prog w Z) H 97 111 118 (.type "type") tS tT := by
  have O := Z.ok
  have sub : ∀ a o, H.lookup a = some o → (mkBse prog w Z).B a = some o := fun a o e => baseF_of e
  have hS := O.S
  have hT := O.T
  obtain ⟨bs, sn, sb, ab, col, dd, k0, k1, k2, k3, k5, newId, hcls⟩ := O.cls
  exact ⟨_, _, {
    X := ⟨sub, O.makes, O.init, O.initT, ⟨bs, sn, sb, ab, col, dd, k0, k1, k2, k3, k5, newId, sub _ _ hcls⟩, ClsNo.three O.ns sub (by simp) (by simp) (by simp)⟩
    init := ⟨96, _, O.m1.ok sub (by kernel_rfl) rfl rfl ⟨rfl, rfl⟩ (by kernel_rfl) (by kernel_rfl) (by kernel_rfl)⟩
    lev := ⟨110, _, O.m3.ok sub (by kernel_rfl) rfl rfl ⟨rfl, rfl⟩ (by kernel_rfl) (by kernel_rfl) (by kernel_rfl)⟩
    eq := ⟨117, _, O.m4.ok sub (by kernel_rfl) rfl rfl ⟨rfl, rfl⟩ (by kernel_rfl) (by kernel_rfl) (by kernel_rfl)⟩
    cL := ClsFn.of O.cI O.t111 sub
    cE := ClsFn.of O.cE O.t118 sub
    rd := O.rd
    S := hS
    T := hT
    no := fun x hx => ClsNo.of O.ns sub (by simp only [List.mem_cons, List.not_mem_nil, or_false] at hx ⊢; rcases hx with q | q | q | q | q <;> simp [q]) }⟩
end
end Mine
end

section
set_option maxHeartbeats 4000000
open PySem PySem.W PySem.Calls PyProof.Rows
namespace Mine
section
variable {H : Frag} {mg mb : Str → Option Value} {prog : Program} {w : World} {s₁ : Shared}

noncomputable def gho (H : Frag) (hp : Heap) (l : Addr) (ns : List Int) : Gh := fun a => match baseF H hp a with
  | some o => some (.base o)
  | none => if a = 148 then some (.loc 0) else if a = 155 then some (.loc 1) else if a = l then some (.val (.list (ns.map .int))) else none
noncomputable def hp0 : Hp := fun l => if l = 0 ∨ l = 1 then some (.tab []) else none

theorem mem_lk : ∀ {H : Frag} {a : Addr} {o : Obj}, H.lookup a = some o → (a, o) ∈ H
  | [], _, _, e => by cases e
  | (b, x) :: r, a, o, e => by
    by_cases q : a = b
    · subst q; simp only [List.lookup_cons, beq_self_eq_true] at e; cases e; exact List.mem_cons_self ..
    · have : (a == b) = false := by simpa using q
      simp only [List.lookup_cons, this] at e
      exact List.mem_cons_of_mem _ (mem_lk e)
theorem base_none {hp : Heap} (Z : Start H mg mb hp) {l : Addr} {vs : List Value} (e : hp.get? l = some { cls := .type "list", data := .seq vs.toArray }) : baseF H hp l = none := by
  unfold baseF
  split
  · rename_i o q
    have h1 := Z.X _ _ q
    rw [e] at h1; cases h1
    have h2 := List.all_eq_true.mp Z.ok.nolist _ (mem_lk q)
    simp at h2
  · rw [if_neg]
    rintro (rfl | rfl | rfl)
    · obtain ⟨o, xs, ep, h1, h2, _⟩ := Z.b
      have h1 : hp.get? 0 = some o := h1
      rw [e] at h1; cases h1; cases h2
    · obtain ⟨mm, ⟨o, xs, ep, h1, h2, _⟩, _⟩ := Z.seer.mods
      have h1 : hp.get? 1 = some o := h1
      rw [e] at h1; cases h1; cases h2
    · obtain ⟨bm, ob, e1, e2, e3, e4, e5, e6⟩ := Z.bm
      have h4 := mg_of Z.X Z.g Z.ok.blt
      rw [e1] at h4; cases h4
      rw [e] at e3; cases e3; cases e6
theorem base_tab {hp : Heap} (Z : Start H mg mb hp) : baseF H hp 148 = none ∧ baseF H hp 155 = none := by
  obtain ⟨_, _, _, h1, h2⟩ := Z.ok.none_
  unfold baseF
  rw [h1, h2]
  exact ⟨if_neg (by decide), if_neg (by decide)⟩
theorem gho_base {hp : Heap} {l : Addr} {ns : List Int} {a : Addr} {o : Obj} (e : baseF H hp a = some o) : gho H hp l ns a = some (.base o) := by unfold gho; rw [e]
theorem gho_cases {hp : Heap} {l : Addr} {ns : List Int} {a : Addr} {g : GC} (e : gho H hp l ns a = some g) : (∃ o, baseF H hp a = some o ∧ g = .base o) ∨ (a = 148 ∧ g = .loc 0) ∨ (a = 155 ∧ g = .loc 1) ∨ (a = l ∧ g = .val (.list (ns.map .int))) := by
  unfold gho at e
  split at e
  · rename_i o q; cases e; exact .inl ⟨o, q, rfl⟩
  · split at e
    · cases e; exact .inr (.inl ⟨‹_›, rfl⟩)
    · split at e
      · cases e; exact .inr (.inr (.inl ⟨‹_›, rfl⟩))
      · split at e
        · cases e; exact .inr (.inr (.inr ⟨‹_›, rfl⟩))
        · cases e

theorem start_pre (Z : Start H mg mb s₁.heap) {l : Addr} {vs : List Value} {ns : List Int} (hobj : s₁.heap.get? l = some { cls := .type "list", data := .seq vs.toArray }) (hI : IntsAre vs ns) : Pre (mkBse prog w Z) hp0 (gho H s₁.heap l ns) s₁.heap where
  cells a g e := by
    rcases gho_cases e with ⟨o, h1, rfl⟩ | ⟨rfl, rfl⟩ | ⟨rfl, rfl⟩ | ⟨rfl, rfl⟩
    · exact ⟨o, baseF_at Z.X h1, rfl⟩
    · exact ⟨_, (Z.tabs (152, 148) (List.mem_cons_self ..)).2, #[], rfl, trivial⟩
    · exact ⟨_, (Z.tabs (159, 155) (List.mem_cons_of_mem _ (List.mem_cons_self ..))).2, #[], rfl, trivial⟩
    · exact ⟨_, hobj, vs.toArray, _, rfl, of_ints hI⟩
  bound := ⟨2, fun a l' e => by
    rcases gho_cases e with ⟨o, h1, q⟩ | ⟨_, q⟩ | ⟨_, q⟩ | ⟨_, q⟩ <;> cases q <;> decide⟩
  inj a b l' e e' := by
    rcases gho_cases e with ⟨o, h1, q⟩ | ⟨r, q⟩ | ⟨r, q⟩ | ⟨_, q⟩ <;> cases q <;> rcases gho_cases e' with ⟨o, h1, q⟩ | ⟨r', q⟩ | ⟨r', q⟩ | ⟨_, q⟩ <;> cases q
    · exact r.trans r'.symm
    · exact r.trans r'.symm
  live l' o e := by
    obtain ⟨b1, b2⟩ := base_tab Z
    unfold hp0 at e
    split at e
    · rename_i q
      rcases q with rfl | rfl
      · exact ⟨148, by unfold gho; rw [b1]; rfl⟩
      · exact ⟨155, by unfold gho; rw [b2]; rfl⟩
    · cases e
  base a o e := gho_base e
  tabs a l' e := by
    obtain ⟨b1, b2⟩ := base_tab Z
    have e : tabF a = some l' := e
    unfold tabF at e
    split at e
    · rename_i q; subst q; cases e; unfold gho; rw [b1]; rfl
    · split at e
      · rename_i q; subst q; cases e; unfold gho; rw [b2]; rfl
      · cases e

theorem okA_caller : OkA 20 callerA := ⟨rfl, by decide +kernel, by decide +kernel⟩

theorem finish (Z : Start H mg mb s₁.heap) {l : Addr} {vs : List Value} {ns : List Int} (hobj : s₁.heap.get? l = some { cls := .type "list", data := .seq vs.toArray }) (hI : IntsAre vs ns) (hlen : ns.length ≤ 63) (hg : s₁.gens = #[])
    {cw : ClaimW} {cl : Str → Option Addr} {mean : ExcName → Option Value} {args : List WData} (hr : ∀ x, cw.raises args x = false) (hpost : cw.post args (.bool true) args = true) :
    wpAny (model prog w) callerA (call (.ref 203) [.ref l]) (fun v s' => GoodWG cw cl mean args s₁ (.ok (.ret v)) s') (fun e s' => GoodWG cw cl mean args s₁ (.error e) s') s₁ := by
  have R := start_pre (prog := prog) (w := w) Z hobj hI
  have hK := bse_ok (prog := prog) (w := w) Z
  obtain ⟨tS, tT, W⟩ := bse_ws (prog := prog) (w := w) Z
  have sub : ∀ a o, H.lookup a = some o → (mkBse prog w Z).B a = some o := fun a o e => baseF_of e
  have hD : DictI (mkBse prog w Z) 38 fun k => List.lookup k flagT := flag_dict (sub _ _ Z.ok.flg)
  have F24 : FnOk (mkBse prog w Z) 203 (fdI 24 202 .none (pmOf H 203)) (bodyI 24) := Z.ok.f24.ok sub (by kernel_rfl) rfl rfl ⟨rfl, rfl⟩ (by kernel_rfl) (by kernel_rfl) (by kernel_rfl)
  have hl : gho H s₁.heap l ns l = some (.val (.list (ns.map .int))) := by
    unfold gho
    rw [base_none Z hobj]
    have n1 : l ≠ 148 := fun q => by rw [q, (Z.tabs (152, 148) (List.mem_cons_self ..)).2] at hobj; cases hobj
    have n2 : l ≠ 155 := fun q => by rw [q, (Z.tabs (159, 155) (List.mem_cons_of_mem _ (List.mem_cons_self ..))).2] at hobj; cases hobj
    simp only [if_neg n1, if_neg n2, if_true]
  have t0 : TQ hp0 0 qPile := ⟨[], rfl, fun _ w => nomatch w⟩
  have t1 : TQ hp0 1 qTab := ⟨[], rfl, fun _ w => nomatch w⟩
  have main := call_top (d := 0) (s := s₁) (A := callerA) (n := "script") (Q := fun v h' => v = .bool true ∧ TQ h' 0 qPile ∧ TQ h' 1 qTab) F24 (by kernel_rfl) (by kernel_rfl) (okA_caller.mono (by decide)) R (u := .ref l) (a := .list (ns.map .int)) ⟨l, rfl, hl⟩
    fun L => pro1 hK W Z.ok.keep hD hlen t0 t1 fun h' q0 q1 => ⟨rfl, q0, q1⟩
  refine wpAny_mono main (fun v s' ⟨G', av, h', c, st, R', hv, q, q0, q1⟩ => ?_) fun _ _ z => z.elim
  subst q
  cases hv
  refine ⟨.inl ⟨_, .bool true, [], rfl, hr, .bool true, hpost, unshared_nil⟩, ?_, st.os, .of_eq (st.gens.trans hg)⟩
  have grown : ∀ (c P : Addr) (k : Nat) (qn : Str), (c, P) ∈ [(152, 148), (159, 155)] → gho H s₁.heap l ns P = some (.loc k) → TQ h' k qn → ∀ o, s₁.heap.get? P = some o → isCodeTable s₁.heap P ∧ o = tabObj #[] ∧ ∃ ps, s'.heap.get? P = some (tabObj ps) := by
    intro c P k qn hm hk tq o e
    have e2 := (Z.tabs (c, P) hm).2
    rw [e] at e2
    refine ⟨((Z.tabs (c, P) hm).1.tab (Z.tabs (c, P) hm).2).isCodeTable, Option.some.inj e2, ?_⟩
    obtain ⟨es, w1, _⟩ := tq
    obtain ⟨o', ho', hs⟩ := R'.cells _ _ (st.grow _ _ hk)
    have hs : OL (mkBse prog w Z) G' o' (.tab es) := by
      have : (match h' k with | none => True | some ao => OL (mkBse prog w Z) G' o' ao) := hs
      rw [w1] at this; exact this
    obtain ⟨ps, rfl, _⟩ := hs
    exact ⟨ps, ho'⟩
  have key : ∀ b o, s₁.heap.get? b = some o → s'.heap.get? b = some o ∨ (isCodeTable s₁.heap b ∧ o = tabObj #[] ∧ ∃ ps, s'.heap.get? b = some (tabObj ps)) := by
    intro b o e
    cases hb : gho H s₁.heap l ns b with
    | none => exact .inl (st.keep b o hb (fun w => nomatch w) e)
    | some g =>
      rcases gho_cases hb with ⟨o', h1, rfl⟩ | ⟨rfl, rfl⟩ | ⟨rfl, rfl⟩ | ⟨rfl, rfl⟩
      · have h2 := baseF_at Z.X h1
        rw [e] at h2; cases h2
        obtain ⟨o2, ho2, hs⟩ := R'.cells _ _ (st.grow _ _ hb)
        cases hs
        exact .inl ho2
      · exact .inr (grown 152 148 0 _ (List.mem_cons_self ..) hb q0 o e)
      · exact .inr (grown 159 155 1 _ (List.mem_cons_of_mem _ (List.mem_cons_self ..)) hb q1 o e)
      · exact .inl (st.keepV b _ o hb e)
  refine ⟨fun b o e => ?_, fun b o e => ?_⟩
  · rcases key b o e with h1 | ⟨h1, rfl, ps, h3⟩
    · exact .inl h1
    · exact .inr (.inl ⟨h1, rfl, #[], ps, rfl, by rw [Array.empty_append]; exact h3⟩)
  · rcases key b o e with h1 | ⟨_, _, ps, h3⟩
    · exact ⟨_, h1⟩
    · exact ⟨_, h3⟩
end
end Mine
end

section
set_option maxHeartbeats 8000000
set_option Elab.async true
open PySem PySem.W PySem.Calls PyProof.Rows
namespace Mine
theorem list_obj {P : Params} {h : Heap} {l : Addr} {ns : List Int} {vs : List Value} (hw : Well P h (.ref l) (ofPy (PyData.list (ns.map PyData.int)))) (hL : h.IsList l vs.toArray) : h.get? l = some { cls := .type "list", data := .seq vs.toArray } := by
  have e : ∃ xs, ofPy (PyData.list (ns.map PyData.int)) = .list xs := ⟨_, rfl⟩
  obtain ⟨xs, e⟩ := e
  rw [e] at hw
  cases hw with
  | list h1 h2 =>
    obtain ⟨o, ho, hc, n, hd⟩ := hL
    rw [h1] at ho; cases ho; cases hd
    exact h1
end Mine
namespace Mine.main
noncomputable def tw11156056980113079860 : Nat := 0
noncomputable def tw6938871243365370881 : Nat := 0
noncomputable def tw3607301531067658059 : Nat := 0
noncomputable def tw16826212616301561204 : Nat := 0
noncomputable def tw1444470235128671497 : Nat := 0
noncomputable def tw8455678357921022618 : Nat := 0
noncomputable def tw1678875084529416142 : Nat := 0
noncomputable def tw9656510801202774680 : Nat := 0
noncomputable def tw8465960824934942068 : Nat := 0
noncomputable def tw11461230924637031220 : Nat := 0
noncomputable def tw4026956272090484662 : Nat := 0
noncomputable def tw16798622893749714585 : Nat := 0
noncomputable def tw13350764725976880583 : Nat := 0
noncomputable def tw12431731261707249289 : Nat := 0
noncomputable def tw5127751686995613262 : Nat := 0
noncomputable def tw6910295442248876197 : Nat := 0
noncomputable def tw16656740534632174751 : Nat := 0
noncomputable def tw5401703158475992631 : Nat := 0
noncomputable def tw11752208632293872130 : Nat := 0
noncomputable def tw826715711578717668 : Nat := 0
noncomputable def tw16452447596832230105 : Nat := 0
noncomputable def tw1099256609624015869 : Nat := 0
noncomputable def tw2852251193174398662 : Nat := 0
noncomputable def tw15803610866087392283 : Nat := 0
noncomputable def tw1545906260438175962 : Nat := 0
noncomputable def tw6801380410627298636 : Nat := 0
noncomputable def tw9848185148710128376 : Nat := 0
noncomputable def tw6334894449686545209 : Nat := 0
noncomputable def tw7308723440029596264 : Nat := 0
noncomputable def tw4544244032028310869 : Nat := 0
noncomputable def tw9498315638749924794 : Nat := 0
noncomputable def tw1277820614484962519 : Nat := 0
noncomputable def tw10363585996791799541 : Nat := 0
noncomputable def tw14722489848711283861 : Nat := 0
noncomputable def tw12872379398031375081 : Nat := 0
noncomputable def tw4324958949535026087 : Nat := 0
noncomputable def tw1822916474148579089 : Nat := 0
noncomputable def tw8652556701797213591 : Nat := 0
noncomputable def tw10047389527955405517 : Nat := 0
noncomputable def tw16922381011570985944 : Nat := 0
noncomputable def tw3045742163950154196 : Nat := 0
noncomputable def tw14771111431291430275 : Nat := 0
noncomputable def tw3626430660855392483 : Nat := 0
noncomputable def tw6785657489111691699 : Nat := 0
noncomputable def tw11710404883906591787 : Nat := 0
noncomputable def tw3343439749351644125 : Nat := 0
noncomputable def tw9670510015898674028 : Nat := 0
noncomputable def tw10609540516017602915 : Nat := 0
noncomputable def tw16008252555379753968 : Nat := 0
noncomputable def tw1777545030009416734 : Nat := 0
noncomputable def tw9925469786538053656 : Nat := 0
noncomputable def tw10234815189450012239 : Nat := 0
noncomputable def tw15806524323241146399 : Nat := 0
noncomputable def tw11554813239044494598 : Nat := 0
noncomputable def tw33456957511925785 : Nat := 0
noncomputable def tw16102231251864390963 : Nat := 0
noncomputable def tw7698036289167662538 : Nat := 0
noncomputable def tw6541472054586571296 : Nat := 0
noncomputable def tw2287757881348798766 : Nat := 0
noncomputable def tw4452170602077327944 : Nat := 0
noncomputable def tw4500915450034043215 : Nat := 0
noncomputable def tw9840939614602229412 : Nat := 0
noncomputable def tw7221758910455160077 : Nat := 0
noncomputable def tw10177057350305019805 : Nat := 0
noncomputable def tw15624239662980076321 : Nat := 0
noncomputable def tw14793117695081215449 : Nat := 0
noncomputable def tw2724176850512262202 : Nat := 0
noncomputable def tw3299218664060906527 : Nat := 0
noncomputable def tw7699798408344515789 : Nat := 0
noncomputable def tw16251939892948500945 : Nat := 0
noncomputable def tw6044114016751833949 : Nat := 0
noncomputable def tw14672674291997333471 : Nat := 0
noncomputable def tw5396188567872606041 : Nat := 0
noncomputable def tw11982392923317675503 : Nat := 0
noncomputable def tw17292155258170135553 : Nat := 0
noncomputable def tw16832360635688203351 : Nat := 0
noncomputable def tw18218335207050127959 : Nat := 0
noncomputable def tw11815829001073249272 : Nat := 0
noncomputable def tw6112859857366181021 : Nat := 0
noncomputable def tw7235775444256392728 : Nat := 0
noncomputable def tw17052023290607921161 : Nat := 0
noncomputable def tw302440914744352476 : Nat := 0
noncomputable def tw8466321980469482115 : Nat := 0
noncomputable def tw10450603732522932521 : Nat := 0
noncomputable def tw4775608329324902142 : Nat := 0
noncomputable def tw9376575566392132001 : Nat := 0
noncomputable def tw2538046985915079169 : Nat := 0
noncomputable def tw2019394398466159022 : Nat := 0
noncomputable def tw12361340156312767134 : Nat := 0
noncomputable def tw16193401482309157537 : Nat := 0
noncomputable def tw9976160756891316704 : Nat := 0
noncomputable def tw18134284020713443437 : Nat := 0
noncomputable def tw11646826074482590764 : Nat := 0
noncomputable def tw9272984997812220495 : Nat := 0
noncomputable def tw17118054049896295152 : Nat := 0
noncomputable def tw9069182735580402390 : Nat := 0
noncomputable def tw9268297945177815525 : Nat := 0
noncomputable def tw8729708805864041840 : Nat := 0
noncomputable def tw2496676261509829067 : Nat := 0
noncomputable def tw15465920861327815835 : Nat := 0
noncomputable def tw4039676971129161736 : Nat := 0
noncomputable def tw1157997071576566072 : Nat := 0
noncomputable def tw4261964983698606537 : Nat := 0
noncomputable def tw13402765919934010277 : Nat := 0
noncomputable def tw8440099810896429113 : Nat := 0
noncomputable def tw15270170921892066516 : Nat := 0
noncomputable def tw3848698983108048278 : Nat := 0
noncomputable def tw13777938177461255882 : Nat := 0
noncomputable def tw11729630521733628537 : Nat := 0
noncomputable def tw2906824675625879941 : Nat := 0
noncomputable def tw10298723112805639129 : Nat := 0
noncomputable def tw5665735395497279834 : Nat := 0
noncomputable def tw1439166485080882 : Nat := 0
noncomputable def tw14268429742659746991 : Nat := 0
noncomputable def tw14907226015203709474 : Nat := 0
noncomputable def tw17974016328880235120 : Nat := 0
noncomputable def tw5203219222101121401 : Nat := 0
noncomputable def tw7761410557224570781 : Nat := 0
noncomputable def tw2406621943657119228 : Nat := 0
noncomputable def tw6162249291895867263 : Nat := 0
noncomputable def tw16778611742570070204 : Nat := 0
noncomputable def tw4990475226369331113 : Nat := 0
noncomputable def tw5436791530062809996 : Nat := 0
noncomputable def tw1504049600530537962 : Nat := 0
noncomputable def tw66260789543402106 : Nat := 0
noncomputable def tw4900431672193113347 : Nat := 0
noncomputable def tw18315214858253571532 : Nat := 0
noncomputable def tw6511744376749373798 : Nat := 0
noncomputable def tw104360540948158410 : Nat := 0
noncomputable def tw12077450504624328385 : Nat := 0
noncomputable def tw9302470337196694018 : Nat := 0
noncomputable def tw5139629822343419033 : Nat := 0
noncomputable def tw11101190512080308003 : Nat := 0
noncomputable def tw8228058824784995430 : Nat := 0
noncomputable def tw10876375607700338302 : Nat := 0
noncomputable def tw6696893160125735727 : Nat := 0
noncomputable def tw12518504611687188807 : Nat := 0
end Mine.main
theorem Mine.main : PySem.Challenge.rw_xc0027_01.Holds := by
  w_on; o_law; k_head; (case hw => w_witness2)
  k_fill
  intro w s₀ s₁ mg mb G Y fa o pm cd doc dV kV ho hd hcd hD hmg hg args vals as hpre hlay hrd hwl hlo
  have KX := km_in_of Y
  km_tabs Y
  refine Ground.open G ?_
  intro T B D TE TW
  km_lay T hmg ho hd cd
  have Z : Mine.Start _ mg mb s₁.heap := {
    X := KX
    tabs := hT9
    g := T.g
    b := T.b
    boot := T.builtins
    bm := T.bmain
    seer := T.seer (by kernel_rfl)
    lim := T.nolimit
    ok := {
      mg := by kernel_rfl
      nb := by kernel_rfl
      law := by kernel_rfl
      blt := by kernel_rfl
      f2 := ⟨by kernel_rfl, by kernel_rfl⟩
      f3 := ⟨by kernel_rfl, by kernel_rfl⟩
      f6 := ⟨by kernel_rfl, by kernel_rfl⟩
      f8 := ⟨by kernel_rfl, by kernel_rfl⟩
      f9 := ⟨by kernel_rfl, by kernel_rfl⟩
      f10 := ⟨by kernel_rfl, by kernel_rfl⟩
      f11 := ⟨by kernel_rfl, by kernel_rfl⟩
      f12 := ⟨by kernel_rfl, by kernel_rfl⟩
      f16 := ⟨by kernel_rfl, by kernel_rfl⟩
      f17 := ⟨by kernel_rfl, by kernel_rfl⟩
      f18 := ⟨by kernel_rfl, by kernel_rfl⟩
      f19 := ⟨by kernel_rfl, by kernel_rfl⟩
      f20 := ⟨by kernel_rfl, by kernel_rfl⟩
      f21 := ⟨by kernel_rfl, by kernel_rfl⟩
      f22 := ⟨by kernel_rfl, by kernel_rfl⟩
      f23 := ⟨by kernel_rfl, by kernel_rfl⟩
      f24 := ⟨by kernel_rfl, by kernel_rfl⟩
      m1 := ⟨by kernel_rfl, by kernel_rfl⟩
      m3 := ⟨by kernel_rfl, by kernel_rfl⟩
      m4 := ⟨by kernel_rfl, by kernel_rfl⟩
      dft := by kernel_rfl
      emp := by kernel_rfl
      flg := by kernel_rfl
      ns := by kernel_rfl
      cI := by kernel_rfl
      cE := by kernel_rfl
      t111 := by kernel_rfl
      t118 := by kernel_rfl
      makes := by kernel_rfl
      init := by kernel_rfl
      initT := by kernel_rfl
      cls := ⟨_, _, _, _, _, _, _, _, _, _, _, _, rfl⟩
      rd := by kernel_rfl
      S := by kernel_rfl
      T := by kernel_rfl
      keep := by kernel_rfl
      nolist := by kernel_rfl
      low := ⟨by kernel_rfl, by kernel_rfl, by kernel_rfl, by kernel_rfl⟩
      none_ := ⟨by kernel_rfl, by kernel_rfl, by kernel_rfl, by kernel_rfl, by kernel_rfl⟩ } }
  have hfa : fa = 203 := by
    have e1 := mg_of KX T.g Z.ok.law
    have e2 : mg "law" = some (.ref fa) := hmg
    rw [e1] at e2; cases e2; rfl
  subst hfa
  clear hd hcd hD hmg ho
  wrow_args hpre hlay hrd hwl hlo
  exact Mine.finish Z (Mine.list_obj (by assumption) (by assumption)) (by assumption) (by omega) hg (fun _ => rfl) (by kernel_rfl)
end

theorem PySem.Challenge.cw_xc0027_01_holds : PySem.Challenge.rw_xc0027_01.Holds :=
  Mine.main
