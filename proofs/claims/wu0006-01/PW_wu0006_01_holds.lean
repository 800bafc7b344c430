import PyProof.Rows.All
import Wide.All
import OpenK.AllK
import Wide.FinOn
import Lean
import PySem.Challenge.RW_wu0006_01
set_option Elab.async false
set_option maxRecDepth 100000
section
open PySem PySem.Calls PyProof.Rows
namespace Mine

/-! ## ghost heaps -/
noncomputable abbrev Ghost := Addr → Option Obj
noncomputable def GSub (g : Ghost) (h : Heap) : Prop := ∀ b o, g b = some o → h.get? b = some o
noncomputable def Kp (h h' : Heap) : Prop := ∀ b o, h.get? b = some o → h'.get? b = some o
theorem Kp.refl (h : Heap) : Kp h h := fun _ _ e => e
theorem Kp.trans {h₁ h₂ h₃ : Heap} (a : Kp h₁ h₂) (b : Kp h₂ h₃) : Kp h₁ h₃ := fun x o e => b x o (a x o e)
noncomputable def GLe (g g' : Ghost) : Prop := ∀ b o, g b = some o → g' b = some o
theorem GLe.refl (g : Ghost) : GLe g g := fun _ _ e => e
theorem GLe.trans {g₁ g₂ g₃ : Ghost} (a : GLe g₁ g₂) (b : GLe g₂ g₃) : GLe g₁ g₃ := fun x o e => b x o (a x o e)

structure Grow (g : Ghost) (h : Heap) (g' : Ghost) (h' : Heap) : Prop where
  kp : Kp h h'
  le : GLe g g'
  sub : GSub g' h'
  new : ∀ b o, g' b = some o → g b = some o ∨ h.get? b = none
theorem Grow.refl {g : Ghost} {h : Heap} (hs : GSub g h) : Grow g h g h := ⟨Kp.refl h, GLe.refl g, hs, fun _ _ e => .inl e⟩
theorem Kp.none {h h' : Heap} (k : Kp h h') {b : Addr} (e : h'.get? b = none) : h.get? b = none := by
  cases q : h.get? b with
  | none => rfl
  | some o => rw [k b o q] at e; (first | obtain rfl := Option.some.inj e | cases e)
theorem Grow.trans {g₁ g₂ g₃ : Ghost} {h₁ h₂ h₃ : Heap} (a : Grow g₁ h₁ g₂ h₂) (b : Grow g₂ h₂ g₃ h₃) : Grow g₁ h₁ g₃ h₃ :=
  ⟨a.kp.trans b.kp, a.le.trans b.le, b.sub, fun x o e => (b.new x o e).elim (a.new x o) fun e' => .inr (a.kp.none e')⟩
theorem Grow.off {g g' : Ghost} {h h' : Heap} (G : Grow g h g' h') {b : Addr} {o : Obj} (e : h.get? b = some o) (n : g b = none) : g' b = none := by
  cases q : g' b with
  | none => rfl
  | some o' =>
    rcases G.new b o' q with r | r
    · rw [n] at r; (first | obtain rfl := Option.some.inj r | cases r)
    · rw [e] at r; (first | obtain rfl := Option.some.inj r | cases r)
noncomputable def gAdd (g : Ghost) (a : Addr) (o : Obj) : Ghost := fun b => if b = a then some o else g b
theorem gAdd_self (g : Ghost) (a : Addr) (o : Obj) : gAdd g a o a = some o := if_pos rfl
theorem get_size (h : Heap) : h.get? h.objs.size = none := by
  cases q : h.get? h.objs.size with
  | none => rfl
  | some o => exact absurd (Heap.lt_size q) (Nat.lt_irrefl _)
theorem GSub.off {g : Ghost} {h : Heap} (hs : GSub g h) {b : Addr} (e : h.get? b = none) : g b = none := by
  cases q : g b with
  | none => rfl
  | some o => rw [hs b o q] at e; (first | obtain rfl := Option.some.inj e | cases e)
theorem Grow.alloc {g : Ghost} {h : Heap} (hs : GSub g h) {o : Obj} (hf : o.isFreed = false) : Grow g h (gAdd g h.objs.size o) (h.push o) := by
  refine ⟨fun b x e => Heap.get?_push_of_some _ e, fun b x e => ?_, fun b x e => ?_, fun b x e => ?_⟩
  · unfold gAdd
    rw [if_neg]; · exact e
    rintro rfl
    rw [hs.off (get_size h)] at e; (first | obtain rfl := Option.some.inj e | cases e)
  · unfold gAdd at e
    split at e
    · rename_i q; (first | obtain rfl := Option.some.inj e | cases e); subst q; exact Heap.get?_push_size _ hf
    · exact Heap.get?_push_of_some _ (hs b x e)
  · unfold gAdd at e
    split at e
    · rename_i q; subst q; exact .inr (get_size h)
    · exact .inl e
theorem Grow.hidden {g : Ghost} {h : Heap} (hs : GSub g h) (o : Obj) : Grow g h g (h.push o) :=
  ⟨fun b x e => Heap.get?_push_of_some _ e, GLe.refl g, fun b x e => Heap.get?_push_of_some _ (hs b x e), fun b x e => .inl e⟩

/-! ## pure values -/
inductive PV where
  | none | bool (b : Bool) | int (i : Int) | flt (w : UInt64) | str (s : Str) | byt (b : Array UInt8) | typ (n : String)
  | lst (l : List PV) | tup (l : List PV) | scr (l : List PV)
  deriving Inhabited

noncomputable abbrev lobj (its : List Value) (n : Nat) : Obj := { cls := .type "list", data := .seq its.toArray n }
noncomputable abbrev tobj (its : List Value) (n : Nat) : Obj := { cls := .type "tuple", data := .seq its.toArray n }
mutual
inductive Rep (g : Ghost) : Value → PV → Prop
  | none : Rep g .none .none
  | bool (b) : Rep g (.bool b) (.bool b)
  | int (i t) : Rep g (.int i t) (.int i)
  | flt (w t) : Rep g (.float w t) (.flt w)
  | str (s t) : Rep g (.str s t) (.str s)
  | byt (b t) : Rep g (.bytes b t) (.byt b)
  | typ (n) : Rep g (.type n) (.typ n)
  | lst (a : Addr) (its : List Value) (n : Nat) (l : List PV) (ho : g a = some (lobj its n)) (hr : Reps g its l) : Rep g (.ref a) (.lst l)
  | tup (a : Addr) (its : List Value) (n : Nat) (l : List PV) (ho : g a = some (tobj its n)) (hr : Reps g its l) : Rep g (.ref a) (.tup l)
  | scr (a : Addr) (o : Obj) (its : List Value) (n : Nat) (l : List PV) (ho : g a = some o) (hc : o.cls = .type "list") (hd : o.data = .seq its.toArray n) (hr : Reps g its l) : Rep g (.ref a) (.scr l)
inductive Reps (g : Ghost) : List Value → List PV → Prop
  | nil : Reps g [] []
  | cons {v p vs ps} (h : Rep g v p) (hs : Reps g vs ps) : Reps g (v :: vs) (p :: ps)
end
noncomputable def RepInv (g : Ghost) (v : Value) : PV → Prop
  | .none => v = .none
  | .bool b => v = .bool b
  | .int i => ∃ t, v = .int i t
  | .flt w => ∃ t, v = .float w t
  | .str s => ∃ t, v = .str s t
  | .byt b => ∃ t, v = .bytes b t
  | .typ n => v = .type n
  | .lst l => ∃ a its n, v = .ref a ∧ g a = some (lobj its n) ∧ Reps g its l
  | .tup l => ∃ a its n, v = .ref a ∧ g a = some (tobj its n) ∧ Reps g its l
  | .scr l => ∃ a o its n, v = .ref a ∧ g a = some o ∧ o.cls = .type "list" ∧ o.data = .seq its.toArray n ∧ Reps g its l
theorem Rep.inv {g : Ghost} {v : Value} {p : PV} (r : Rep g v p) : RepInv g v p := by
  cases r with
  | none => exact rfl
  | bool b => exact rfl
  | int i t => exact ⟨t, rfl⟩
  | flt w t => exact ⟨t, rfl⟩
  | str s t => exact ⟨t, rfl⟩
  | byt b t => exact ⟨t, rfl⟩
  | typ n => exact rfl
  | lst a its n l ho hr => exact ⟨a, its, n, rfl, ho, hr⟩
  | tup a its n l ho hr => exact ⟨a, its, n, rfl, ho, hr⟩
  | scr a o its n l ho hc hd hr => exact ⟨a, o, its, n, rfl, ho, hc, hd, hr⟩
noncomputable def RepsInv (g : Ghost) (vs : List Value) : List PV → Prop
  | [] => vs = []
  | p :: ps => ∃ v ws, vs = v :: ws ∧ Rep g v p ∧ Reps g ws ps
theorem Reps.inv {g : Ghost} {vs : List Value} {ps : List PV} (r : Reps g vs ps) : RepsInv g vs ps := by
  cases r with
  | nil => exact rfl
  | cons h hs => exact ⟨_, _, rfl, h, hs⟩
noncomputable def RepsInv' (g : Ghost) (ps : List PV) : List Value → Prop
  | [] => ps = []
  | v :: vs => ∃ p qs, ps = p :: qs ∧ Rep g v p ∧ Reps g vs qs
theorem Reps.inv' {g : Ghost} {vs : List Value} {ps : List PV} (r : Reps g vs ps) : RepsInv' g ps vs := by
  cases r with
  | nil => exact rfl
  | cons h hs => exact ⟨_, _, rfl, h, hs⟩
theorem Rep.mono {g g' : Ghost} (hle : GLe g g') {v p} (r : Rep g v p) : Rep g' v p :=
  Rep.rec (motive_1 := fun v p _ => Rep g' v p) (motive_2 := fun vs ps _ => Reps g' vs ps) .none .bool .int .flt .str .byt .typ
    (fun a its n l ho _ ih => .lst a its n l (hle _ _ ho) ih) (fun a its n l ho _ ih => .tup a its n l (hle _ _ ho) ih) (fun a o its n l ho hc hd _ ih => .scr a o its n l (hle _ _ ho) hc hd ih) .nil (fun _ _ h hs => .cons h hs) r
/-- what holds of a row, from its first on -/
theorem Reps.ind {g : Ghost} {P : List Value → List PV → Prop} (h0 : P [] []) (h1 : ∀ v p vs ps, Rep g v p → Reps g vs ps → P vs ps → P (v :: vs) (p :: ps)) {vs ps} (r : Reps g vs ps) : P vs ps :=
  Reps.rec (motive_1 := fun _ _ _ => True) (motive_2 := fun vs ps _ => P vs ps) trivial (fun _ => trivial) (fun _ _ => trivial) (fun _ _ => trivial) (fun _ _ => trivial) (fun _ _ => trivial) (fun _ => trivial)
    (fun _ _ _ _ _ _ _ => trivial) (fun _ _ _ _ _ _ _ => trivial) (fun _ _ _ _ _ _ _ _ _ _ => trivial) h0 (fun h hs _ ih => h1 _ _ _ _ h hs ih) r
theorem Reps.mono {g g' : Ghost} (hle : GLe g g') {vs ps} (r : Reps g vs ps) : Reps g' vs ps := r.ind (P := Reps g') .nil fun _ _ _ _ h _ ih => .cons (h.mono hle) ih
theorem Reps.length {g : Ghost} {vs ps} (r : Reps g vs ps) : vs.length = ps.length := r.ind (P := fun vs ps => vs.length = ps.length) rfl fun _ _ _ _ _ _ ih => congrArg (· + 1) ih
theorem Reps.append {g : Ghost} {vs ps ws qs} (r : Reps g vs ps) (h : Reps g ws qs) : Reps g (vs ++ ws) (ps ++ qs) := r.ind (P := fun vs ps => Reps g (vs ++ ws) (ps ++ qs)) h fun _ _ _ _ a _ ih => .cons a ih
theorem Reps.both {g : Ghost} {vs ps} (r : Reps g vs ps) : ∀ i : Nat, (∃ v p, vs[i]? = some v ∧ ps[i]? = some p ∧ Rep g v p) ∨ (vs[i]? = none ∧ ps[i]? = none) :=
  r.ind (P := fun vs ps => ∀ i : Nat, (∃ v p, vs[i]? = some v ∧ ps[i]? = some p ∧ Rep g v p) ∨ (vs[i]? = none ∧ ps[i]? = none)) (fun _ => .inr ⟨rfl, rfl⟩) fun v p _ _ a _ ih i => Nat.casesOn i (.inl ⟨v, p, rfl, rfl, a⟩) ih
theorem Reps.get {g : Ghost} {vs ps} (r : Reps g vs ps) {i : Nat} {p : PV} (e : ps[i]? = some p) : ∃ v, vs[i]? = some v ∧ Rep g v p := by
  rcases r.both i with ⟨v, q, a, b, c⟩ | ⟨_, b⟩
  · rw [b] at e
    exact ⟨v, a, Option.some.inj e ▸ c⟩
  · rw [b] at e; (first | obtain rfl := Option.some.inj e | cases e)
theorem Reps.get' {g : Ghost} {vs ps} (r : Reps g vs ps) {i : Nat} {v : Value} (e : vs[i]? = some v) : ∃ p, ps[i]? = some p ∧ Rep g v p := by
  rcases r.both i with ⟨w, q, a, b, c⟩ | ⟨a, _⟩
  · rw [a] at e
    exact ⟨q, b, Option.some.inj e ▸ c⟩
  · rw [a] at e; (first | obtain rfl := Option.some.inj e | cases e)
theorem Rep.isList {g : Ghost} {v : Value} {l : List PV} (r : Rep g v (.lst l)) : ∃ a its n, v = .ref a ∧ g a = some (lobj its n) ∧ Reps g its l := r.inv
theorem Rep.isTup {g : Ghost} {v : Value} {l : List PV} (r : Rep g v (.tup l)) : ∃ a its n, v = .ref a ∧ g a = some (tobj its n) ∧ Reps g its l := r.inv
/-- nothing of the heap within -/
noncomputable def PV.sca : PV → Bool
  | .lst _ => false
  | .tup _ => false
  | .scr _ => false
  | _ => true
theorem Rep.sca {g g' : Ghost} {v : Value} {p : PV} (r : Rep g v p) (h : p.sca = true) : Rep g' v p := by
  have i := r.inv
  cases p with
  | lst | tup | scr => (first | obtain rfl := Option.some.inj h | cases h)
  | none => obtain rfl := i; exact .none
  | bool b => obtain rfl := i; exact .bool b
  | typ n => obtain rfl := i; exact .typ n
  | int x => obtain ⟨t, rfl⟩ := i; exact .int x t
  | flt x => obtain ⟨t, rfl⟩ := i; exact .flt x t
  | str x => obtain ⟨t, rfl⟩ := i; exact .str x t
  | byt x => obtain ⟨t, rfl⟩ := i; exact .byt x t
theorem Reps.of_sca {g g' : Ghost} {vs : List Value} {ps : List PV} (r : Reps g vs ps) (h : ∀ p ∈ ps, p.sca = true) : Reps g' vs ps :=
  r.ind (P := fun vs ps => (∀ p ∈ ps, p.sca = true) → Reps g' vs ps) (fun _ => .nil) (fun _ _ _ _ h _ ih e => .cons (h.sca (e _ List.mem_cons_self)) (ih fun p hp => e p (List.mem_cons_of_mem _ hp))) h
theorem isList_lobj {h : Heap} {a : Addr} {its : List Value} {n : Nat} (e : h.get? a = some (lobj its n)) : h.IsList a its.toArray := ⟨_, e, rfl, n, rfl⟩
theorem isTup_tobj {h : Heap} {a : Addr} {its : List Value} {n : Nat} (e : h.get? a = some (tobj its n)) : IsTup h a its.toArray := ⟨_, e, rfl, n, rfl⟩

/-! ## names -/
noncomputable abbrev Vars := List (Str × PV)
noncomputable def Ld (env : Env) (h : Heap) (x : Str) (v : Value) : Prop :=
  match env.kindOf x with
  | some .local => ∃ m, h.Ns env.locals m ∧ m x = some v
  | some .cell => ∃ c, env.cells.lookup x = some c ∧ h.IsCell c (some v)
  | some .free => ∃ c, env.cells.lookup x = some c ∧ h.IsCell c (some v)
  | _ => True
theorem Ld.kp {env : Env} {h h' : Heap} {x : Str} {v : Value} (k : Kp h h') (l : Ld env h x v) : Ld env h' x v := by
  unfold Ld at *
  split at l
  · obtain ⟨m, a, b⟩ := l; exact ⟨m, a.keeps k, b⟩
  · obtain ⟨c, a, b⟩ := l; exact ⟨c, a, b.keeps k⟩
  · obtain ⟨c, a, b⟩ := l; exact ⟨c, a, b.keeps k⟩
  · trivial

/-- what the top has laid: the globals' map, the builtins' map, the own defs -/
structure DefIn (mg : Str → Option Value) (h : Heap) (name : Str) (params : Arguments) (body : List Stmt) (scope : Scope) : Prop where
  at_ : ∃ f o pm cd doc, mg name = some (.ref f) ∧ h.get? f = some o ∧ o.data = .func (docDef name params body scope pm cd doc) ∧ h.CodeRec cd name
structure DefRow where
  name : Str
  params : Arguments
  body : List Stmt
  scope : Scope
structure Glo (blt : List Str) (defs : List DefRow) (h : Heap) : Prop where
  ex : ∃ mg mb, h.Ns mainGlobals mg ∧ h.Ns builtinsNs mb ∧ h.NoLimit ∧ (∀ x ∈ blt, ∀ v, bootBuiltins x = some v → mg x = none ∧ mb x = some v) ∧
    (∀ d ∈ defs, DefIn mg h d.name d.params d.body d.scope)
theorem Glo.kp {blt : List Str} {defs : List DefRow} {h h' : Heap} (k : Kp h h') (G : Glo blt defs h) : Glo blt defs h' := by
  obtain ⟨mg, mb, a, b, c, d, e⟩ := G.ex
  refine ⟨mg, mb, a.keeps k, b.keeps k, c.keeps k, d, fun r hr => ?_⟩
  obtain ⟨f, o, pm, cd, doc, e1, e2, e3, e4⟩ := (e r hr).at_
  exact ⟨f, o, pm, cd, doc, e1, k _ _ e2, e3, e4.keeps k⟩

/-- an address that is let be, and what stands there but for its slots -/
structure Exm where
  adr : Option Addr := none
  obj : Obj := { cls := .none, data := .seq #[] }
/-- the fixed part of a judgement -/
structure Cx where
  prog : Program
  w : World
  blt : List Str
  defs : List DefRow
  ex : Exm := {}
  fr : Around → Prop := fun _ => True
noncomputable abbrev Cx.M (C : Cx) : Model := model C.prog C.w

structure EH (C : Cx) (env : Env) (ρ : Vars) (g : Ghost) (h : Heap) : Prop where
  sub : GSub g h
  glo : Glo C.blt C.defs h
  vars : ∀ x p, ρ.lookup x = some p → ∃ v, Ld env h x v ∧ Rep g v p
theorem EH.grow {C : Cx} {env : Env} {ρ : Vars} {g g' : Ghost} {h h' : Heap} (G : Grow g h g' h') (X : EH C env ρ g h) : EH C env ρ g' h' :=
  ⟨G.sub, X.glo.kp G.kp, fun x p e => let ⟨v, a, b⟩ := X.vars x p e; ⟨v, a.kp G.kp, b.mono G.le⟩⟩

/-- what is around: no exception is handled, room enough -/
structure AOk (C : Cx) (d : Nat) (A : Around) : Prop where
  handled : A.handled = none
  depth : A.depth + d < recursionLimit
  units : A.units + 8 * d + 8 < cLine
  fr : C.fr A

/-- evaluating e gives p, changes nothing that is there -/
noncomputable def Ev (C : Cx) (d : Nat) (env : Env) (ρ : Vars) (e : Expr) (p : PV) : Prop :=
  ∀ A, AOk C d A → ∀ (s : Shared) (g : Ghost), EH C env ρ g s.heap → ∀ (Q : Value → Shared → Prop) (E : Value → Shared → Prop),
    (∀ v g' h' tk, Grow g s.heap g' h' → Rep g' v p → Q v { s with heap := h', toks := tk }) → wpAny C.M A (eval e env) Q E s
/-- its truth -/
noncomputable def Tr (C : Cx) (d : Nat) (env : Env) (ρ : Vars) (e : Expr) (b : Bool) : Prop :=
  ∀ A, AOk C d A → ∀ (s : Shared) (g : Ghost), EH C env ρ g s.heap → ∀ (Q : Bool → Shared → Prop) (E : Value → Shared → Prop),
    (∀ g' h' tk, Grow g s.heap g' h' → Q b { s with heap := h', toks := tk }) → wpAny C.M A (isTrue e env (eval e env)) Q E s
/-- several, one behind the other -/
noncomputable def Evs (C : Cx) (d : Nat) (env : Env) (ρ : Vars) (es : List Expr) (ps : List PV) : Prop :=
  ∀ A, AOk C d A → ∀ (s : Shared) (g : Ghost) (pos : Pos), EH C env ρ g s.heap → ∀ (Q : List Value → Shared → Prop) (E : Value → Shared → Prop),
    (∀ vs g' h' tk, Grow g s.heap g' h' → Reps g' vs ps → Q vs { s with heap := h', toks := tk }) → wpAny C.M A (spliced (backTo pos (starEach es env))) Q E s

section
variable {C : Cx} {d : Nat} {env : Env} {ρ : Vars}
theorem Evs.nil : Evs C d env ρ [] [] := fun _ _ s _ _ X _ _ hQ => wpAny_items_nil (hQ [] _ s.heap s.toks (Grow.refl X.sub) .nil)
theorem Evs.cons {e : Expr} {es : List Expr} {p : PV} {ps : List PV} (h : Ev C d env ρ e p) (hs : Evs C d env ρ es ps) (he : starEach (e :: es) env = (false, eval e env) :: starEach es env := by rfl) : Evs C d env ρ (e :: es) (p :: ps) :=
  fun A hA s g pos X Q E hQ => wpAny_items_cons (h A hA s g X _ _ fun v g' h' tk G r =>
    hs A hA _ g' pos (X.grow G) _ _ fun vs g'' h'' tk' G' rs => hQ (v :: vs) g'' h'' tk' (G.trans G') (.cons (r.mono G'.le) rs)) he

theorem Ev.none {k pos} : Ev C d env ρ (.Constant .none k pos) .none := fun _ _ s _ X _ _ hQ => wpAny_Constant_none (hQ _ _ s.heap s.toks (Grow.refl X.sub) .none)
theorem Ev.bool {b k pos} : Ev C d env ρ (.Constant (.bool b) k pos) (.bool b) := fun _ _ s _ X _ _ hQ => wpAny_Constant_bool (hQ _ _ s.heap s.toks (Grow.refl X.sub) (.bool b))
theorem Ev.int {i k pos} : Ev C d env ρ (.Constant (.int i) k pos) (.int i) := fun _ _ s _ X _ _ hQ => wpAny_Constant_int (hQ _ _ s.heap (s.toks + 1) (Grow.refl X.sub) (.int i _))
theorem Ev.str {x k pos} : Ev C d env ρ (.Constant (.str x) k pos) (.str x) := fun _ _ s _ X _ _ hQ => wpAny_Constant_str (hQ _ _ s.heap (s.toks + 1) (Grow.refl X.sub) (.str x _))
theorem Ev.flt {x k pos} : Ev C d env ρ (.Constant (.float x) k pos) (.flt x) := fun _ _ s _ X _ _ hQ => wpAny_Constant_float (hQ _ _ s.heap (s.toks + 1) (Grow.refl X.sub) (.flt x _))

theorem Ev.name {x pos p} (hv : ρ.lookup x = some p) (hk : env.scope.kind = .function) (hx : env.kindOf x = some .local ∨ env.kindOf x = some .cell ∨ env.kindOf x = some .free)
    (hd : (x == ("__debug__" : Str)) = false := by decide) (hn : (x == ("__classdict__" : Str)) = false := by decide) : Ev C d env ρ (.Name x pos) p := fun _ _ s g X _ _ hQ => by
  obtain ⟨v, l, r⟩ := X.vars x p hv
  have fin := hQ v g s.heap s.toks (Grow.refl X.sub) r
  refine wpAny_Name ?_ hd
  unfold Ld at l
  rcases hx with hx | hx | hx
  · rw [hx] at l; obtain ⟨m, a, b⟩ := l; exact wpAny_loadName_local hk hx a b fin
  · rw [hx] at l; obtain ⟨c, a, b⟩ := l; exact wpAny_loadName_cell hk hx a b fin
  · rw [hx] at l; obtain ⟨c, a, b⟩ := l; exact wpAny_loadName_free hk hx a b fin hn

/-- the operator's meaning on pure values -/
noncomputable def OpOk (C : Cx) (d : Nat) (ps : List PV) (t : List Value → Sem Value) (q : PV) : Prop :=
  ∀ A, AOk C d A → ∀ (s : Shared) (g : Ghost), GSub g s.heap → Glo C.blt C.defs s.heap → ∀ vs, Reps g vs ps → ∀ (Q : Value → Shared → Prop) (E : Value → Shared → Prop),
    (∀ v g' h' tk, Grow g s.heap g' h' → Rep g' v q → Q v { s with heap := h', toks := tk }) → wpAny C.M A (t vs) Q E s
noncomputable def bop (op : Operator) (vs : List Value) : Sem Value := match vs with | [a, b] => binaryOp op a b | _ => unsupported ""
noncomputable def cop (op : CmpOp) (vs : List Value) : Sem Value := match vs with | [a, b] => compareOp op a b | _ => unsupported ""
noncomputable def uop (op : UnaryOp) (vs : List Value) : Sem Value := match vs with | [a] => unaryOp op a | _ => unsupported ""
theorem Ev.bin {op : Operator} {l r : Expr} {pos p q t} (hl : Ev C d env ρ l p) (hr : Ev C d env ρ r q) (ho : OpOk C d [p, q] (bop op) t) : Ev C d env ρ (.BinOp l op r pos) t := fun A hA s g X Q E hQ =>
  wpAny_BinOp (hl A hA s g X _ _ fun v g' h' tk G rv => hr A hA _ g' (X.grow G) _ _ fun v' g'' h'' tk' G' rv' =>
    ho A hA _ g'' G'.sub ((X.grow G).grow G').glo [v, v'] (.cons (rv.mono G'.le) (.cons rv' .nil)) Q E fun u g₃ h₃ tk₃ G₃ ru => hQ u g₃ h₃ tk₃ ((G.trans G').trans G₃) ru)
theorem Ev.un {op : UnaryOp} {x : Expr} {pos p t} (hx : Ev C d env ρ x p) (ho : OpOk C d [p] (uop op) t) : Ev C d env ρ (.UnaryOp op x pos) t := fun A hA s g X Q E hQ =>
  wpAny_UnaryOp (hx A hA s g X _ _ fun v g' h' tk G rv =>
    ho A hA _ g' G.sub (X.grow G).glo [v] (.cons rv .nil) Q E fun u g₃ h₃ tk₃ G₃ ru => hQ u g₃ h₃ tk₃ (G.trans G₃) ru)
theorem Tr.cmp {op : CmpOp} {l r : Expr} {pos p q b} (hl : Ev C d env ρ l p) (hr : Ev C d env ρ r q) (ho : OpOk C d [p, q] (cop op) (.bool b)) (hm : behindInMarks op r = false := by with_unfolding_all rfl) : Tr C d env ρ (.Compare l [op] [r] pos) b := fun A hA s g X Q E hQ =>
  wpAny_isTrue_Compare1 (hm := hm) (hl A hA s g X _ _ fun v g' h' tk G rv => hr A hA _ g' (X.grow G) _ _ fun v' g'' h'' tk' G' rv' =>
    ho A hA _ g'' G'.sub ((X.grow G).grow G').glo [v, v'] (.cons (rv.mono G'.le) (.cons rv' .nil)) _ E fun u g₃ h₃ tk₃ G₃ ru => by
      (first | obtain rfl := Option.some.inj ru | cases ru); exact wpAny_truthy_bool (hQ g₃ h₃ tk₃ ((G.trans G').trans G₃)))
theorem Ev.ite {test body orelse : Expr} {pos b p} (ht : Tr C d env ρ test b) (h : if b then Ev C d env ρ body p else Ev C d env ρ orelse p) : Ev C d env ρ (.IfExp test body orelse pos) p := fun A hA s g X Q E hQ =>
  wpAny_IfExp (ht A hA s g X _ _ fun g' h' tk G => by
    cases b with
    | true => exact h A hA _ g' (X.grow G) Q E fun v g'' h'' tk' G' r => hQ v g'' h'' tk' (G.trans G') r
    | false => exact h A hA _ g' (X.grow G) Q E fun v g'' h'' tk' G' r => hQ v g'' h'' tk' (G.trans G') r)
theorem Ev.tuple {es : List Expr} {k pos ps} (h : Evs C d env ρ es ps) (hsz : ps.length ≤ sizeLine) : Ev C d env ρ (.Tuple es k pos) (.tup ps) := fun A hA s g X Q E hQ =>
  wpAny_Tuple (h A hA s g _ X _ _ fun vs g' h' tk G rs => ⟨by rw [rs.length]; exact hsz, by
    have Gr := Grow.alloc G.sub (o := { cls := .type "tuple", data := .seq vs.toArray }) rfl
    exact hQ _ _ _ _ (G.trans Gr) (.tup _ vs 0 ps (gAdd_self ..) (rs.mono Gr.le))⟩)
theorem Ev.list {es : List Expr} {pos ps} (h : Evs C d env ρ es ps) (hsz : ps.length ≤ sizeLine) : Ev C d env ρ (.List es pos) (.lst ps) := fun A hA s g X Q E hQ =>
  wpAny_List (h A hA s g _ X _ _ fun vs g' h' tk G rs => ⟨by rw [rs.length]; exact hsz, by
    have Gr := Grow.alloc G.sub (o := { cls := .type "list", data := .seq vs.toArray }) rfl
    exact hQ _ _ _ _ (G.trans Gr) (.lst _ vs 0 ps (gAdd_self ..) (rs.mono Gr.le))⟩)
end
end Mine
end
section
open PySem PySem.Calls PyProof.Rows
namespace Mine
section
variable {C : Cx} {d : Nat}
/-- a scalar answer: only the token counter turns -/
theorem OpOk.of2 {t : List Value → Sem Value} {p q r : PV} (h : ∀ A, AOk C d A → ∀ (s : Shared) (g : Ghost), GSub g s.heap → Glo C.blt C.defs s.heap → ∀ a b, Rep g a p → Rep g b q → ∀ (Q : Value → Shared → Prop) (E : Value → Shared → Prop),
    (∀ v g' h' tk, Grow g s.heap g' h' → Rep g' v r → Q v { s with heap := h', toks := tk }) → wpAny C.M A (t [a, b]) Q E s) : OpOk C d [p, q] t r := by
  intro A hA s g hs hg vs hv Q E hQ
  obtain ⟨_, _, rfl, h1, hr⟩ := hv.inv
  obtain ⟨_, _, rfl, h2, hr⟩ := hr.inv
  obtain rfl := hr.inv
  exact h A hA s g hs hg _ _ h1 h2 Q E hQ
theorem OpOk.of1 {t : List Value → Sem Value} {p r : PV} (h : ∀ A, AOk C d A → ∀ (s : Shared) (g : Ghost), GSub g s.heap → Glo C.blt C.defs s.heap → ∀ a, Rep g a p → ∀ (Q : Value → Shared → Prop) (E : Value → Shared → Prop),
    (∀ v g' h' tk, Grow g s.heap g' h' → Rep g' v r → Q v { s with heap := h', toks := tk }) → wpAny C.M A (t [a]) Q E s) : OpOk C d [p] t r := by
  intro A hA s g hs hg vs hv Q E hQ
  obtain ⟨_, _, rfl, h1, hr⟩ := hv.inv
  obtain rfl := hr.inv
  exact h A hA s g hs hg _ h1 Q E hQ

theorem op_add {a b : Int} : OpOk C d [.int a, .int b] (bop .Add) (.int (a + b)) := .of2 fun _ _ s g hs _ _ _ h1 h2 Q E hQ => by
  (first | obtain rfl := h1.inv | obtain ⟨_, rfl⟩ := h1.inv); (first | obtain rfl := h2.inv | obtain ⟨_, rfl⟩ := h2.inv); exact P.add_int (hQ _ g s.heap _ (Grow.refl hs) (.int _ _))
theorem op_sub {a b : Int} : OpOk C d [.int a, .int b] (bop .Sub) (.int (a - b)) := .of2 fun _ _ s g hs _ _ _ h1 h2 Q E hQ => by
  (first | obtain rfl := h1.inv | obtain ⟨_, rfl⟩ := h1.inv); (first | obtain rfl := h2.inv | obtain ⟨_, rfl⟩ := h2.inv); exact P.sub_int (hQ _ g s.heap _ (Grow.refl hs) (.int _ _))
theorem intBits_small {a : Int} (h : a.natAbs < 2 ^ 62) : Builtin.Int.intBits a ≤ 64 := by
  unfold Builtin.Int.intBits
  split
  · omega
  · rename_i h0
    have : a.natAbs.log2 < 62 := (Nat.log2_lt (by simpa using h0)).mpr h
    omega
theorem op_mul {a b : Int} (hm : a.natAbs < 2 ^ 62 ∨ b.natAbs < 2 ^ 62) : OpOk C d [.int a, .int b] (bop .Mult) (.int (a * b)) := .of2 fun _ _ s g hs _ _ _ h1 h2 Q E hQ => by
  (first | obtain rfl := h1.inv | obtain ⟨_, rfl⟩ := h1.inv); (first | obtain rfl := h2.inv | obtain ⟨_, rfl⟩ := h2.inv)
  exact P.mul_int (hQ _ g s.heap _ (Grow.refl hs) (.int _ _)) (hm.elim (fun h => .of_left (intBits_small h)) fun h => .of_right (intBits_small h))
theorem op_fdiv {a b : Int} (hb : b ≠ 0) (hs' : b.natAbs < 1073741824) : OpOk C d [.int a, .int b] (bop .FloorDiv) (.int (a.fdiv b)) := .of2 fun _ _ s g hs _ _ _ h1 h2 Q E hQ => by
  (first | obtain rfl := h1.inv | obtain ⟨_, rfl⟩ := h1.inv); (first | obtain rfl := h2.inv | obtain ⟨_, rfl⟩ := h2.inv)
  exact floordiv_int hb (hQ _ g s.heap _ (Grow.refl hs) (.int _ _)) (.inl (PyProof.noPylong_small hs'))
theorem op_mod {a b : Int} (hb : b ≠ 0) : OpOk C d [.int a, .int b] (bop .Mod) (.int (a.fmod b)) := .of2 fun _ _ s g hs _ _ _ h1 h2 Q E hQ => by
  (first | obtain rfl := h1.inv | obtain ⟨_, rfl⟩ := h1.inv); (first | obtain rfl := h2.inv | obtain ⟨_, rfl⟩ := h2.inv)
  exact mod_int' hb (hQ _ g s.heap _ (Grow.refl hs) (.int _ _))
theorem op_pow {a n : Int} (hn : 0 ≤ n) (hn2 : n ≤ 1000000) (ha : a.natAbs < 2 ^ 64) : OpOk C d [.int a, .int n] (bop .Pow) (.int (a ^ n.toNat)) := .of2 fun _ _ s g hs _ _ _ h1 h2 Q E hQ => by
  (first | obtain rfl := h1.inv | obtain ⟨_, rfl⟩ := h1.inv); (first | obtain rfl := h2.inv | obtain ⟨_, rfl⟩ := h2.inv)
  exact pow_int_small hn hn2 ha (hQ _ g s.heap _ (Grow.refl hs) (.int _ _))
theorem op_neg {a : Int} : OpOk C d [.int a] (uop .USub) (.int (-a)) := .of1 fun _ _ s g hs _ _ h1 Q E hQ => by
  (first | obtain rfl := h1.inv | obtain ⟨_, rfl⟩ := h1.inv); exact P.neg_int (hQ _ g s.heap _ (Grow.refl hs) (.int _ _))
theorem op_eq {a b : Int} : OpOk C d [.int a, .int b] (cop .Eq) (.bool (a == b)) := .of2 fun _ _ s g hs _ _ _ h1 h2 Q E hQ => by
  (first | obtain rfl := h1.inv | obtain ⟨_, rfl⟩ := h1.inv); (first | obtain rfl := h2.inv | obtain ⟨_, rfl⟩ := h2.inv); exact P.eq_int (hQ _ g s.heap s.toks (Grow.refl hs) (.bool _))
theorem op_ne {a b : Int} : OpOk C d [.int a, .int b] (cop .NotEq) (.bool (a != b)) := .of2 fun _ _ s g hs _ _ _ h1 h2 Q E hQ => by
  (first | obtain rfl := h1.inv | obtain ⟨_, rfl⟩ := h1.inv); (first | obtain rfl := h2.inv | obtain ⟨_, rfl⟩ := h2.inv); exact P.ne_int (hQ _ g s.heap s.toks (Grow.refl hs) (.bool _))
theorem op_lt {a b : Int} : OpOk C d [.int a, .int b] (cop .Lt) (.bool (decide (a < b))) := .of2 fun _ _ s g hs _ _ _ h1 h2 Q E hQ => by
  (first | obtain rfl := h1.inv | obtain ⟨_, rfl⟩ := h1.inv); (first | obtain rfl := h2.inv | obtain ⟨_, rfl⟩ := h2.inv); exact P.lt_int (hQ _ g s.heap s.toks (Grow.refl hs) (.bool _))
/-! floats -/
theorem op_addF {a b : UInt64} : OpOk C d [.flt a, .flt b] (bop .Add) (.flt (Float64.add a b)) := .of2 fun _ _ s g hs _ _ _ h1 h2 Q E hQ => by
  (first | obtain rfl := h1.inv | obtain ⟨_, rfl⟩ := h1.inv); (first | obtain rfl := h2.inv | obtain ⟨_, rfl⟩ := h2.inv); exact add_float (hQ _ g s.heap _ (Grow.refl hs) (.flt _ _))
theorem op_subF {a b : UInt64} : OpOk C d [.flt a, .flt b] (bop .Sub) (.flt (Float64.sub a b)) := .of2 fun _ _ s g hs _ _ _ h1 h2 Q E hQ => by
  (first | obtain rfl := h1.inv | obtain ⟨_, rfl⟩ := h1.inv); (first | obtain rfl := h2.inv | obtain ⟨_, rfl⟩ := h2.inv); exact sub_float (hQ _ g s.heap _ (Grow.refl hs) (.flt _ _))
theorem op_mulF {a b : UInt64} : OpOk C d [.flt a, .flt b] (bop .Mult) (.flt (Float64.mul a b)) := .of2 fun _ _ s g hs _ _ _ h1 h2 Q E hQ => by
  (first | obtain rfl := h1.inv | obtain ⟨_, rfl⟩ := h1.inv); (first | obtain rfl := h2.inv | obtain ⟨_, rfl⟩ := h2.inv); exact mul_float (hQ _ g s.heap _ (Grow.refl hs) (.flt _ _))
theorem op_mulIF {n : Int} {a : UInt64} (hn : n.natAbs < 2 ^ 1023) : OpOk C d [.int n, .flt a] (bop .Mult) (.flt (Float64.mul (Float64.ofInt n) a)) := .of2 fun _ _ s g hs _ _ _ h1 h2 Q E hQ => by
  (first | obtain rfl := h1.inv | obtain ⟨_, rfl⟩ := h1.inv); (first | obtain rfl := h2.inv | obtain ⟨_, rfl⟩ := h2.inv); exact mul_if_fits hn (hQ _ g s.heap _ (Grow.refl hs) (.flt _ _))
theorem op_divII {a b : Int} (hb : b ≠ 0) (ha : a.natAbs < 2 ^ 1023) : OpOk C d [.int a, .int b] (bop .Div) (.flt (Float64.ofFrac (decide (a < 0) != decide (b < 0)) a.natAbs b.natAbs)) := .of2 fun _ _ s g hs _ _ _ h1 h2 Q E hQ => by
  (first | obtain rfl := h1.inv | obtain ⟨_, rfl⟩ := h1.inv); (first | obtain rfl := h2.inv | obtain ⟨_, rfl⟩ := h2.inv)
  exact AutoIntOps.truediv_2 (by simpa using hb) (PySem.Flt.quot_fits (by omega) ha) (hQ _ g s.heap _ (Grow.refl hs) (.flt _ _))
theorem op_ltF {a b : UInt64} : OpOk C d [.flt a, .flt b] (cop .Lt) (.bool (Float64.cmp a b == some .lt)) := .of2 fun _ _ s g hs _ _ _ h1 h2 Q E hQ => by
  (first | obtain rfl := h1.inv | obtain ⟨_, rfl⟩ := h1.inv); (first | obtain rfl := h2.inv | obtain ⟨_, rfl⟩ := h2.inv); exact AutoFloatOps.lt_0 (hQ _ g s.heap s.toks (Grow.refl hs) (.bool _))
theorem op_gtF {a b : UInt64} : OpOk C d [.flt a, .flt b] (cop .Gt) (.bool (Float64.cmp a b == some .gt)) := .of2 fun _ _ s g hs _ _ _ h1 h2 Q E hQ => by
  (first | obtain rfl := h1.inv | obtain ⟨_, rfl⟩ := h1.inv); (first | obtain rfl := h2.inv | obtain ⟨_, rfl⟩ := h2.inv); exact AutoFloatOps.gt_0 (hQ _ g s.heap s.toks (Grow.refl hs) (.bool _))
/-! None -/
theorem op_isNone : OpOk C d [.none, .none] (cop .Is) (.bool true) := .of2 fun _ _ s g hs _ _ _ h1 h2 Q E hQ => by
  (first | obtain rfl := h1.inv | obtain ⟨_, rfl⟩ := h1.inv); (first | obtain rfl := h2.inv | obtain ⟨_, rfl⟩ := h2.inv); exact is_none_gen (hQ _ g s.heap s.toks (Grow.refl hs) (.bool _))
theorem op_isNoneI {i : Int} : OpOk C d [.int i, .none] (cop .Is) (.bool false) := .of2 fun _ _ s g hs _ _ _ h1 h2 Q E hQ => by
  (first | obtain rfl := h1.inv | obtain ⟨_, rfl⟩ := h1.inv); (first | obtain rfl := h2.inv | obtain ⟨_, rfl⟩ := h2.inv); exact is_none_gen (hQ _ g s.heap s.toks (Grow.refl hs) (.bool _))
theorem op_isNotNone : OpOk C d [.none, .none] (cop .IsNot) (.bool false) := .of2 fun _ _ s g hs _ _ _ h1 h2 Q E hQ => by
  (first | obtain rfl := h1.inv | obtain ⟨_, rfl⟩ := h1.inv); (first | obtain rfl := h2.inv | obtain ⟨_, rfl⟩ := h2.inv); exact isnot_none_gen (hQ _ g s.heap s.toks (Grow.refl hs) (.bool _))
theorem op_isNotNoneI {i : Int} : OpOk C d [.int i, .none] (cop .IsNot) (.bool true) := .of2 fun _ _ s g hs _ _ _ h1 h2 Q E hQ => by
  (first | obtain rfl := h1.inv | obtain ⟨_, rfl⟩ := h1.inv); (first | obtain rfl := h2.inv | obtain ⟨_, rfl⟩ := h2.inv); exact isnot_none_gen (hQ _ g s.heap s.toks (Grow.refl hs) (.bool _))
/-! texts -/
theorem op_addS {x y : Str} (hsz : x.length + y.length ≤ sizeLine) : OpOk C d [.str x, .str y] (bop .Add) (.str (x ++ y)) := .of2 fun _ _ s g hs _ _ _ h1 h2 Q E hQ => by
  (first | obtain rfl := h1.inv | obtain ⟨_, rfl⟩ := h1.inv); (first | obtain rfl := h2.inv | obtain ⟨_, rfl⟩ := h2.inv); exact add_str (fun _ tk => hQ _ g s.heap tk (Grow.refl hs) (.str _ _)) hsz
theorem op_neS {x y : Str} : OpOk C d [.str x, .str y] (cop .NotEq) (.bool (x != y)) := .of2 fun _ _ s g hs _ _ _ h1 h2 Q E hQ => by
  (first | obtain rfl := h1.inv | obtain ⟨_, rfl⟩ := h1.inv); (first | obtain rfl := h2.inv | obtain ⟨_, rfl⟩ := h2.inv); exact ne_str (hQ _ g s.heap s.toks (Grow.refl hs) (.bool _))
end
end Mine
end
section
open PySem PySem.Calls PyProof.Rows
namespace Mine

/-- an environment of a def, or of a comprehension in one -/
structure FEnv (env : Env) : Prop where
  kind : env.scope.kind = .function
  glob : env.globals = mainGlobals
  blt : env.builtins = builtinsNs

/-- what is the frame's: its names, its cells, and an object that is let be -/
noncomputable def At (xa : Exm) (env : Env) (a : Addr) : Prop := (a = env.locals ∨ ∃ n, (n, a) ∈ env.cells) ∨ xa.adr = some a
structure Frm (xa : Exm) (env : Env) (h : Heap) : Prop where
  ns : ∃ m, h.Ns env.locals m
  cell : ∀ n c, env.cells.lookup n = some c → ∃ v, h.IsCell c v
  apart : env.cells.Pairwise fun x y => x.2 ≠ y.2
  loc : ∀ n c, (n, c) ∈ env.cells → c ≠ env.locals
  found : ∀ n c, (n, c) ∈ env.cells → ∃ m, env.cells.lookup m = some c
  ex_ : ∀ a, xa.adr = some a → ∃ o es n, h.get? a = some o ∧ o.data = .dict es n ∧ ∃ sl, o = { xa.obj with slots := sl }
  exl : ∀ a, xa.adr = some a → a ≠ env.locals ∧ ∀ n, (n, a) ∉ env.cells
variable {xa : Exm}
theorem Frm.kp {env : Env} {h h' : Heap} (k : Kp h h') (F : Frm xa env h) : Frm xa env h' :=
  ⟨let ⟨m, a⟩ := F.ns; ⟨m, a.keeps k⟩, fun n c e => let ⟨v, a⟩ := F.cell n c e; ⟨v, a.keeps k⟩, F.apart, F.loc, F.found, fun a e => (let ⟨o, es, n, q, r⟩ := F.ex_ a e; ⟨o, es, n, k a o q, r⟩), F.exl⟩
/-- the kind a stored name may have -/
noncomputable def Sto (env : Env) (x : Str) : Prop := env.kindOf x = some .local ∨ (env.kindOf x = some .cell ∧ (env.cells.lookup x).isSome = true)
theorem ns_uniq {h : Heap} {a : Addr} {m m' : Str → Option Value} (x : h.Ns a m) (y : h.Ns a m') : m = m' := by
  obtain ⟨o, es, ep, e1, e2, _, e3⟩ := x
  obtain ⟨o', es', ep', f1, f2, _, f3⟩ := y
  rw [e1] at f1; (first | obtain rfl := Option.some.inj f1 | cases f1)
  rw [e2] at f2; (first | obtain rfl := Option.some.inj f2 | cases f2)
  funext n
  rw [← e3, ← f3]
theorem store {M : Model} {A : Around} {s : Shared} {env : Env} {x : Str} {v : Value} {Q : Unit → Shared → Prop} {E : Value → Shared → Prop} (fe : FEnv env) (F : Frm xa env s.heap) (hx : Sto env x)
    (h : ∀ b h' tk, At xa env b → Heap.SameBut b s.heap h' → Frm xa env h' → Ld env h' x v → (∀ y w, y ≠ x → Ld env s.heap y w → Ld env h' y w) → Q () { s with heap := h', toks := tk }) :
    wpAny M A (storeName env x v) Q E s := by
  rcases hx with hx | ⟨hx, hc⟩
  · obtain ⟨m, hm⟩ := F.ns
    refine wpAny_storeName_local hx hm (fun h' hn hs => h env.locals h' _ (.inl (.inl rfl)) hs ⟨⟨_, hn⟩, fun n c e => ?_, F.apart, F.loc, F.found, fun a e => (let ⟨o, es, n, q, r⟩ := F.ex_ a e; ⟨o, es, n, (hs.2 a (F.exl a e).1).trans q, r⟩), F.exl⟩ ?_ fun y w hy l => ?_) (by rw [fe.kind]; rfl)
    · obtain ⟨v, a⟩ := F.cell n c e
      exact ⟨v, a.sameBut hs (F.loc n c (mem_of_lookup e))⟩
    · unfold Ld; rw [hx]; exact ⟨_, hn, by simp⟩
    · unfold Ld at l ⊢
      split at l
      · obtain ⟨m', a, b⟩ := l
        rw [ns_uniq a hm] at b
        exact ⟨_, hn, by simpa [hy] using b⟩
      · obtain ⟨c, a, b⟩ := l; exact ⟨c, a, b.sameBut hs (F.loc y c (mem_of_lookup a))⟩
      · obtain ⟨c, a, b⟩ := l; exact ⟨c, a, b.sameBut hs (F.loc y c (mem_of_lookup a))⟩
      · trivial
  · obtain ⟨c, hc⟩ := Option.isSome_iff_exists.mp hc
    obtain ⟨v₀, hv₀⟩ := F.cell x c hc
    refine wpAny_storeName_cell fe.kind hx hc hv₀ fun h' hv hs => h c h' s.toks (.inl (.inr ⟨x, mem_of_lookup hc⟩)) hs ⟨?_, fun n c' e => ?_, F.apart, F.loc, F.found, fun a e => (let ⟨o, es, n, q, r⟩ := F.ex_ a e; ⟨o, es, n, (hs.2 a fun z => (F.exl a e).2 x (z ▸ mem_of_lookup hc)).trans q, r⟩), F.exl⟩ ?_ fun y w hy l => ?_
    · obtain ⟨m, hm⟩ := F.ns
      exact ⟨m, hm.sameBut hs (Ne.symm (F.loc x c (mem_of_lookup hc)))⟩
    · by_cases q : c' = c
      · subst q; exact ⟨_, hv⟩
      · obtain ⟨v, a⟩ := F.cell n c' e
        exact ⟨v, a.sameBut hs q⟩
    · unfold Ld; rw [hx]; exact ⟨c, hc, hv⟩
    · have ne : ∀ c', env.cells.lookup y = some c' → c' ≠ c := fun c' e q => hy (name_of_addr F.apart (mem_of_lookup e) (q ▸ mem_of_lookup hc))
      unfold Ld at l ⊢
      split at l
      · obtain ⟨m', a, b⟩ := l
        exact ⟨_, a.sameBut hs (Ne.symm (F.loc x c (mem_of_lookup hc))), b⟩
      · obtain ⟨c', a, b⟩ := l; exact ⟨c', a, b.sameBut hs (ne c' a)⟩
      · obtain ⟨c', a, b⟩ := l; exact ⟨c', a, b.sameBut hs (ne c' a)⟩
      · trivial

/-- a pure state of a frame: its names; one list that may still be turned -/
structure PSt where
  vars : Vars
  gro : Option (Str × List PV) := none
noncomputable def PSt.set (σ : PSt) (x : Str) (p : PV) : PSt := { σ with vars := (x, p) :: σ.vars }

/-- the list that may be turned -/
structure MutAt (xa : Exm) (env : Env) (hB : Heap) (g : Ghost) (h : Heap) (x : Str) (l : List PV) (a : Addr) : Prop where
  ld : Ld env h x (.ref a)
  obj : ∃ its n, h.get? a = some (lobj its n) ∧ Reps g its l
  gn : g a = none
  hn : hB.get? a = none
  off : ¬ At xa env a
noncomputable def GroOk (xa : Exm) (env : Env) (hB : Heap) (g : Ghost) (h : Heap) : Option (Str × List PV) → Option Addr → Prop
  | none, none => True
  | some y, some a => MutAt xa env hB g h y.1 y.2 a
  | _, _ => False
theorem GroOk.imp {env : Env} {hB : Heap} {g g' : Ghost} {h h' : Heap} {y : Option (Str × List PV)} {μ : Option Addr} (x : GroOk xa env hB g h y μ) (f : ∀ z a, y = some z → μ = some a → MutAt xa env hB g h z.1 z.2 a → MutAt xa env hB g' h' z.1 z.2 a) : GroOk xa env hB g' h' y μ := by
  cases y with
  | none => cases μ with
    | none => trivial
    | some a => exact x
  | some y => cases μ with
    | none => exact x
    | some a => exact f y a rfl rfl x
structure SA (C : Cx) (env : Env) (hB : Heap) (gB : Ghost) (σ : PSt) (μ : Option Addr) (g : Ghost) (h : Heap) : Prop where
  grow : Grow gB hB g h
  glo : Glo C.blt C.defs hB
  frm : Frm C.ex env h
  off : ∀ a, At C.ex env a → g a = none ∧ hB.get? a = none
  vars : ∀ x p, σ.vars.lookup x = some p → ∃ v, Ld env h x v ∧ Rep g v p
  gro : GroOk C.ex env hB g h σ.gro μ
section
variable {C : Cx} {env : Env} {hB : Heap} {gB : Ghost} {σ : PSt} {μ : Option Addr} {g : Ghost} {h : Heap}
theorem SA.eh (S : SA C env hB gB σ μ g h) : EH C env σ.vars g h := ⟨S.grow.sub, S.glo.kp S.grow.kp, S.vars⟩
theorem At.live {xa : Exm} (F : Frm xa env h) {a : Addr} (x : At xa env a) : ∃ o, h.get? a = some o := by
  rcases x with (rfl | ⟨n, x⟩) | x
  · obtain ⟨m, o, _, _, e, _⟩ := F.ns; exact ⟨o, e⟩
  · obtain ⟨m, e⟩ := F.found n a x
    obtain ⟨v, o, q, _⟩ := F.cell m a e
    exact ⟨o, q⟩
  · obtain ⟨o, _, _, q, _⟩ := F.ex_ a x; exact ⟨o, q⟩
end
section
variable {C : Cx} {env : Env} {hB : Heap} {gB : Ghost} {σ : PSt} {μ : Option Addr} {g g' : Ghost} {h h' : Heap}
theorem SA.grown (S : SA C env hB gB σ μ g h) (G : Grow g h g' h') : SA C env hB gB σ μ g' h' where
  grow := S.grow.trans G
  glo := S.glo
  frm := S.frm.kp G.kp
  off := fun a x => by
    obtain ⟨o, e⟩ := x.live S.frm
    exact ⟨G.off e (S.off a x).1, (S.off a x).2⟩
  vars := fun x p e => let ⟨v, a, b⟩ := S.vars x p e; ⟨v, a.kp G.kp, b.mono G.le⟩
  gro := S.gro.imp fun z a _ _ ⟨m1, ⟨its, n, m2, m3⟩, m4, m5, m6⟩ => ⟨m1.kp G.kp, ⟨its, n, G.kp _ _ m2, m3.mono G.le⟩, G.off m2 m4, m5, m6⟩
theorem Ld.same {xa : Exm} {b : Addr} (hs : Heap.SameBut b h h') (h3 : ¬ At xa env b) {y : Str} {w : Value} (l : Ld env h y w) : Ld env h' y w := by
  unfold Ld at l ⊢
  split at l
  · obtain ⟨m', a, c⟩ := l; exact ⟨_, a.sameBut hs fun q => h3 (.inl (.inl q.symm)), c⟩
  · obtain ⟨c', a, c⟩ := l; exact ⟨c', a, c.sameBut hs fun q => h3 (.inl (.inr ⟨y, q ▸ mem_of_lookup a⟩))⟩
  · obtain ⟨c', a, c⟩ := l; exact ⟨c', a, c.sameBut hs fun q => h3 (.inl (.inr ⟨y, q ▸ mem_of_lookup a⟩))⟩
  · trivial
theorem SA.drop (S : SA C env hB gB σ μ g h) : SA C env hB gB ⟨σ.vars, none⟩ none g h := ⟨S.grow, S.glo, S.frm, S.off, S.vars, trivial⟩
theorem SA.addGro {vs : Vars} {x : Str} {l : List PV} {a : Addr} (S : SA C env hB gB ⟨vs, none⟩ none g h) (m : MutAt C.ex env hB g h x l a) : SA C env hB gB ⟨vs, some (x, l)⟩ (some a) g h := ⟨S.grow, S.glo, S.frm, S.off, S.vars, m⟩
/-- something that is no object of g, nor of the frame, turns -/
theorem SA.same {b : Addr} (S : SA C env hB gB σ μ g h) (hs : Heap.SameBut b h h') (h1 : g b = none) (h2 : hB.get? b = none) (h3 : ¬ At C.ex env b) (h4 : μ ≠ some b) : SA C env hB gB σ μ g h' := by
  have ns : ∀ y w, Ld env h y w → Ld env h' y w := fun y w l => by
    unfold Ld at l ⊢
    split at l
    · obtain ⟨m', a, c⟩ := l; exact ⟨_, a.sameBut hs fun q => h3 (.inl (.inl q.symm)), c⟩
    · obtain ⟨c', a, c⟩ := l; exact ⟨c', a, c.sameBut hs fun q => h3 (.inl (.inr ⟨y, q ▸ mem_of_lookup a⟩))⟩
    · obtain ⟨c', a, c⟩ := l; exact ⟨c', a, c.sameBut hs fun q => h3 (.inl (.inr ⟨y, q ▸ mem_of_lookup a⟩))⟩
    · trivial
  refine ⟨⟨fun c o e => (hs.2 c fun q => ?_).trans (S.grow.kp c o e), S.grow.le, fun c o e => (hs.2 c fun q => ?_).trans (S.grow.sub c o e), S.grow.new⟩, S.glo,
    ⟨?_, fun n c e => ?_, S.frm.apart, S.frm.loc, S.frm.found, fun a e => (let ⟨o, es, n, q, r⟩ := S.frm.ex_ a e; ⟨o, es, n, (hs.2 a fun z => h3 (z ▸ .inr e)).trans q, r⟩), S.frm.exl⟩, S.off, fun x p e => ?_, ?_⟩
  · rw [q, h2] at e; (first | obtain rfl := Option.some.inj e | cases e)
  · rw [q, h1] at e; (first | obtain rfl := Option.some.inj e | cases e)
  · obtain ⟨m, hm⟩ := S.frm.ns; exact ⟨m, hm.sameBut hs fun q => h3 (.inl (.inl q.symm))⟩
  · obtain ⟨v, a⟩ := S.frm.cell n c e; exact ⟨v, a.sameBut hs fun q => h3 (.inl (.inr ⟨n, q ▸ mem_of_lookup e⟩))⟩
  · obtain ⟨v, a, c⟩ := S.vars x p e; exact ⟨v, ns x v a, c⟩
  · exact S.gro.imp fun z a _ hμ ⟨m1, ⟨its, n, m2, m3⟩, m4, m5, m6⟩ => ⟨ns _ _ m1, ⟨its, n, (hs.2 a fun q => h4 (by rw [hμ, q])).trans m2, m3⟩, m4, m5, m6⟩
/-- a name is stored -/
theorem SA.stored {b : Addr} {x : Str} {v : Value} {p : PV} (S : SA C env hB gB σ μ g h) (hb : At C.ex env b) (hs : Heap.SameBut b h h') (F : Frm C.ex env h') (l : Ld env h' x v) (lo : ∀ y w, y ≠ x → Ld env h y w → Ld env h' y w) (r : Rep g v p)
    (hm : ∀ y, σ.gro = some y → y.1 ≠ x) : SA C env hB gB (σ.set x p) μ g h' := by
  obtain ⟨h1, h2⟩ := S.off b hb
  refine ⟨⟨fun c o e => (hs.2 c fun q => ?_).trans (S.grow.kp c o e), S.grow.le, fun c o e => (hs.2 c fun q => ?_).trans (S.grow.sub c o e), S.grow.new⟩, S.glo, F, S.off, fun y p' e => ?_, ?_⟩
  · rw [q, h2] at e; (first | obtain rfl := Option.some.inj e | cases e)
  · rw [q, h1] at e; (first | obtain rfl := Option.some.inj e | cases e)
  · unfold PSt.set at e
    rw [List.lookup_cons] at e
    by_cases q : y = x
    · subst q; rw [beq_self_eq_true] at e; (first | obtain rfl := Option.some.inj e | cases e); exact ⟨v, l, r⟩
    · rw [beq_eq_false_iff_ne.mpr q] at e
      obtain ⟨w, a, c⟩ := S.vars y p' e
      exact ⟨w, lo y w q a, c⟩
  · exact S.gro.imp fun z a hy _ ⟨m1, ⟨its, n, m2, m3⟩, m4, m5, m6⟩ => ⟨lo _ _ (hm z hy) m1, ⟨its, n, (hs.2 a fun q => m6 (q ▸ hb)).trans m2, m3⟩, m4, m5, m6⟩
end
/-- all that stood is kept but the frame and the list that may be turned -/
noncomputable def KpBut (xa : Exm) (env : Env) (μ : Option Addr) (h h' : Heap) : Prop := ∀ b o, h.get? b = some o → ¬ At xa env b → μ ≠ some b → h'.get? b = some o
theorem Kp.but {env : Env} {μ : Option Addr} {h h' : Heap} (k : Kp h h') : KpBut xa env μ h h' := fun b o e _ _ => k b o e
theorem KpBut.trans {env : Env} {μ : Option Addr} {h₁ h₂ h₃ : Heap} (a : KpBut xa env μ h₁ h₂) (b : KpBut xa env μ h₂ h₃) : KpBut xa env μ h₁ h₃ := fun c o e h1 h2 => b c o (a c o e h1 h2) h1 h2
theorem SameBut.but {env : Env} {μ : Option Addr} {h h' : Heap} {b : Addr} (hs : Heap.SameBut b h h') (hb : At xa env b ∨ μ = some b) : KpBut xa env μ h h' := fun c o e h1 h2 =>
  (hs.2 c fun q => hb.elim (fun hb => h1 (q ▸ hb)) fun hb => h2 (q ▸ hb)).trans e

/-- the list that may be turned: the same, or a new one -/
noncomputable def MuOk (μ : Option Addr) (h : Heap) (μ' : Option Addr) : Prop := ∀ a, μ' = some a → μ = some a ∨ h.get? a = none
theorem MuOk.refl (μ : Option Addr) (h : Heap) : MuOk μ h μ := fun _ e => .inl e
theorem MuOk.trans {env : Env} {μ μ' μ'' : Option Addr} {h h' : Heap} (F : Frm xa env h') (k : KpBut xa env μ h h') (a : MuOk μ h μ') (b : MuOk μ' h' μ'') : MuOk μ h μ'' := fun c e => by
  rcases b c e with q | q
  · exact a c q
  · by_cases hm : μ = some c
    · exact .inl hm
    · refine .inr ?_
      cases hq : h.get? c with
      | none => rfl
      | some o =>
        by_cases ha : At xa env c
        · obtain ⟨o', e'⟩ := ha.live F; rw [q] at e'; (first | obtain rfl := Option.some.inj e' | cases e')
        · rw [k c o hq ha hm] at q; (first | obtain rfl := Option.some.inj q | cases q)
theorem KpBut.trans' {env : Env} {μ μ' : Option Addr} {h₁ h₂ h₃ : Heap} (m : MuOk μ h₁ μ') (a : KpBut xa env μ h₁ h₂) (b : KpBut xa env μ' h₂ h₃) : KpBut xa env μ h₁ h₃ := fun c o e h1 h2 => by
  refine b c o (a c o e h1 h2) h1 fun q => ?_
  rcases m c q with r | r
  · exact h2 r
  · rw [e] at r; (first | obtain rfl := Option.some.inj r | cases r)

/-- what a block may do to the heap -/
structure Stp (xa : Exm) (env : Env) (μ : Option Addr) (g : Ghost) (h : Heap) (μ' : Option Addr) (g' : Ghost) (h' : Heap) : Prop where
  mu : MuOk μ h μ'
  kp : KpBut xa env μ h h'
  le : GLe g g'
  new : ∀ b o, g' b = some o → g b = some o ∨ h.get? b = none ∨ μ = some b
theorem Stp.refl (xa : Exm) (env : Env) (μ : Option Addr) (g : Ghost) (h : Heap) : Stp xa env μ g h μ g h := ⟨MuOk.refl _ _, (Kp.refl _).but, GLe.refl _, fun _ _ e => .inl e⟩
theorem Stp.grow {env : Env} {μ : Option Addr} {g g' : Ghost} {h h' : Heap} (G : Grow g h g' h') : Stp xa env μ g h μ g' h' := ⟨MuOk.refl _ _, G.kp.but, G.le, fun b o e => (G.new b o e).imp id .inl⟩
theorem Stp.same {env : Env} {μ : Option Addr} {g : Ghost} {h h' : Heap} {b : Addr} (hs : Heap.SameBut b h h') (hb : At xa env b ∨ μ = some b) : Stp xa env μ g h μ g h' := ⟨MuOk.refl _ _, SameBut.but hs hb, GLe.refl _, fun _ _ e => .inl e⟩
theorem Stp.trans {env : Env} {μ μ' μ'' : Option Addr} {g g' g'' : Ghost} {h h' h'' : Heap} (F : Frm xa env h') (a : Stp xa env μ g h μ' g' h') (b : Stp xa env μ' g' h' μ'' g'' h'') : Stp xa env μ g h μ'' g'' h'' :=
  ⟨MuOk.trans F a.kp a.mu b.mu, KpBut.trans' a.mu a.kp b.kp, a.le.trans b.le, fun c o e => by
    rcases b.new c o e with q | q | q
    · exact a.new c o q
    · by_cases hm : μ = some c
      · exact .inr (.inr hm)
      · refine .inr (.inl ?_)
        cases hq : h.get? c with
        | none => rfl
        | some o =>
          by_cases ha : At xa env c
          · obtain ⟨o', e'⟩ := ha.live F; rw [q] at e'; (first | obtain rfl := Option.some.inj e' | cases e')
          · rw [a.kp c o hq ha hm] at q; (first | obtain rfl := Option.some.inj q | cases q)
    · exact .inr ((a.mu c q).symm)⟩

/-- what a return hands on -/
structure GrowX (xa : Exm) (env : Env) (gB : Ghost) (hB : Heap) (g : Ghost) (h : Heap) : Prop where
  grow : Grow gB hB g h
  frm : Frm xa env h
  off : ∀ a, At xa env a → g a = none
/-- a statement, a block: what they end in -/
noncomputable def Xt (t : Env → Sem Flow) (C : Cx) (d : Nat) (env : Env) (σ : PSt) (Post : Option PV → PSt → Prop) : Prop :=
  ∀ A, AOk C d A → ∀ (s : Shared) hB gB μ g, SA C env hB gB σ μ g s.heap → ∀ (Q : Flow → Shared → Prop) (E : Value → Shared → Prop),
    (∀ σ' μ' g' h' tk, Post none σ' → SA C env hB gB σ' μ' g' h' → Stp C.ex env μ g s.heap μ' g' h' → Q .next { s with heap := h', toks := tk }) →
    (∀ p σ' v g' h' tk, Post (some p) σ' → GrowX C.ex env gB hB g' h' → Rep g' v p → Q (.ret v) { s with heap := h', toks := tk }) →
    wpAny C.M A (t env) Q E s
noncomputable def Xs (C : Cx) (d : Nat) (env : Env) (σ : PSt) (st : Stmt) (Post : Option PV → PSt → Prop) : Prop := Xt (exec st) C d env σ Post
noncomputable def Ex (C : Cx) (d : Nat) (env : Env) (σ : PSt) (ss : List Stmt) (Post : Option PV → PSt → Prop) : Prop := Xt (execs ss) C d env σ Post
section
variable {C : Cx} {d : Nat} {env : Env} {σ : PSt} {Post : Option PV → PSt → Prop}
theorem Ex.nil (h : Post none σ) : Ex C d env σ [] Post := fun _ _ s _ _ μ _ S _ _ hn _ => wpAny_execs_nil (hn σ μ _ s.heap s.toks h S (Stp.refl ..))
theorem Ex.cons {st : Stmt} {ss : List Stmt} {P1 : Option PV → PSt → Prop} (h1 : Xs C d env σ st P1) (h2 : ∀ σ', P1 none σ' → Ex C d env σ' ss Post) (h3 : ∀ p σ', P1 (some p) σ' → Post (some p) σ' := by intro _ _ h; exact nomatch h) : Ex C d env σ (st :: ss) Post :=
  fun A hA s hB gB μ g S Q E hn hr => wpAny_execs_cons (h1 A hA s hB gB μ g S _ E
    (fun σ' μ' g' h' tk hp S' st => h2 σ' hp A hA _ hB gB μ' g' S' Q E (fun σ'' μ'' g'' h'' tk' hp' S'' st' =>
      hn σ'' μ'' g'' h'' tk' hp' S'' (Stp.trans S'.frm st st')) fun p σ'' v g'' h'' tk' hp' G r => hr p σ'' v g'' h'' tk' hp' G r)
    fun p σ' v g' h' tk hp G r => hr p σ' v g' h' tk (h3 p σ' hp) G r)
end
end Mine
end
section
open PySem PySem.Calls PyProof.Rows
namespace Mine
section
variable {C : Cx} {d : Nat} {env : Env} {σ : PSt} {Post : Option PV → PSt → Prop}

theorem Xs.assign {x : Str} {px value pos p} (fe : FEnv env) (hx : Sto env x) (he : Ev C d env σ.vars value p) (hm : ∀ y, σ.gro = some y → y.1 ≠ x) (hs : swapsWith value (some (.Name x px)) pos.line env = pure false) :
    Xs C d env σ (.Assign [.Name x px] value pos) (fun o σ' => o = none ∧ σ' = σ.set x p) := fun A hA s hB gB μ g S Q E hn _ =>
  wpAny_Assign_Name (hs := hs) (he A hA s g S.eh _ _ fun v g' h' tk G r => store fe (S.grown G).frm hx fun _ h'' tk' hb hs F l lo =>
    hn (σ.set x p) μ g' h'' tk' ⟨rfl, rfl⟩ ((S.grown G).stored hb hs F l lo r hm) (Stp.trans (S.grown G).frm (Stp.grow G) (Stp.same hs (.inl hb))))
theorem Ex.assign {x : Str} {px value pos p ss} (fe : FEnv env) (hx : Sto env x) (he : Ev C d env σ.vars value p) (k : Ex C d env (σ.set x p) ss Post) (hm : ∀ y, σ.gro = some y → y.1 ≠ x := by intro _ h; exact nomatch h) (hs : swapsWith value (some (.Name x px)) pos.line env = pure false := by rfl) :
    Ex C d env σ (.Assign [.Name x px] value pos :: ss) Post := Ex.cons (Xs.assign fe hx he hm hs) (fun _ h => h.2 ▸ k) fun _ _ h => nomatch h.1
theorem Xs.ifs {test body orelse pos} {b : Bool} (ht : Tr C d env σ.vars test b) (h : if b then Ex C d env σ body Post else Ex C d env σ orelse Post) : Xs C d env σ (.If test body orelse pos) Post := fun A hA s hB gB μ g S Q E hn hr =>
  wpAny_If (ht A hA s g S.eh _ _ fun g' h' tk G => by
    have hn' : ∀ σ' μ' g'' h'' tk', Post none σ' → SA C env hB gB σ' μ' g'' h'' → Stp C.ex env μ g' h' μ' g'' h'' → Q .next { s with heap := h'', toks := tk' } := fun σ' μ' g'' h'' tk' hp S' st =>
      hn σ' μ' g'' h'' tk' hp S' (Stp.trans (S.grown G).frm (Stp.grow G) st)
    cases b with
    | true => exact h A hA _ hB gB μ g' (S.grown G) Q E hn' hr
    | false => exact h A hA _ hB gB μ g' (S.grown G) Q E hn' hr)
theorem Ex.ifF {test body pos ss} (ht : Tr C d env σ.vars test false) (k : Ex C d env σ ss Post) : Ex C d env σ (.If test body [] pos :: ss) Post :=
  Ex.cons (Xs.ifs (Post := fun o σ' => o = none ∧ σ' = σ) ht (Ex.nil ⟨rfl, rfl⟩)) (fun _ h => h.2 ▸ k) fun _ _ h => nomatch h.1
theorem Xs.ret {e pos p} (he : Ev C d env σ.vars e p) (hp : Post (some p) σ) : Xs C d env σ (.Return (some e) pos) Post := fun A hA s hB gB μ g S Q E _ hr =>
  wpAny_Return_some (he A hA s g S.eh _ _ fun v g' h' tk G r => hr p σ v g' h' tk hp ⟨S.grow.trans G, (S.grown G).frm, fun a x => ((S.grown G).off a x).1⟩ r)
theorem Ex.ret {e pos p ss} (he : Ev C d env σ.vars e p) (hp : Post (some p) σ) : Ex C d env σ (.Return (some e) pos :: ss) Post :=
  Ex.cons (P1 := fun o σ' => o = some p ∧ σ' = σ) (Xs.ret he ⟨rfl, rfl⟩) (fun _ h => nomatch h.1) fun q σ' h => by obtain ⟨h1, h2⟩ := h; (first | obtain rfl := Option.some.inj h1 | cases h1); rw [h2]; exact hp
/-! growing lists -/
theorem Xs.newList {x : Str} {px es lp pos ps} (fe : FEnv env) (hx : Sto env x) (he : Evs C d env σ.vars es ps) (hsz : ps.length ≤ sizeLine) (hg : σ.gro = none) (hv : σ.vars.lookup x = none)
    (hs : swapsWith (.List es lp) (some (.Name x px)) pos.line env = pure false) :
    Xs C d env σ (.Assign [.Name x px] (.List es lp) pos) (fun o σ' => o = none ∧ σ' = { σ with gro := some (x, ps) }) := fun A hA s hB gB μ g S Q E hn _ =>
  wpAny_Assign_Name (hs := hs) (wpAny_List (he A hA s g _ S.eh _ _ fun vs g' h' tk G rs => ⟨by rw [rs.length]; exact hsz, by
    have Gr := Grow.hidden G.sub ({ cls := .type "list", data := .seq vs.toArray } : Obj)
    have S2 := (S.grown G).grown Gr
    have hnew : h'.get? h'.objs.size = none := get_size h'
    refine store fe S2.frm hx fun b h'' tk' hb hs F l lo => ?_
    obtain ⟨h1, h2⟩ := S2.off b hb
    have hne : h'.objs.size ≠ b := by
      rintro rfl
      obtain ⟨o, e⟩ := hb.live (S.grown G).frm
      rw [hnew] at e; (first | obtain rfl := Option.some.inj e | cases e)
    have hobj : h''.get? h'.objs.size = some (lobj vs 0) := (hs.2 _ hne).trans (Heap.get?_push_size _ rfl)
    refine hn _ (some h'.objs.size) g' h'' tk' ⟨rfl, rfl⟩ ⟨⟨fun c o e => (hs.2 c fun q => ?_).trans (S2.grow.kp c o e), S2.grow.le, fun c o e => (hs.2 c fun q => ?_).trans (S2.grow.sub c o e), S2.grow.new⟩, S.glo, F, S2.off, fun y p' e => ?_, ?_⟩ ⟨fun a e => ?_, (G.kp.but.trans Gr.kp.but).trans (SameBut.but hs (.inl hb)), G.le, fun b o e => (G.new b o e).imp id .inl⟩
    · rw [q, h2] at e; (first | obtain rfl := Option.some.inj e | cases e)
    · rw [q, h1] at e; (first | obtain rfl := Option.some.inj e | cases e)
    · obtain ⟨w, a, c⟩ := S2.vars y p' e
      exact ⟨w, lo y w (by rintro rfl; rw [hv] at e; (first | obtain rfl := Option.some.inj e | cases e)) a, c⟩
    · refine ⟨l, ⟨vs, 0, hobj, rs⟩, G.sub.off hnew, ?_, fun q => ?_⟩
      · exact (S.grow.kp.trans G.kp).none hnew
      · obtain ⟨o, e⟩ := q.live (S.grown G).frm
        rw [hnew] at e; (first | obtain rfl := Option.some.inj e | cases e)
    · (first | obtain rfl := Option.some.inj e | cases e); exact .inr (G.kp.none hnew)⟩))
theorem Ex.newList {x : Str} {px es lp pos ps ss} (fe : FEnv env) (hx : Sto env x) (he : Evs C d env σ.vars es ps) (hsz : ps.length ≤ sizeLine) (k : Ex C d env { σ with gro := some (x, ps) } ss Post) (hg : σ.gro = none := by rfl) (hv : σ.vars.lookup x = none := by rfl)
    (hs : swapsWith (.List es lp) (some (.Name x px)) pos.line env = pure false := by rfl) : Ex C d env σ (.Assign [.Name x px] (.List es lp) pos :: ss) Post :=
  Ex.cons (Xs.newList fe hx he hsz hg hv hs) (fun _ h => h.2 ▸ k) fun _ _ h => nomatch h.1

theorem SA.frozen {hB : Heap} {gB g : Ghost} {h : Heap} {μ : Option Addr} {x : Str} {l : List PV} (S : SA C env hB gB σ μ g h) (hg : σ.gro = some (x, l)) :
    ∃ a its n, μ = some a ∧ g a = none ∧ h.get? a = some (lobj its n) ∧ Reps g its l ∧ Ld env h x (.ref a) ∧ hB.get? a = none ∧ ¬ At C.ex env a ∧ SA C env hB gB ⟨(x, .lst l) :: σ.vars, none⟩ none (gAdd g a (lobj its n)) h := by
  have hq := S.gro
  rw [hg] at hq
  cases μ with
  | none => exact hq.elim
  | some a =>
    obtain ⟨m1, ⟨its, n, m2, m3⟩, m4, m5, m6⟩ := hq
    have le : GLe g (gAdd g a (lobj its n)) := fun b o e => by
      unfold gAdd
      rw [if_neg]; · exact e
      rintro rfl; rw [m4] at e; (first | obtain rfl := Option.some.inj e | cases e)
    refine ⟨a, its, n, rfl, m4, m2, m3, m1, m5, m6, ⟨S.grow.kp, S.grow.le.trans le, fun b o e => ?_, fun b o e => ?_⟩, S.glo, S.frm, fun b hb => ⟨?_, (S.off b hb).2⟩, fun y p e => ?_, trivial⟩
    · unfold gAdd at e
      split at e
      · rename_i q; subst q; (first | obtain rfl := Option.some.inj e | cases e); exact m2
      · exact S.grow.sub b o e
    · unfold gAdd at e
      split at e
      · rename_i q; subst q; exact .inr m5
      · exact S.grow.new b o e
    · unfold gAdd
      rw [if_neg (by rintro rfl; exact m6 hb)]
      exact (S.off b hb).1
    · dsimp only at e
      rw [List.lookup_cons] at e
      by_cases q : y = x
      · subst q; rw [beq_self_eq_true] at e; (first | obtain rfl := Option.some.inj e | cases e)
        exact ⟨_, m1, .lst a its n l (gAdd_self ..) (m3.mono le)⟩
      · rw [beq_eq_false_iff_ne.mpr q] at e
        obtain ⟨w, b, c⟩ := S.vars y p e
        exact ⟨w, b, c.mono le⟩
/-- the list is done: from here on it is a value like others -/
theorem Ex.freeze {x : Str} {l : List PV} {ss} (k : Ex C d env ⟨(x, .lst l) :: σ.vars, none⟩ ss Post) (hg : σ.gro = some (x, l) := by rfl) : Ex C d env σ ss Post := fun A hA s hB gB μ g S Q E hn hr => by
  obtain ⟨a, its, n, rfl, hn0, _, _, _, _, _, S'⟩ := S.frozen hg
  have le : GLe g (gAdd g a (lobj its n)) := fun b o e => by
    unfold gAdd
    rw [if_neg]; · exact e
    rintro rfl; rw [hn0] at e; (first | obtain rfl := Option.some.inj e | cases e)
  exact k A hA s hB gB none _ S' Q E (fun σ' μ' g' h' tk hp S'' st => hn σ' μ' g' h' tk hp S'' ⟨fun b e => .inr ((st.mu b e).resolve_left fun q => nomatch q), fun b o e h1 _ => st.kp b o e h1 (by simp), le.trans st.le, fun b o e => by
    rcases st.new b o e with q | q | q
    · unfold gAdd at q
      split at q
      · rename_i r; subst r; exact .inr (.inr rfl)
      · exact .inl q
    · exact .inr (.inl q)
    · cases q⟩) hr
end

/-- no list within -/
noncomputable def PV.flat : PV → Bool
  | .tup l => l.all PV.sca
  | p => p.sca
noncomputable def gCut (g : Ghost) (a : Addr) : Ghost := fun b => if b = a then none else g b
theorem Rep.cut {g : Ghost} {a : Addr} {its : List Value} {n : Nat} (ha : g a = some (lobj its n)) {v p} (r : Rep g v p) (hf : p.flat = true) : Rep (gCut g a) v p := by
  cases p with
  | tup l =>
    obtain ⟨b, its', n', rfl, hb, rs⟩ := r.inv
    refine .tup b its' n' l ?_ (rs.of_sca fun p hp => List.all_eq_true.mp hf p hp)
    unfold gCut
    rw [if_neg]; · exact hb
    rintro rfl
    rw [ha] at hb
    exact absurd (congrArg Obj.cls (Option.some.inj hb)) (by simp)
  | lst l => cases hf
  | scr l => cases hf
  | none => exact r.sca hf
  | bool b => exact r.sca hf
  | int i => exact r.sca hf
  | flt w => exact r.sca hf
  | str s => exact r.sca hf
  | byt b => exact r.sca hf
  | typ n => exact r.sca hf
theorem Grow.cut {g g' : Ghost} {h h' : Heap} {a : Addr} {o : Obj} (G : Grow (gAdd g a o) h g' h') (hn : g a = none) : Grow g h (gCut g' a) h' := by
  have le : GLe g (gAdd g a o) := fun b o e => by
    unfold gAdd
    rw [if_neg]; · exact e
    rintro rfl; rw [hn] at e; (first | obtain rfl := Option.some.inj e | cases e)
  refine ⟨G.kp, fun b o' e => ?_, fun b o' e => ?_, fun b o' e => ?_⟩
  · unfold gCut
    rw [if_neg]; · exact G.le b o' (le b o' e)
    rintro rfl; rw [hn] at e; (first | obtain rfl := Option.some.inj e | cases e)
  · unfold gCut at e; split at e
    · (first | obtain rfl := Option.some.inj e | cases e)
    · exact G.sub b o' e
  · unfold gCut at e; split at e
    · (first | obtain rfl := Option.some.inj e | cases e)
    · rename_i q
      refine (G.new b o' e).imp (fun e' => ?_) id
      unfold gAdd at e'; rw [if_neg q] at e'; exact e'

section
variable {C : Cx} {d : Nat} {env : Env} {σ : PSt} {Post : Option PV → PSt → Prop}
/-- what a name loads -/
theorem name_ld {M : Model} {A : Around} {s : Shared} {x : Str} {px : Pos} {v : Value} {Q : Value → Shared → Prop} {E : Value → Shared → Prop} (fe : FEnv env) (l : Ld env s.heap x v) (hx : Sto env x) (h : Q v s) (hd : (x == ("__debug__" : Str)) = false) :
    wpAny M A (eval (.Name x px) env) Q E s := by
  refine wpAny_Name ?_ hd
  unfold Ld at l
  rcases hx with hx | ⟨hx, _⟩
  · rw [hx] at l; obtain ⟨m, a, b⟩ := l; exact wpAny_loadName_local fe.kind hx a b h
  · rw [hx] at l; obtain ⟨c, a, b⟩ := l; exact wpAny_loadName_cell fe.kind hx a b h
/-- append to the growing list -/
theorem Xs.append {x : Str} {l : List PV} {px apos cpos spos e p} (fe : FEnv env) (hx : Sto env x) (hg : σ.gro = some (x, l)) (he : Ev C d env ((x, .lst l) :: σ.vars) e p) (hf : p.flat = true) (hsz : l.length ≤ 1000000)
    (hd : (x == ("__debug__" : Str)) = false) (hb : attributeBase (.Name x px) "append" env (eval (.Name x px) env) = eval (.Name x px) env)
    (hfew : ((backTo cpos (starEach [e] env)).all (fun x => !x.1) && (backToKw cpos (keywordEach [] env)).all (fun x => x.1.isSome) && decide (([e] : List Expr).length + ([] : List Keyword).length + (if ([] : List Keyword).isEmpty then 0 else 1) < 30)) = true)
    (hline : (apos.endLine == cpos.line) = true) (htrees : backTo cpos (starEach [e] env) = [(false, eval e env)])
    (hi : interactive env = false) (hs : swapsWith (.Call (.Attribute (.Name x px) "append" apos) [e] [] cpos) none spos.line env = pure false) :
    Xs C d env σ (.Expr (.Call (.Attribute (.Name x px) "append" apos) [e] [] cpos) spos) (fun o σ' => o = none ∧ σ' = { σ with gro := some (x, l ++ [p]) }) := fun A hA s hB gB μ g S Q E hn _ => by
  obtain ⟨a, its, n, rfl, h1, h2, h3, h4, h5, h6, S'⟩ := S.frozen hg
  refine wpAny_Expr (hi := hi) (hs := hs) (wpAny_Call_append hb hfew hline htrees (name_ld fe h4 hx ⟨a, its.toArray, rfl, ⟨_, n, h2, rfl, rfl, rfl⟩, ?_⟩ hd))
  refine he A hA s _ S'.eh _ _ fun v g' h' tk G r => ?_
  have G2 := G.cut h1
  have r2 := r.cut (G.le a _ (gAdd_self ..)) hf
  have S2 := S.grown G2
  have hz : its.toArray.size ≤ sizeLine := by
    rw [List.size_toArray, h3.length, sizeLine_eq]; omega
  refine append_at (hsz := hz) (G.kp _ _ h2) fun h'' hsb hnew => ?_
  have n2 := G2.off h2 h1
  have S3 := S2.drop.same hsb n2 h5 h6 (by simp)
  have hobj : h''.get? a = some (lobj (its ++ [v]) (n + 1)) := by rw [hnew]; simp
  exact hn { σ with gro := some (x, l ++ [p]) } (some a) _ h'' tk ⟨rfl, rfl⟩ (S3.addGro ⟨(h4.kp G.kp).same hsb h6, ⟨its ++ [v], n + 1, hobj, (h3.mono G2.le).append (.cons r2 .nil)⟩, n2, h5, h6⟩) (Stp.trans S2.frm (Stp.grow G2) (Stp.same hsb (.inr rfl)))
theorem Ex.append {x : Str} {l : List PV} {px apos cpos spos e p ss} (fe : FEnv env) (hx : Sto env x) (he : Ev C d env ((x, .lst l) :: σ.vars) e p) (hf : p.flat = true) (hsz : l.length ≤ 1000000) (k : Ex C d env { σ with gro := some (x, l ++ [p]) } ss Post)
    (hg : σ.gro = some (x, l) := by rfl) (hd : (x == ("__debug__" : Str)) = false := by decide) (hb : attributeBase (.Name x px) "append" env (eval (.Name x px) env) = eval (.Name x px) env := by rfl)
    (hfew : ((backTo cpos (starEach [e] env)).all (fun x => !x.1) && (backToKw cpos (keywordEach [] env)).all (fun x => x.1.isSome) && decide (([e] : List Expr).length + ([] : List Keyword).length + (if ([] : List Keyword).isEmpty then 0 else 1) < 30)) = true := by rfl)
    (hline : (apos.endLine == cpos.line) = true := by rfl) (htrees : backTo cpos (starEach [e] env) = [(false, eval e env)] := by rfl)
    (hi : interactive env = false := by rfl) (hs : swapsWith (.Call (.Attribute (.Name x px) "append" apos) [e] [] cpos) none spos.line env = pure false := by rfl) :
    Ex C d env σ (.Expr (.Call (.Attribute (.Name x px) "append" apos) [e] [] cpos) spos :: ss) Post :=
  Ex.cons (Xs.append fe hx hg he hf hsz hd hb hfew hline htrees hi hs) (fun _ h => h.2 ▸ k) fun _ _ h => nomatch h.1
end
end Mine
end
section
open PySem PySem.Calls PyProof.Rows
namespace Mine
theorem ofLen1 {α : Type} {l : List α} (h : l.length = 1) : ∃ a, l = [a] := List.length_eq_one_iff.mp h
theorem ofLen2 {α : Type} {l : List α} (h : l.length = 2) : ∃ a b, l = [a, b] := by
  obtain ⟨a, l, rfl⟩ := List.exists_cons_of_length_eq_add_one h
  obtain ⟨b, rfl⟩ := ofLen1 (Nat.succ.inj h)
  exact ⟨a, b, rfl⟩
theorem ofLen3 {α : Type} {l : List α} (h : l.length = 3) : ∃ a b c, l = [a, b, c] := by
  obtain ⟨a, l, rfl⟩ := List.exists_cons_of_length_eq_add_one h
  obtain ⟨b, c, rfl⟩ := ofLen2 (Nat.succ.inj h)
  exact ⟨a, b, c, rfl⟩
theorem ofLen4 {α : Type} {l : List α} (h : l.length = 4) : ∃ a b c d, l = [a, b, c, d] := by
  obtain ⟨a, l, rfl⟩ := List.exists_cons_of_length_eq_add_one h
  obtain ⟨b, c, d, rfl⟩ := ofLen3 (Nat.succ.inj h)
  exact ⟨a, b, c, d, rfl⟩
noncomputable def fop (f : Value) (vs : List Value) : Sem Value := call f vs
section
variable {C : Cx} {d : Nat} {env : Env} {ρ : Vars}

theorem Ev.callB {x : Str} {px pos e es ps} {id : String} {q : PV} (fe : FEnv env) (hx : env.kindOf x = some .globalImplicit) (hb : x ∈ C.blt) (hv : bootBuiltins x = some (.builtin id)) (ha : Evs C d env ρ (e :: es) ps) (ho : OpOk C d ps (fop (.builtin id)) q)
    (hd : (x == ("__debug__" : Str)) = false := by decide) (he : starEach (e :: es) env = (false, eval e env) :: starEach es env := by rfl) (hp : (backTo pos (starEach es env)).any (·.1) = false := by rfl) :
    Ev C d env ρ (.Call (.Name x px) (e :: es) [] pos) q := fun A hA s g X Q E hQ => by
  obtain ⟨mg, mb, g1, g2, _, g4, _⟩ := X.glo.ex
  obtain ⟨m1, m2⟩ := g4 x hb _ hv
  refine wpAny_Call_NameR (Name_function_global fe.kind hx (loadGlobal_builtin (mg := mg) (mb := mb) (by rw [fe.glob]; exact g1) m1 (by rw [fe.blt]; exact g2) m2 ?_) hd)
  refine callWith_builtin1 (ha A hA s g pos X _ _ fun vs g' h' tk G rs => ?_) he hp
  exact ho A hA _ g' G.sub (X.grow G).glo vs rs Q E fun v g'' h'' tk' G' r => hQ v g'' h'' tk' (G.trans G') r
theorem Ev.callT {x : Str} {px pos e es ps} {T : String} {q : PV} (fe : FEnv env) (hx : env.kindOf x = some .globalImplicit) (hb : x ∈ C.blt) (hv : bootBuiltins x = some (.type T)) (ha : Evs C d env ρ (e :: es) ps) (ho : OpOk C d ps (fop (.type T)) q)
    (hd : (x == ("__debug__" : Str)) = false := by decide) (he : starEach (e :: es) env = (false, eval e env) :: starEach es env := by rfl) (hp : (backTo pos (starEach es env)).any (·.1) = false := by rfl) :
    Ev C d env ρ (.Call (.Name x px) (e :: es) [] pos) q := fun A hA s g X Q E hQ => by
  obtain ⟨mg, mb, g1, g2, _, g4, _⟩ := X.glo.ex
  obtain ⟨m1, m2⟩ := g4 x hb _ hv
  refine wpAny_Call_NameR (Name_function_global fe.kind hx (loadGlobal_builtin (mg := mg) (mb := mb) (by rw [fe.glob]; exact g1) m1 (by rw [fe.blt]; exact g2) m2 ?_) hd)
  refine callWith_type1 (ha A hA s g pos X _ _ fun vs g' h' tk G rs => ?_) he hp
  exact ho A hA _ g' G.sub (X.grow G).glo vs rs Q E fun v g'' h'' tk' G' r => hQ v g'' h'' tk' (G.trans G') r
/-- a name of a type, as a value -/
theorem Ev.typ {x : Str} {px} {T : String} (fe : FEnv env) (hx : env.kindOf x = some .globalImplicit) (hb : x ∈ C.blt) (hv : bootBuiltins x = some (.type T)) (hd : (x == ("__debug__" : Str)) = false := by decide) : Ev C d env ρ (.Name x px) (.typ T) := fun A hA s g X Q E hQ => by
  obtain ⟨mg, mb, g1, g2, _, g4, _⟩ := X.glo.ex
  obtain ⟨m1, m2⟩ := g4 x hb _ hv
  exact Name_function_global fe.kind hx (loadGlobal_builtin (mg := mg) (mb := mb) (by rw [fe.glob]; exact g1) m1 (by rw [fe.blt]; exact g2) m2 (hQ _ g s.heap s.toks (Grow.refl X.sub) (.typ T))) hd

/-- a def, called -/
noncomputable def CallOk (C : Cx) (d : Nat) (r : DefRow) (ps : List PV) (q : PV) : Prop :=
  ∀ A, AOk C d A → ∀ (s : Shared) (g : Ghost), GSub g s.heap → Glo C.blt C.defs s.heap → ∀ f o pm cd doc, s.heap.get? f = some o → o.data = .func (docDef r.name r.params r.body r.scope pm cd doc) → s.heap.CodeRec cd r.name →
    ∀ vs, Reps g vs ps → ∀ (Q : Value → Shared → Prop) (E : Value → Shared → Prop), (∀ v g' h' tk, Grow g s.heap g' h' → Rep g' v q → Q v { s with heap := h', toks := tk }) → wpAny C.M A (call (.ref f) vs) Q E s
theorem Ev.callF {r : DefRow} {px pos e es ps} {q : PV} (fe : FEnv env) (hx : env.kindOf r.name = some .globalImplicit) (hr : r ∈ C.defs) (ha : Evs C d env ρ (e :: es) ps) (ho : CallOk C d r ps q)
    (hd : (r.name == ("__debug__" : Str)) = false := by decide) (he : starEach (e :: es) env = (false, eval e env) :: starEach es env := by rfl) :
    Ev C d env ρ (.Call (.Name r.name px) (e :: es) [] pos) q := fun A hA s g X Q E hQ => by
  obtain ⟨mg, mb, g1, g2, _, g4, g5⟩ := X.glo.ex
  obtain ⟨f, o, pm, cd, doc, e1, e2, e3, e4⟩ := (g5 r hr).at_
  refine wpAny_Call_NameR (Name_function_global fe.kind hx (loadGlobal_global (mg := mg) (by rw [fe.glob]; exact g1) e1 ?_) hd)
  refine callWith_def e3 (ha A hA s g pos X _ _ fun vs g' h' tk G rs => ⟨G.kp _ _ e2, ?_⟩) he
  exact ho A hA _ g' G.sub (X.grow G).glo f o pm cd doc (G.kp _ _ e2) e3 (Heap.CodeRec.keeps (h' := h') e4 G.kp) vs rs Q E fun v g'' h'' tk' G' r => hQ v g'' h'' tk' (G.trans G') r

/-- the def's own environment -/
noncomputable abbrev fenv (r : DefRow) (L f : Addr) (cd : Value) : Env := envOfC r.name r.scope L f cd
theorem lookup_zip {ns : List Str} {vs : List Value} {ps : List PV} {g : Ghost} (r : Reps g vs ps) {x p} (e : (ns.zip ps).lookup x = some p) : ∃ v, (ns.zip vs).lookup x = some v ∧ Rep g v p := by
  refine r.ind (P := fun vs ps => ∀ ns : List Str, (ns.zip ps).lookup x = some p → ∃ v, (ns.zip vs).lookup x = some v ∧ Rep g v p) (fun ns e => ?_) (fun v q vs ps h _ ih ns e => ?_) ns e
  · rw [List.zip_nil_right] at e; cases e
  · cases ns with
    | nil => cases e
    | cons n ns =>
      rw [List.zip_cons_cons, List.lookup_cons] at e ⊢
      cases qq : x == n with
      | true => rw [qq] at e; exact ⟨v, rfl, Option.some.inj e ▸ h⟩
      | false => rw [qq] at e; exact ih ns e

theorem bindL_get {k : Str → Option NameKind} : ∀ {bs : List (Str × Value)} {m : Str → Option Value} {x : Str} {v : Value}, k x = some .local → (bs.map (·.1)).Nodup → bs.lookup x = some v → bindL k bs m x = some v := by
  have off : ∀ {bs : List (Str × Value)} {m : Str → Option Value} {x : Str}, x ∉ bs.map (·.1) → bindL k bs m x = m x := by
    intro bs
    induction bs with
    | nil => intro m x _; rfl
    | cons b r ih =>
      obtain ⟨n, v⟩ := b
      intro m x hx
      simp only [List.map_cons, List.mem_cons, not_or] at hx
      unfold bindL
      rw [ih hx.2]
      split
      · simp [hx.1]
      · rfl
  intro bs
  induction bs with
  | nil => intro m x v _ _ e; simp at e
  | cons b r ih =>
    obtain ⟨n, w⟩ := b
    intro m x v hk hn e
    simp only [List.map_cons, List.nodup_cons] at hn
    rw [List.lookup_cons] at e
    unfold bindL
    by_cases q : x = n
    · subst q
      rw [beq_self_eq_true] at e; (first | obtain rfl := Option.some.inj e | cases e)
      rw [off hn.1, if_pos hk]; simp
    · rw [beq_eq_false_iff_ne.mpr q] at e
      exact ih hk hn.2 e
theorem bindC_get {k : Str → Option NameKind} : ∀ {bs : List (Str × Value)} {m : Str → Option Value} {x : Str} {v : Value}, k x ≠ some .local → (bs.map (·.1)).Nodup → bs.lookup x = some v → bindC k bs m x = some v := by
  have off : ∀ {bs : List (Str × Value)} {m : Str → Option Value} {x : Str}, x ∉ bs.map (·.1) → bindC k bs m x = m x := by
    intro bs
    induction bs with
    | nil => intro m x _; rfl
    | cons b r ih =>
      obtain ⟨n, v⟩ := b
      intro m x hx
      simp only [List.map_cons, List.mem_cons, not_or] at hx
      unfold bindC
      rw [ih hx.2]
      split
      · rfl
      · simp [hx.1]
  intro bs
  induction bs with
  | nil => intro m x v _ _ e; simp at e
  | cons b r ih =>
    obtain ⟨n, w⟩ := b
    intro m x v hk hn e
    simp only [List.map_cons, List.nodup_cons] at hn
    rw [List.lookup_cons] at e
    unfold bindC
    by_cases q : x = n
    · subst q
      rw [beq_self_eq_true] at e; (first | obtain rfl := Option.some.inj e | cases e)
      rw [off hn.1, if_neg hk]; simp
    · rw [beq_eq_false_iff_ne.mpr q] at e
      exact ih hk hn.2 e

theorem enter_kinds {r : DefRow} {ns : List Str} {vs : List Value} (hlen : vs.length = ns.length) (hk : (ns.all fun x => r.scope.names.lookup x == some .local || r.scope.names.lookup x == some .cell) = true) :
    ((ns.zip vs).all fun y => r.scope.names.lookup y.1 == some .local || r.scope.names.lookup y.1 == some .cell) = true := by
  rw [List.all_eq_true] at hk ⊢
  intro y hy
  have hnames : (ns.zip vs).map (·.1) = ns := by rw [List.map_fst_zip (Nat.le_of_eq hlen.symm)]
  exact hk y.1 (by rw [← hnames]; exact List.mem_map_of_mem hy)
/-- the parameters, where a def's call has laid them -/
theorem enter_vars {r : DefRow} {ns : List Str} {vs : List Value} {ps : List PV} {g : Ghost} {L f : Addr} {cd : Value} {h₀ h₁ : Heap} (rs : Reps g vs ps) (hlen : vs.length = ns.length) (hn : ns.Nodup) (hk : (ns.all fun x => r.scope.names.lookup x == some .local || r.scope.names.lookup x == some .cell) = true)
    (F : Fr h₀ L h₁ (bindL (fenv r L f cd).kindOf (ns.zip vs) fun _ => none)) (X : Cl L (cellsFrom (L + 1) r.scope.names []) h₁ (bindC (fenv r L f cd).kindOf (ns.zip vs) fun _ => none)) {x : Str} {p : PV} (e : (ns.zip ps).lookup x = some p) : ∃ v, Ld (fenv r L f cd) h₁ x v ∧ Rep g v p := by
  have hnames : (ns.zip vs).map (·.1) = ns := by rw [List.map_fst_zip (Nat.le_of_eq hlen.symm)]
  have hnn : ((ns.zip vs).map (·.1)).Nodup := by rw [hnames]; exact hn
  obtain ⟨v, e1, e2⟩ := lookup_zip rs e
  refine ⟨v, ?_, e2⟩
  have hx : x ∈ (ns.zip vs).map (·.1) := List.mem_map.mpr ⟨(x, v), mem_of_lookup e1, rfl⟩
  have hk1 := List.all_eq_true.mp hk x (hnames ▸ hx)
  have hko : (fenv r L f cd).kindOf x = r.scope.names.lookup x := rfl
  unfold Ld
  rcases Bool.or_eq_true_iff.mp hk1 with hk1 | hk1
  · have hk2 : r.scope.names.lookup x = some .local := beq_iff_eq.mp hk1
    rw [hko, hk2]
    exact ⟨_, F.ns, bindL_get hk2 hnn e1⟩
  · have hk2 : r.scope.names.lookup x = some .cell := beq_iff_eq.mp hk1
    rw [hko, hk2]
    obtain ⟨c, hc⟩ := Option.isSome_iff_exists.mp (PySem.W.cellsFrom_some r.scope.names (L + 1) [] (.inl hk2))
    refine ⟨c, hc, ?_⟩
    have hne : (fenv r L f cd).kindOf x ≠ some .local := by rw [hko, hk2]; simp
    exact (bindC_get (m := fun _ => none) hne hnn e1) ▸ X.cell x c hc
theorem enter_frm {xa : Exm} {r : DefRow} {L f : Addr} {cd : Value} {h₀ h₁ : Heap} {m cm : Str → Option Value} (hnd : ((cellsFrom 0 r.scope.names []).map (·.1)).Nodup) (F : Fr h₀ L h₁ m) (X : Cl L (cellsFrom (L + 1) r.scope.names []) h₁ cm)
    (e1 : ∀ a, xa.adr = some a → ∃ o es n, h₁.get? a = some o ∧ o.data = .dict es n ∧ ∃ sl, o = { xa.obj with slots := sl }) (e2 : ∀ a, xa.adr = some a → a < L) : Frm xa (fenv r L f cd) h₁ :=
  ⟨⟨_, F.ns⟩, fun n c e => ⟨_, X.cell n c e⟩, X.apart, fun n c hm => Nat.ne_of_gt (X.above n c hm), fun n c hm => ⟨n, lookup_of_mem_nodup (cellsFrom_names r.scope.names 0 (L + 1) [] [] rfl ▸ hnd) hm⟩, e1, fun a e => ⟨Nat.ne_of_lt (e2 a e), fun n hm => absurd (X.above n a hm) (Nat.not_lt.mpr (Nat.le_of_lt (e2 a e)))⟩⟩
theorem enter_SA {C : Cx} {r : DefRow} {ns : List Str} {vs : List Value} {ps : List PV} {g : Ghost} {f : Addr} {cd : Value} {h₀ h₁ : Heap} (hex : C.ex.adr = none) (hs : GSub g h₀) (hg : Glo C.blt C.defs h₀) (rs : Reps g vs ps) (hlen : vs.length = ns.length) (hn : ns.Nodup) (hk : (ns.all fun x => r.scope.names.lookup x == some .local || r.scope.names.lookup x == some .cell) = true) (hnd : ((cellsFrom 0 r.scope.names []).map (·.1)).Nodup)
    (F : Fr h₀ h₀.objs.size h₁ (bindL (fenv r h₀.objs.size f cd).kindOf (ns.zip vs) fun _ => none)) (X : Cl h₀.objs.size (cellsFrom (h₀.objs.size + 1) r.scope.names []) h₁ (bindC (fenv r h₀.objs.size f cd).kindOf (ns.zip vs) fun _ => none)) : SA C (fenv r h₀.objs.size f cd) h₀ g ⟨ns.zip ps, none⟩ none g h₁ := by
  refine ⟨⟨F.keep, GLe.refl g, fun b o e => F.keep b o (hs b o e), fun b o e => .inl e⟩, hg, enter_frm hnd F X (fun a e => by rw [hex] at e; cases e) (fun a e => by rw [hex] at e; cases e), fun a ha => ?_, fun x p e => enter_vars rs hlen hn hk F X e, trivial⟩
  have hge : h₀.get? a = none := Heap.get?_none_of_le (by
    rcases ha with (rfl | ⟨n, hm⟩) | e
    · exact Nat.le_refl _
    · exact Nat.le_of_lt (X.above n a hm)
    · rw [hex] at e; cases e)
  exact ⟨hs.off hge, hge⟩
theorem CallOk.of {r : DefRow} {ps : List PV} {q : PV} {ns : List Str}
    (hb : ∀ vs : List Value, vs.length = ps.length → ∀ pm cd doc, bindArgs (docDef r.name r.params r.body r.scope pm cd doc) ⟨vs, []⟩ = pure (ns.zip vs))
    (hn : ns.Nodup) (hl : ns.length = ps.length) (hk : (ns.all fun x => r.scope.names.lookup x == some .local || r.scope.names.lookup x == some .cell) = true)
    (hnd : ((cellsFrom 0 r.scope.names []).map (·.1)).Nodup)
    (hco : r.scope.isCoroutine = false) (hgen : r.scope.isGenerator = false) (hkf : r.scope.kind = .function)
    (body : ∀ L f cd, Ex C d (fenv r L f cd) ⟨ns.zip ps, none⟩ r.body (fun o _ => o = some q)) (hex : C.ex.adr = none := by rfl) (hfr : ∀ A, C.fr A := by intro _; trivial) : CallOk C (d + 1) r ps q := fun A hA s g hs hg f o pm cd doc ho hd hcd vs rs Q E hQ => by
  have hlen : vs.length = ns.length := rs.length.trans hl.symm
  obtain ⟨mg, mb, _, _, hlim, _, _⟩ := hg.ex
  refine wpAny_call (call_cells (binds := ns.zip vs) (by have := hA.depth; omega) ho hd hlim hcd (hb vs rs.length pm cd doc) (PySem.W.kindsX (enter_kinds hlen hk) _) (fun h₁ tk F X => ?_) hco hgen hkf)
  have S := enter_SA (C := C) (f := f) (cd := cd) hex hs hg rs hlen hn hk hnd F X
  have hA' : AOk C d (A.deeper (fenv r s.heap.objs.size f cd)) := ⟨hA.handled, by show A.depth + 1 + d < _; have := hA.depth; omega, by show A.units + 3 + 8 * d + 8 < _; have := hA.units; omega, hfr _⟩
  exact body s.heap.objs.size f cd _ hA' _ s.heap g none g S _ _ (fun σ' μ' g' h' tk' hp => nomatch hp) fun p σ' v g' h' tk' hp G r => by
    (first | obtain rfl := Option.some.inj hp | cases hp)
    exact hQ v g' h' tk' G.grow r
end
end Mine
end
section
open PySem PySem.Calls PyProof.Rows
namespace Mine
structure ItS (C : Cx) (A : Around) (I : Addr) (items : List PV) (g : Ghost) (h : Heap) (fp : List Addr) (St : Nat → Heap → Prop) : Prop where
  W : Walks C.prog C.w A I fp [I] items.length (fun i v => ∃ p, items[i]? = some p ∧ Rep g v p) St
  st : St 0 h
  gI : g I = none
  fpo : ∀ b ∈ fp, b = I ∨ ∃ o, g b = some o
  live : ∀ i h, St i h → ∃ o, h.get? I = some o
/-- what an iterable hands out -/
noncomputable def Itb (C : Cx) (d : Nat) (env : Env) (ρ : Vars) (e : Expr) (items : List PV) : Prop :=
  ∀ A, AOk C d A → ∀ (s : Shared) (g : Ghost), EH C env ρ g s.heap → ∀ (Q : Value → Shared → Prop) (E : Value → Shared → Prop),
    (∀ I fp St g' h' tk, Grow g s.heap g' h' → s.heap.get? I = none → ItS C A I items g' h' fp St → Q (.ref I) { s with heap := h', toks := tk }) →
    wpAny C.M A (eval e env) (fun x s₁ => wpAny C.M A (pyIter x) Q E s₁) E s
section
variable {C : Cx} {d : Nat} {env : Env} {ρ : Vars}
theorem Walks.repl {prog : Program} {w : World} {A : Around} {I : Addr} {fp wr : List Addr} {n : Nat} {P P' : Nat → Value → Prop} {St : Nat → Heap → Prop} (W : Walks prog w A I fp wr n P St) (h : ∀ i v, i < n → P i v → P' i v) : Walks prog w A I fp wr n P' St where
  sub := W.sub
  frame := W.frame
  item := fun i s Q E hi st hQ => W.item i s Q E hi st fun v h' tk hP => hQ v h' tk (h i v hi hP)
  done := W.done
  self := W.self
theorem Itb.list {e : Expr} {l : List PV} (he : Ev C d env ρ e (.lst l)) : Itb C d env ρ e l := fun A hA s g X Q E hQ => by
  refine he A hA s g X _ E fun v g' h' tk G r => ?_
  obtain ⟨a, its, n, rfl, ha, rs⟩ := r.isList
  have hl : h'.IsList a its.toArray := isList_lobj (G.sub _ _ ha)
  have hlt : a < h'.objs.size := Heap.lt_size (G.sub _ _ ha)
  refine wpAny_pyIter_list (s := { s with heap := h', toks := tk }) hl ?_
  have Gr := Grow.hidden G.sub ({ cls := .type "list_iterator", data := .fields #[.ref a, .int 0 0] } : Obj)
  have hnew : h'.get? h'.objs.size = none := get_size h'
  have W := Walks.list (prog := C.prog) (w := C.w) hA.handled h'.objs.size a (Nat.ne_of_lt hlt) its.toArray
  have hz : its.toArray.size = l.length := by rw [List.size_toArray, rs.length]
  rw [hz] at W
  refine hQ h'.objs.size _ _ g' _ _ (G.trans Gr) (G.kp.none hnew) ⟨Walks.repl W fun i v _ hv => ?_, ⟨⟨_, Heap.get?_push_size _ rfl, rfl, rfl⟩, hl.push _⟩, G.sub.off hnew, fun b hb => ?_, fun i h st => ?_⟩
  · obtain ⟨p, e1, e2⟩ := rs.get' (i := i) (v := v) (by simpa using hv)
    exact ⟨p, e1, e2⟩
  · rcases List.mem_cons.mp hb with rfl | hb
    · exact .inl rfl
    · rw [List.mem_singleton.mp hb]; exact .inr ⟨_, ha⟩
  · obtain ⟨o, e, _⟩ := st.1; exact ⟨o, e⟩
theorem Itb.tup {e : Expr} {l : List PV} (he : Ev C d env ρ e (.tup l)) : Itb C d env ρ e l := fun A hA s g X Q E hQ => by
  refine he A hA s g X _ E fun v g' h' tk G r => ?_
  obtain ⟨a, its, n, rfl, ha, rs⟩ := r.isTup
  have hl : h'.IsTuple a its.toArray := ⟨_, G.sub _ _ ha, rfl, n, rfl⟩
  have hlt : a < h'.objs.size := Heap.lt_size (G.sub _ _ ha)
  refine wpAny_pyIter_tuple (s := { s with heap := h', toks := tk }) hl ?_
  have hnew : h'.get? h'.objs.size = none := get_size h'
  have W := Walks.tuple (prog := C.prog) (w := C.w) hA.handled h'.objs.size a (Nat.ne_of_lt hlt) its.toArray
  have hz : its.toArray.size = l.length := by rw [List.size_toArray, rs.length]
  rw [hz] at W
  refine hQ h'.objs.size _ _ g' _ _ (G.trans (Grow.hidden G.sub _)) (G.kp.none hnew) ⟨Walks.repl W fun i v _ hv => ?_, ⟨⟨_, Heap.get?_push_size _ rfl, rfl, rfl⟩, hl.push _⟩, G.sub.off hnew, fun b hb => ?_, fun i h st => ?_⟩
  · obtain ⟨p, e1, e2⟩ := rs.get' (i := i) (v := v) (by simpa using hv)
    exact ⟨p, e1, e2⟩
  · rcases List.mem_cons.mp hb with rfl | hb
    · exact .inl rfl
    · rw [List.mem_singleton.mp hb]; exact .inr ⟨_, ha⟩
  · obtain ⟨o, e, _⟩ := st.1; exact ⟨o, e⟩
/-- the numbers of a range -/
noncomputable def rng (a : Int) (n : Nat) (c : Int) : List PV := (List.range n).map fun i : Nat => PV.int (a + (i : Int) * c)
theorem rng_length (a c : Int) (n : Nat) : (rng a n c).length = n := by simp [rng]
theorem rng_get {a c : Int} {n i : Nat} (hi : i < n) : (rng a n c)[i]? = some (.int (a + (i : Int) * c)) := by simp [rng, hi]
theorem range_its {A : Around} (hA : AOk C d A) {s : Shared} {g : Ghost} (hs : GSub g s.heap) {r : Addr} {a b c : Int} {t u v : Tok} {n : Nat} (hr : IsRange s.heap r a b c t u v) (hsm : Builtin.Range.small a b c = true) (hn : Builtin.Range.rangeSize a b c = (n : Int)) {Q : Value → Shared → Prop} {E : Value → Shared → Prop}
    (hQ : ∀ I fp St g' h' tk, Grow g s.heap g' h' → s.heap.get? I = none → ItS C A I (rng a n c) g' h' fp St → Q (.ref I) { s with heap := h', toks := tk }) : wpAny C.M A (pyIter (.ref r)) Q E s := by
  refine wpAny_pyIter_range hr hsm ?_
  have hnew : s.heap.get? s.heap.objs.size = none := get_size _
  have W := Walks.range (prog := C.prog) (w := C.w) hA.handled s.heap.objs.size a c n
  refine hQ s.heap.objs.size [s.heap.objs.size] (fun i h => IsRangeIter h s.heap.objs.size (a + (i : Nat) * c) ((n : Int) - (i : Nat)) c) g _ s.toks (Grow.hidden hs _) hnew ⟨?_, ?_, hs.off hnew, fun b hb => .inl (List.mem_singleton.mp hb), fun i h st => ⟨_, st⟩⟩
  · have W' := Walks.repl (P' := fun i v => ∃ p, (rng a n c)[i]? = some p ∧ Rep g v p) W (fun i v hi ⟨t, e⟩ => ⟨_, rng_get hi, by rw [e]; exact .int _ _⟩)
    rw [rng_length]; exact W'
  · show IsRangeIter _ _ _ _ _
    rw [hn]
    simpa using Heap.get?_push_size _ rfl
theorem Itb.range1 {x : Str} {px pos e} {b : Int} {n : Nat} (fe : FEnv env) (hx : env.kindOf x = some .globalImplicit) (hb : x ∈ C.blt) (hv : bootBuiltins x = some (.type "range")) (he : Ev C d env ρ e (.int b)) (hsm : Builtin.Range.small 0 b 1 = true) (hn : Builtin.Range.rangeSize 0 b 1 = (n : Int))
    (hd : (x == ("__debug__" : Str)) = false := by decide) (hse : starEach [e] env = (false, eval e env) :: starEach [] env := by rfl) : Itb C d env ρ (.Call (.Name x px) [e] [] pos) (rng 0 n 1) := fun A hA s g X Q E hQ => by
  obtain ⟨mg, mb, g1, g2, _, g4, _⟩ := X.glo.ex
  obtain ⟨m1, m2⟩ := g4 x hb _ hv
  refine wpAny_Call_NameR (Name_function_global fe.kind hx (loadGlobal_builtin (mg := mg) (mb := mb) (by rw [fe.glob]; exact g1) m1 (by rw [fe.blt]; exact g2) m2 ?_) hd)
  refine callWith_type1 (Evs.cons he Evs.nil hse A hA s g pos X _ _ fun vs g' h' tk G rs => ?_) hse
  obtain ⟨_, _, rfl, h1, hr⟩ := rs.inv
  obtain rfl := hr.inv
  obtain ⟨tb, rfl⟩ := h1.inv
  have Gr := Grow.hidden G.sub ({ cls := .type "range", data := .fields #[.int 0 tk, .int b tb, .int 1 (tk + 1)] } : Obj)
  refine call_range_1 (range_its (C := C) (n := n) hA Gr.sub (IsRange.new ..) hsm hn fun I fp St g'' h'' tk' G' hI its => hQ I fp St g'' h'' tk' ((G.trans Gr).trans G') ((G.trans Gr).kp.none hI) its)
theorem Itb.range2 {x : Str} {px pos e₁ e₂} {a b : Int} {n : Nat} (fe : FEnv env) (hx : env.kindOf x = some .globalImplicit) (hb : x ∈ C.blt) (hv : bootBuiltins x = some (.type "range")) (h1 : Ev C d env ρ e₁ (.int a)) (h2 : Ev C d env ρ e₂ (.int b)) (hsm : Builtin.Range.small a b 1 = true) (hn : Builtin.Range.rangeSize a b 1 = (n : Int))
    (hd : (x == ("__debug__" : Str)) = false := by decide) (hse : starEach [e₁, e₂] env = (false, eval e₁ env) :: starEach [e₂] env := by rfl) (hse2 : starEach [e₂] env = (false, eval e₂ env) :: starEach [] env := by rfl) (hp : (backTo pos (starEach [e₂] env)).any (·.1) = false := by rfl) : Itb C d env ρ (.Call (.Name x px) [e₁, e₂] [] pos) (rng a n 1) := fun A hA s g X Q E hQ => by
  obtain ⟨mg, mb, g1, g2, _, g4, _⟩ := X.glo.ex
  obtain ⟨m1, m2⟩ := g4 x hb _ hv
  refine wpAny_Call_NameR (Name_function_global fe.kind hx (loadGlobal_builtin (mg := mg) (mb := mb) (by rw [fe.glob]; exact g1) m1 (by rw [fe.blt]; exact g2) m2 ?_) hd)
  refine callWith_type1 (Evs.cons h1 (Evs.cons h2 Evs.nil hse2) hse A hA s g pos X _ _ fun vs g' h' tk G rs => ?_) hse hp
  obtain ⟨_, _, rfl, r1, hr⟩ := rs.inv
  obtain ⟨_, _, rfl, r2, hr⟩ := hr.inv
  obtain rfl := hr.inv
  obtain ⟨_, rfl⟩ := r1.inv
  obtain ⟨_, rfl⟩ := r2.inv
  · · have Gr := fun o => Grow.hidden G.sub o
      refine call_range_2 (range_its (C := C) (n := n) hA (Gr _).sub (IsRange.new ..) hsm hn fun I fp St g'' h'' tk' G' hI its => hQ I fp St g'' h'' tk' ((G.trans (Gr _)).trans G') ((G.trans (Gr _)).kp.none hI) its)
theorem Itb.range3 {x : Str} {px pos e₁ e₂ e₃} {a b c : Int} {n : Nat} (fe : FEnv env) (hx : env.kindOf x = some .globalImplicit) (hb : x ∈ C.blt) (hv : bootBuiltins x = some (.type "range")) (h1 : Ev C d env ρ e₁ (.int a)) (h2 : Ev C d env ρ e₂ (.int b)) (h3 : Ev C d env ρ e₃ (.int c)) (hc : c ≠ 0) (hc2 : c.natAbs < 1073741824) (hsm : Builtin.Range.small a b c = true) (hn : Builtin.Range.rangeSize a b c = (n : Int))
    (hd : (x == ("__debug__" : Str)) = false := by decide) (hse : starEach [e₁, e₂, e₃] env = (false, eval e₁ env) :: starEach [e₂, e₃] env := by rfl) (hse2 : starEach [e₂, e₃] env = (false, eval e₂ env) :: starEach [e₃] env := by rfl) (hse3 : starEach [e₃] env = (false, eval e₃ env) :: starEach [] env := by rfl) (hp : (backTo pos (starEach [e₂, e₃] env)).any (·.1) = false := by rfl) : Itb C d env ρ (.Call (.Name x px) [e₁, e₂, e₃] [] pos) (rng a n c) := fun A hA s g X Q E hQ => by
  obtain ⟨mg, mb, g1, g2, _, g4, _⟩ := X.glo.ex
  obtain ⟨m1, m2⟩ := g4 x hb _ hv
  refine wpAny_Call_NameR (Name_function_global fe.kind hx (loadGlobal_builtin (mg := mg) (mb := mb) (by rw [fe.glob]; exact g1) m1 (by rw [fe.blt]; exact g2) m2 ?_) hd)
  refine callWith_type1 (Evs.cons h1 (Evs.cons h2 (Evs.cons h3 Evs.nil hse3) hse2) hse A hA s g pos X _ _ fun vs g' h' tk G rs => ?_) hse hp
  obtain ⟨_, _, rfl, r1, hr⟩ := rs.inv
  obtain ⟨_, _, rfl, r2, hr⟩ := hr.inv
  obtain ⟨_, _, rfl, r3, hr⟩ := hr.inv
  obtain rfl := hr.inv
  obtain ⟨_, rfl⟩ := r1.inv
  obtain ⟨_, rfl⟩ := r2.inv
  obtain ⟨_, rfl⟩ := r3.inv
  · · · have Gr := fun o => Grow.hidden G.sub o
        refine call_range_3 hc (range_its (C := C) (n := n) hA (Gr _).sub (IsRange.new ..) hsm hn fun I fp St g'' h'' tk' G' hI its => hQ I fp St g'' h'' tk' ((G.trans (Gr _)).trans G') ((G.trans (Gr _)).kp.none hI) its) (.inl (PyProof.noPylong_small hc2))
end

section
variable {C : Cx} {d : Nat} {env : Env} {σ : PSt} {Post : Option PV → PSt → Prop}
/-- where a loop stands after i turns -/
structure ForInv (C : Cx) (env : Env) (hB : Heap) (gB : Ghost) (μ : Option Addr) (g : Ghost) (h₀ : Heap) (g₁ : Ghost) (I : Addr) (len : Nat) (Inv : Nat → PSt → Prop) (St : Nat → Heap → Prop) (i : Nat) (σ' : PSt) (μ' : Option Addr) (g' : Ghost) (h' : Heap) : Prop where
  le : i ≤ len
  inv : Inv i σ'
  sa : SA C env hB gB σ' μ' g' h'
  st : St i h'
  sp : Stp C.ex env μ g h₀ μ' g' h'
  gle : GLe g₁ g'
  gI : g' I = none
  mI : μ' ≠ some I
section
variable {hB : Heap} {gB : Ghost} {μ μ' : Option Addr} {g g' g₁ : Ghost} {h₀ h' h₂ : Heap} {I : Addr} {len : Nat} {Inv : Nat → PSt → Prop} {St : Nat → Heap → Prop} {i : Nat} {σ' : PSt} {s : Shared}
noncomputable def ForAt (C : Cx) (env : Env) (hB : Heap) (gB : Ghost) (μ : Option Addr) (g : Ghost) (g₁ : Ghost) (I : Addr) (len : Nat) (Inv : Nat → PSt → Prop) (St : Nat → Heap → Prop) (s : Shared) (k : Nat) (s' : Shared) : Prop :=
  ∃ i σ' μ' g' h' tk, s' = { s with heap := h', toks := tk } ∧ k = len + 1 - i ∧ ForInv C env hB gB μ g s.heap g₁ I len Inv St i σ' μ' g' h'
theorem ForInv.at (V : ForInv C env hB gB μ g s.heap g₁ I len Inv St i σ' μ' g' h') (tk : Tok) : ForAt C env hB gB μ g g₁ I len Inv St s (len + 1 - i) { s with heap := h', toks := tk } := ⟨i, σ', μ', g', h', tk, rfl, rfl, V⟩
theorem ForInv.less (V : ForInv C env hB gB μ g s.heap g₁ I len Inv St (i + 1) σ' μ' g' h') (tk : Tok) : ∃ m, m < len + 1 - i ∧ ForAt C env hB gB μ g g₁ I len Inv St s m { s with heap := h', toks := tk } :=
  ⟨_, Nat.sub_lt_sub_left (Nat.lt_succ_of_lt V.le) (Nat.lt_succ_self i), V.at tk⟩
/-- an iterator turns: nothing of the frame's -/
theorem SA.apart (S : SA C env hB gB σ μ g h₀) (hnew : h₀.get? I = none) : hB.get? I = none ∧ (¬ At C.ex env I) ∧ μ ≠ some I := by
  refine ⟨S.grow.kp.none hnew, fun q => ?_, ?_⟩
  · obtain ⟨o, e⟩ := q.live S.frm; rw [hnew] at e; cases e
  · rintro rfl
    have := S.gro
    cases hq : σ.gro with
    | none => rw [hq] at this; exact this
    | some y => rw [hq] at this; obtain ⟨_, ⟨its, n, e, _⟩, _⟩ := this; rw [hnew] at e; cases e
theorem Ld.but {env : Env} (hA : ¬ At xa env I) (hex : ∀ b o, b ≠ I → h'.get? b = some o → h₂.get? b = some o) {y : Str} {w : Value} (l : Ld env h' y w) : Ld env h₂ y w := by
  unfold Ld at l ⊢
  split at l
  · obtain ⟨m', a, c⟩ := l; exact ⟨m', a.at' fun o e => hex _ o (fun q => hA (.inl (.inl q.symm))) e, c⟩
  · obtain ⟨c', a, o, c1, c2⟩ := l; exact ⟨c', a, o, hex _ o (fun q => hA (.inl (.inr ⟨y, q ▸ mem_of_lookup a⟩))) c1, c2⟩
  · obtain ⟨c', a, o, c1, c2⟩ := l; exact ⟨c', a, o, hex _ o (fun q => hA (.inl (.inr ⟨y, q ▸ mem_of_lookup a⟩))) c1, c2⟩
  · trivial
theorem ne_at {g : Ghost} {b : Addr} {o : Obj} (e : g b = some o) (n : g I = none) : b ≠ I := fun q => by rw [q, n] at e; cases e
theorem ne_get {h : Heap} {b : Addr} {o : Obj} (e : h.get? b = some o) (n : h.get? I = none) : b ≠ I := fun q => by rw [q, n] at e; cases e
theorem SA.but (S' : SA C env hB gB σ' μ' g' h') (hIB : hB.get? I = none) (hIA : ¬ At C.ex env I) (gI : g' I = none) (mI : μ' ≠ some I) (hex : ∀ b o, b ≠ I → h'.get? b = some o → h₂.get? b = some o) : SA C env hB gB σ' μ' g' h₂ := by
  refine ⟨⟨fun b o e => hex b o (ne_get e hIB) (S'.grow.kp b o e), S'.grow.le, fun b o e => hex b o (ne_at e gI) (S'.grow.sub b o e), S'.grow.new⟩, S'.glo, ⟨?_, fun n c e => ?_, S'.frm.apart, S'.frm.loc, S'.frm.found, fun a e => (let ⟨o, es, n, q, r⟩ := S'.frm.ex_ a e; ⟨o, es, n, hex _ o (fun z => hIA (z ▸ .inr e)) q, r⟩), S'.frm.exl⟩, S'.off, fun y p' e => ?_, ?_⟩
  · obtain ⟨m, hm⟩ := S'.frm.ns; exact ⟨m, hm.at' fun o e => hex _ o (fun q => hIA (.inl (.inl q.symm))) e⟩
  · obtain ⟨w, o, c1, c2⟩ := S'.frm.cell n c e; exact ⟨w, o, hex _ o (fun q => hIA (.inl (.inr ⟨n, q ▸ mem_of_lookup e⟩))) c1, c2⟩
  · obtain ⟨w, a, c⟩ := S'.vars y p' e; exact ⟨w, Ld.but hIA hex a, c⟩
  · exact S'.gro.imp fun z a _ hμa ⟨m1, ⟨its, n, m2, m3⟩, m4, m5, m6⟩ => ⟨Ld.but hIA hex m1, ⟨its, n, hex _ _ (fun q => mI (q ▸ hμa)) m2, m3⟩, m4, m5, m6⟩
theorem Stp.but (sp : Stp C.ex env μ g h₀ μ' g' h') (hnew : h₀.get? I = none) (hex : ∀ b o, b ≠ I → h'.get? b = some o → h₂.get? b = some o) : Stp C.ex env μ g h₀ μ' g' h₂ :=
  ⟨sp.mu, fun c o e h1 h2 => hex c o (ne_get e hnew) (sp.kp c o e h1 h2), sp.le, sp.new⟩
theorem ForInv.start {A : Around} {items : List PV} {fp : List Addr} {h₁ : Heap} (its : ItS C A I items g₁ h₁ fp St) (S : SA C env hB gB σ μ g h₀) (G : Grow g h₀ g₁ h₁) (h0 : Inv 0 σ) (hnew : h₀.get? I = none) : ForInv C env hB gB μ g h₀ g₁ I items.length Inv St 0 σ μ g₁ h₁ :=
  ⟨Nat.zero_le _, h0, S.grown G, its.st, Stp.grow G, GLe.refl _, its.gI, (S.apart hnew).2.2⟩
/-- the body has run -/
theorem ForInv.next {A : Around} {items : List PV} {fp : List Addr} {h₁ h₃ h₄ : Heap} {σ₃ σ₄ : PSt} {μ₄ : Option Addr} {g₄ : Ghost} (its : ItS C A I items g₁ h₁ fp St) (V : ForInv C env hB gB μ g h₀ g₁ I items.length Inv St i σ' μ' g' h') (hIA : ¬ At C.ex env I) (hlt : i < items.length)
    (S₃ : SA C env hB gB σ₃ μ' g' h₃) (hst₃ : St (i + 1) h₃) (hsp₃ : Stp C.ex env μ g h₀ μ' g' h₃) (hinv : Inv (i + 1) σ₄) (S₄ : SA C env hB gB σ₄ μ₄ g₄ h₄) (st₄ : Stp C.ex env μ' g' h₃ μ₄ g₄ h₄) : ForInv C env hB gB μ g h₀ g₁ I items.length Inv St (i + 1) σ₄ μ₄ g₄ h₄ := by
  obtain ⟨oI, heI⟩ := its.live _ _ hst₃
  refine ⟨hlt, hinv, S₄, its.W.frame _ _ _ hst₃ fun c hc o e => ?_, Stp.trans S₃.frm hsp₃ st₄, V.gle.trans st₄.le, ?_, fun q => ?_⟩
  · rcases its.fpo c hc with rfl | ⟨o', e'⟩
    · exact st₄.kp c o e hIA V.mI
    · have h6 : h₃.get? c = some o' := S₃.grow.sub c o' (V.gle c o' e')
      exact (Option.some.inj (e.symm.trans h6)) ▸ S₄.grow.sub c o' (st₄.le c o' (V.gle c o' e'))
  · cases q : g₄ I with
    | none => rfl
    | some o =>
      rcases st₄.new I o q with r | r | r
      · rw [V.gI] at r; cases r
      · rw [heI] at r; cases r
      · exact absurd r V.mI
  · rcases st₄.mu I q with r | r
    · exact V.mI r
    · rw [heI] at r; cases r
/-- the name is stored -/
theorem ForInv.held {A : Around} {items : List PV} {fp : List Addr} {h₁ h₃ : Heap} {b : Addr} (its : ItS C A I items g₁ h₁ fp St) (V : ForInv C env hB gB μ g h₀ g₁ I items.length Inv St i σ' μ' g' h') (hIA : ¬ At C.ex env I) (S₂ : SA C env hB gB σ' μ' g' h₂) (hst₂ : St (i + 1) h₂) (hb : At C.ex env b) (hs : Heap.SameBut b h₂ h₃) : St (i + 1) h₃ :=
  its.W.frame _ _ _ hst₂ fun c hc o e => by
    refine (hs.2 c fun q => ?_).trans e
    subst q
    rcases its.fpo c hc with rfl | ⟨o', e'⟩
    · exact hIA hb
    · have := (S₂.off c hb).1; rw [V.gle c o' e'] at this; cases this
end
theorem Xs.for {x : Str} {px iter body pos items} (fe : FEnv env) (hx : Sto env x) (hI : Itb C d env σ.vars iter items) (Inv : Nat → PSt → Prop) (h0 : Inv 0 σ) (hm : ∀ i σ', Inv i σ' → ∀ y, σ'.gro = some y → y.1 ≠ x)
    (step : ∀ i σ' p, Inv i σ' → items[i]? = some p → Ex C d env (σ'.set x p) body (fun o σ'' => o = none ∧ Inv (i + 1) σ'')) (hs : ∀ x, foldedSetIterable iter env x = pure x) :
    Xs C d env σ (.For (.Name x px) iter body [] pos) (fun o σ' => o = none ∧ Inv items.length σ') := fun A hA s hB gB μ g S Q E hn _ => by
  refine wpAny_For (hI A hA s g S.eh _ E fun I fp St g₁ h₁ tk₁ G hnew its => ?_) hs
  obtain ⟨hIB, hIA, _⟩ := S.apart hnew
  refine codeAny_forLoop (ForAt C env hB gB μ g g₁ I items.length Inv St s) ?_ (items.length + 1) ((ForInv.start its S G h0 hnew).at tk₁)
  rintro k s' ⟨i, σ', μ', g', h', tk, rfl, rfl, V⟩
  by_cases hlt : i < items.length
  · refine its.W.item i _ _ _ hlt V.st fun v h₂ tk₂ hPv hst₂ hk₂ => ?_
    obtain ⟨p, hp, hr⟩ := hPv
    have hex : ∀ b o, b ≠ I → h'.get? b = some o → h₂.get? b = some o := fun b o hb e => hk₂ b o (fun q => hb (List.mem_singleton.mp q)) e
    have S₂ := V.sa.but hIB hIA V.gI V.mI hex
    refine wpAny_assign_Name (store fe S₂.frm hx fun b h₃ tk₃ hb hs₃ F₃ l₃ lo₃ => ?_)
    have S₃ := S₂.stored hb hs₃ F₃ l₃ lo₃ (hr.mono V.gle) (hm i σ' V.inv)
    exact step i σ' p V.inv hp A hA _ hB gB μ' g' S₃ _ _ (fun σ₄ μ₄ g₄ h₄ tk₄ hp₄ S₄ st₄ =>
      (ForInv.next its V hIA hlt S₃ (V.held its hIA S₂ hst₂ hb hs₃) (Stp.trans S₂.frm (V.sp.but hnew hex) (Stp.same hs₃ (.inl hb))) hp₄.2 S₄ st₄).less tk₄) fun p' σ'' v' g'' h'' tk'' hp' => nomatch hp'.1
  · obtain rfl : i = items.length := Nat.le_antisymm V.le (Nat.not_lt.mp hlt)
    refine its.W.done _ _ _ V.st fun h₂ tk₂ hk₂ => wpAny_execs_nil ?_
    have hex : ∀ b o, b ≠ I → h'.get? b = some o → h₂.get? b = some o := fun b o hb e => hk₂ b o (fun q => hb (List.mem_singleton.mp q)) e
    exact hn σ' μ' g' h₂ tk₂ ⟨rfl, V.inv⟩ (V.sa.but hIB hIA V.gI V.mI hex) (V.sp.but hnew hex)
theorem Ex.for {x : Str} {px iter body pos items ss} (fe : FEnv env) (hx : Sto env x) (hI : Itb C d env σ.vars iter items) (Inv : Nat → PSt → Prop) (h0 : Inv 0 σ) (hm : ∀ i σ', Inv i σ' → ∀ y, σ'.gro = some y → y.1 ≠ x)
    (step : ∀ i σ' p, Inv i σ' → items[i]? = some p → Ex C d env (σ'.set x p) body (fun o σ'' => o = none ∧ Inv (i + 1) σ''))
    (k : ∀ σ', Inv items.length σ' → Ex C d env σ' ss Post) (hs : ∀ x, foldedSetIterable iter env x = pure x := by intro _; rfl) : Ex C d env σ (.For (.Name x px) iter body [] pos :: ss) Post :=
  Ex.cons (Xs.for fe hx hI Inv h0 hm step hs) (fun σ' h => k σ' h.2) fun _ _ h => nomatch h.1

/-- a while with a measure -/
theorem Xs.while {test body pos} (Inv : Nat → PSt → Prop) (bt : PSt → Bool) (n : Nat) (h0 : Inv n σ) (ht : ∀ n σ', Inv n σ' → Tr C d env σ'.vars test (bt σ'))
    (step : ∀ n σ', Inv n σ' → bt σ' = true → Ex C d env σ' body (fun o σ'' => o = none ∧ ∃ m, m < n ∧ Inv m σ'')) :
    Xs C d env σ (.While test body [] pos) (fun o σ' => o = none ∧ bt σ' = false ∧ ∃ n, Inv n σ') := fun A hA s hB gB μ g S Q E hn _ => by
  refine wpAny_While (codeAny_whileLoop (fun k s' => ∃ σ' μ' g' h' tk, s' = { s with heap := h', toks := tk } ∧ Inv k σ' ∧ SA C env hB gB σ' μ' g' h' ∧ Stp C.ex env μ g s.heap μ' g' h') ?_ n ⟨σ, μ, g, s.heap, s.toks, rfl, h0, S, Stp.refl ..⟩)
  rintro k s' ⟨σ', μ', g', h', tk, rfl, hinv, S', sp'⟩
  refine ht k σ' hinv A hA _ g' S'.eh _ _ fun g₂ h₂ tk₂ G => ?_
  have S₂ := S'.grown G
  have sp₂ : Stp C.ex env μ g s.heap μ' g₂ h₂ := Stp.trans S'.frm sp' (Stp.grow G)
  cases hb : bt σ' with
  | false => exact wpAny_execs_nil (hn σ' μ' g₂ h₂ tk₂ ⟨rfl, hb, k, hinv⟩ S₂ sp₂)
  | true =>
    exact step k σ' hinv hb A hA _ hB gB μ' g₂ S₂ _ _ (fun σ₄ μ₄ g₄ h₄ tk₄ hp₄ S₄ st₄ => by
      obtain ⟨_, m, hm, hi⟩ := hp₄
      exact ⟨m, hm, σ₄, μ₄, g₄, h₄, tk₄, rfl, hi, S₄, Stp.trans S₂.frm sp₂ st₄⟩) fun p' σ'' v' g'' h'' tk'' hp' => nomatch hp'.1
theorem Ex.while {test body pos ss} (Inv : Nat → PSt → Prop) (bt : PSt → Bool) (n : Nat) (h0 : Inv n σ) (ht : ∀ n σ', Inv n σ' → Tr C d env σ'.vars test (bt σ'))
    (step : ∀ n σ', Inv n σ' → bt σ' = true → Ex C d env σ' body (fun o σ'' => o = none ∧ ∃ m, m < n ∧ Inv m σ'')) (k : ∀ σ' n, bt σ' = false → Inv n σ' → Ex C d env σ' ss Post) : Ex C d env σ (.While test body [] pos :: ss) Post :=
  Ex.cons (Xs.while Inv bt n h0 ht step) (fun σ' h => let ⟨_, h1, n, h2⟩ := h; k σ' n h1 h2) fun _ _ h => nomatch h.1
end
end Mine
namespace Mine
section
variable {C : Cx} {d : Nat} {env : Env} {σ : PSt} {Post : Option PV → PSt → Prop}
/-- fewer names -/
theorem Ex.sub {σ₂ : PSt} {ss} (k : Ex C d env σ₂ ss Post) (hv : ∀ x p, σ₂.vars.lookup x = some p → σ.vars.lookup x = some p) (hg : σ₂.gro = σ.gro) : Ex C d env σ ss Post := fun A hA s hB gB μ g S Q E hn hr =>
  k A hA s hB gB μ g ⟨S.grow, S.glo, S.frm, S.off, fun x p e => S.vars x p (hv x p e), hg ▸ S.gro⟩ Q E hn hr
theorem Ex.drop {x : Str} {p : PV} {vs : Vars} {gr ss} (k : Ex C d env ⟨vs, gr⟩ ss Post) (hx : vs.lookup x = none) : Ex C d env ⟨(x, p) :: vs, gr⟩ ss Post :=
  Ex.sub k (fun y q e => by
    show List.lookup y ((x, p) :: vs) = some q
    rw [List.lookup_cons]
    by_cases h : y = x
    · subst h; rw [hx] at e; (first | obtain rfl := Option.some.inj e | cases e)
    · rw [beq_eq_false_iff_ne.mpr h]; exact e) rfl
end
end Mine
end
section
open PySem PySem.Calls PyProof.Rows
namespace Mine
noncomputable def g0 : Ghost := fun _ => none
noncomputable def clOf (env : Env) : List (Str × NameKind) → List (Str × Addr) → List (Str × Addr)
  | [], acc => acc
  | (n, k) :: r, acc => if k == .free then clOf env r ((n, (env.cells.lookup n).getD 0) :: acc) else clOf env r acc
noncomputable def FreeOk (env : Env) (names : List (Str × NameKind)) : Prop := ∀ n, (n, NameKind.free) ∈ names → (env.kindOf n = some .cell ∨ env.kindOf n = some .free) ∧ (env.cells.lookup n).isSome = true
theorem closure_go {env : Env} (f : Str × NameKind → List (Str × Addr) → Sem (ForInStep (List (Str × Addr)))) (hf : ∀ n k cs, f (n, k) cs = if k == .free then (do let c ← cellOf env n; pure (.yield ((n, c) :: cs))) else pure (.yield cs)) :
    ∀ (names : List (Str × NameKind)) (acc : List (Str × Addr)), FreeOk env names → forIn names acc f = (pure (clOf env names acc) : Sem _)
  | [], acc, _ => rfl
  | (n, k) :: r, acc, h => by
    have hr : FreeOk env r := fun m hm => h m (List.mem_cons_of_mem _ hm)
    rw [List.forIn_cons, hf]
    unfold clOf
    by_cases q : (k == .free) = true
    · rw [if_pos q, if_pos q]
      have hk : k = .free := by simpa using q
      subst hk
      obtain ⟨c, hc⟩ := Option.isSome_iff_exists.mp (h n List.mem_cons_self).2
      have e : cellOf env n = pure c := by unfold cellOf; rw [hc]
      rw [e, hc]
      simp only [pure_bind]
      exact closure_go f hf r _ hr
    · rw [if_neg q, if_neg q]
      simp only [pure_bind]
      exact closure_go f hf r _ hr
theorem closure_is {scope : Scope} {env : Env} (h : FreeOk env scope.names) : closureFor scope env = pure (clOf env scope.names []) := by
  have e := closure_go (env := env) (fun (x : Str × NameKind) cs => match x with | (name, kind) => if (kind == .free) = true then (do let c ← cellOf env name; pure (.yield ((name, c) :: cs))) else pure (.yield cs)) (fun _ _ _ => rfl) scope.names [] h
  exact (congrArg (fun m : Sem (List (Str × Addr)) => m >>= fun cs => pure cs) e).trans rfl
theorem clOf_get {env : Env} : ∀ {names : List (Str × NameKind)} {acc : List (Str × Addr)} {n : Str} {c : Addr}, env.cells.lookup n = some c → (n, NameKind.free) ∈ names ∨ acc.lookup n = some c → (∀ m c', (m, c') ∈ acc → env.cells.lookup m = some c') → FreeOk env names → (clOf env names acc).lookup n = some c
  | [], acc, n, c, _, h, _, _ => h.elim (fun h => nomatch h) id
  | (m, k) :: r, acc, n, c, hc, h, ha, hf => by
    have hr : FreeOk env r := fun m hm => hf m (List.mem_cons_of_mem _ hm)
    unfold clOf
    by_cases q : (k == .free) = true
    · rw [if_pos q]
      have hk : k = .free := by simpa using q
      subst hk
      obtain ⟨c', hc'⟩ := Option.isSome_iff_exists.mp (hf m List.mem_cons_self).2
      refine clOf_get hc ?_ (fun m' c'' hm => ?_) hr
      · by_cases e : n = m
        · subst e; right; rw [hc'] at hc; (first | obtain rfl := Option.some.inj hc | cases hc); rw [hc']; simp
        · rcases h with h | h
          · left
            rcases List.mem_cons.mp h with h | h
            · (first | obtain rfl := Option.some.inj h | cases h); exact absurd rfl e
            · exact h
          · right; rw [List.lookup_cons, beq_eq_false_iff_ne.mpr e]; exact h
      · rcases List.mem_cons.mp hm with hm | hm
        · (first | obtain rfl := Option.some.inj hm | cases hm); rw [hc']; rfl
        · exact ha m' c'' hm
    · rw [if_neg q]
      refine clOf_get hc ?_ ha hr
      rcases h with h | h
      · left
        rcases List.mem_cons.mp h with h | h
        · (first | obtain rfl := Option.some.inj h | cases h); exact absurd rfl q
        · exact h
      · exact .inr h

/-- the comprehension's own environment: its target a local, or a cell -/
noncomputable def cEnv (scope : Scope) (env : Env) (cel : Bool) (x : Str) (C : Addr) : Env := compEnvC scope (if cel then (x, C + 1) :: clOf env scope.names [] else clOf env scope.names []) C env
theorem cEnv_fenv {scope : Scope} {env : Env} {cel : Bool} {x : Str} {C : Addr} (fe : FEnv env) (hk : scope.kind = .function) : FEnv (cEnv scope env cel x C) := ⟨hk, fe.glob, fe.blt⟩
theorem lookup_relabel {env : Env} : ∀ {names : List (Str × NameKind)} {x : Str}, (names.map fun (n, k) => if (k == NameKind.free && env.scope.kind == .function && env.kindOf n == some .cell) then (n, NameKind.cell) else (n, k)).lookup x =
    (names.lookup x).map fun k => if (k == NameKind.free && env.scope.kind == .function && env.kindOf x == some .cell) then NameKind.cell else k
  | [], x => rfl
  | (n, k) :: r, x => by
    have ih := @lookup_relabel env r x
    rw [List.map_cons]
    by_cases q : x = n
    · subst q
      have : ∀ k', List.lookup x ((x, k') :: (r.map fun (n, k) => if (k == NameKind.free && env.scope.kind == .function && env.kindOf n == some .cell) then (n, NameKind.cell) else (n, k))) = some k' := fun k' => by simp
      rw [List.lookup_cons_self, Option.map_some]
      dsimp only
      split
      · rw [this]
      · rw [this]
    · have q' : (x == n) = false := beq_eq_false_iff_ne.mpr q
      have e1 : List.lookup x ((n, k) :: r) = List.lookup x r := by rw [List.lookup_cons, q']
      rw [e1]
      dsimp only
      cases hc : (k == NameKind.free && env.scope.kind == .function && env.kindOf n == some .cell) with
      | true => rw [if_pos rfl, List.lookup_cons, q']; exact ih
      | false => rw [if_neg (by simp), List.lookup_cons, q']; exact ih
theorem cEnv_kind {scope : Scope} {env : Env} {cel : Bool} {x : Str} {C : Addr} (y : Str) : (cEnv scope env cel x C).kindOf y = (scope.names.lookup y).map fun k => if (k == NameKind.free && env.scope.kind == .function && env.kindOf y == some .cell) then NameKind.cell else k := lookup_relabel

/-- what is asked of a comprehension's scope -/
structure CSc (env : Env) (scope : Scope) (cel : Bool) (x : Str) (ρ : Vars) : Prop where
  kind : scope.kind = .function
  free : FreeOk env scope.names
  names : ∀ y ∈ scope.names, y.2 = .local → scope.names.lookup y.1 = some .local
  nd : (scope.names.map (·.1)).Nodup
  x_ : scope.names.lookup x = some (if cel then .cell else .local)
  cells : ∀ n acc, cellsFrom n scope.names acc = if cel then (x, n) :: acc else acc
  push : ∀ h, pushCells h scope.names = if cel then h.push { cls := .type "cell", data := .cell none } else h
  others : ∀ y p, ρ.lookup y = some p → y ≠ x → scope.names.lookup y ≠ some .local ∧ scope.names.lookup y ≠ some .cell

theorem cEnv_ld {env : Env} {scope : Scope} {cel : Bool} {x : Str} {ρ : Vars} {C : Addr} {h : Heap} (cs : CSc env scope cel x ρ) {y : Str} {p : PV} {w : Value} (hy : ρ.lookup y = some p) (hne : y ≠ x) (l : Ld env h y w) : Ld (cEnv scope env cel x C) h y w := by
  obtain ⟨n1, n2⟩ := cs.others y p hy hne
  unfold Ld
  rw [cEnv_kind]
  cases hq : scope.names.lookup y with
  | none => trivial
  | some k =>
    have hcell : k = .free → ∃ c, (cEnv scope env cel x C).cells.lookup y = some c ∧ h.IsCell c (some w) := by
      rintro rfl
      obtain ⟨f1, f2⟩ := cs.free y (mem_of_lookup hq)
      obtain ⟨c, hc⟩ := Option.isSome_iff_exists.mp f2
      have hl : ∃ c, env.cells.lookup y = some c ∧ h.IsCell c (some w) := by
        unfold Ld at l
        rcases f1 with f1 | f1 <;> (rw [f1] at l; exact l)
      obtain ⟨c', e1, e2⟩ := hl
      refine ⟨c', ?_, e2⟩
      have e3 := clOf_get (names := scope.names) (acc := []) e1 (.inl (mem_of_lookup hq)) (fun _ _ hm => nomatch hm) cs.free
      show List.lookup y (if cel then (x, C + 1) :: clOf env scope.names [] else clOf env scope.names []) = some c'
      (first | obtain rfl := Option.some.inj cel | cases cel)
      · exact e3
      · simp only [if_true]
        rw [List.lookup_cons, beq_eq_false_iff_ne.mpr hne]; exact e3
    rw [Option.map_some]
    cases k with
    | «local» => exact absurd hq n1
    | cell => exact absurd hq n2
    | free =>
      have := hcell rfl
      split
      · rename_i e; split at e <;> (first | obtain rfl := Option.some.inj e | cases e)
      · exact this
      · exact this
      · trivial
    | _ => simp

theorem newEnv_comp {M : Model} {A : Around} {E : Value → Shared → Prop} {s : Shared} {scope : Scope} {globals : Addr} {cl : List (Str × Addr)} {qual : Str} {outer : Env} {Q : Env → Shared → Prop}
    (h : Q { scope, locals := s.heap.objs.size, globals, cells := cellsFrom (s.heap.objs.size + 1) scope.names cl, qual, func := none, code := outer.code, frame := outer.frame, builtins := outer.builtins }
      { s with heap := pushCells (s.heap.push { cls := .type "dict", data := .dict #[] }) scope.names }) :
    wpAny M A (newFunctionEnv scope globals cl [] qual none .none (some outer)) Q E s := by
  simp only [newFunctionEnv, Option.isSome_some, if_true]
  refine wpAny_bind (wpAny_alloc ?_)
  refine wpAny_bind (wpAny_layCells _ (fun name kind cells => by cases hkc : kind == NameKind.cell <;> simp [hkc]) _ _ _ _ ?_)
  rw [show ({ s with heap := s.heap.push { cls := .type "dict", data := .dict #[] } } : Shared).heap.objs.size = s.heap.objs.size + 1 from Heap.size_push ..]
  exact wpAny_bind (by rw [List.forIn_nil]; exact wpAny_pure (wpAny_pure h))

/-- where the target lies -/
noncomputable def slot (cel : Bool) (C : Addr) : Addr := if cel then C + 1 else C
structure CFr (cel : Bool) (C : Addr) (h : Heap) : Prop where
  ns : ∃ m, h.Ns C m
  cell : cel = true → ∃ v, h.IsCell (C + 1) v
theorem CFr.kp {cel : Bool} {C : Addr} {h h' : Heap} (k : ∀ b o, b = C ∨ (cel = true ∧ b = C + 1) → h.get? b = some o → h'.get? b = some o) (F : CFr cel C h) : CFr cel C h' :=
  ⟨let ⟨m, a⟩ := F.ns; ⟨m, a.at' fun o e => k C o (.inl rfl) e⟩, fun hc => let ⟨v, o, a, b⟩ := F.cell hc; ⟨v, o, k _ o (.inr ⟨hc, rfl⟩) a, b⟩⟩
theorem storeC {M : Model} {A : Around} {s : Shared} {env : Env} {scope : Scope} {cel : Bool} {x : Str} {ρ : Vars} {C : Addr} {v : Value} {Q : Unit → Shared → Prop} {E : Value → Shared → Prop} (cs : CSc env scope cel x ρ) (F : CFr cel C s.heap)
    (h : ∀ h' tk, Heap.SameBut (slot cel C) s.heap h' → CFr cel C h' → Ld (cEnv scope env cel x C) h' x v → Q () { s with heap := h', toks := tk }) : wpAny M A (storeName (cEnv scope env cel x C) x v) Q E s := by
  have hk := cEnv_kind (scope := scope) (env := env) (cel := cel) (x := x) (C := C) x
  rw [cs.x_] at hk
  cases cel with
  | false =>
    have hk' : (cEnv scope env false x C).kindOf x = some .local := hk
    obtain ⟨m, hm⟩ := F.ns
    refine wpAny_storeName_local hk' hm (fun h' hn hs => h h' _ hs ⟨⟨_, hn⟩, fun q => nomatch q⟩ ?_) (by show (scope.kind == .class || (scope.kind == .module && _)) = false; rw [cs.kind]; rfl)
    unfold Ld; rw [hk']; exact ⟨_, hn, by simp⟩
  | true =>
    have hk' : (cEnv scope env true x C).kindOf x = some .cell := hk
    obtain ⟨v₀, hv₀⟩ := F.cell rfl
    have hl : (cEnv scope env true x C).cells.lookup x = some (C + 1) := by show List.lookup x ((x, C + 1) :: _) = _; simp
    refine wpAny_storeName_cell cs.kind hk' hl hv₀ fun h' hv hs => h h' s.toks hs ⟨?_, fun _ => ⟨_, hv⟩⟩ ?_
    · obtain ⟨m, hm⟩ := F.ns
      exact ⟨m, hm.sameBut hs (Nat.ne_of_lt (Nat.lt_succ_self C))⟩
    · unfold Ld; rw [hk']; exact ⟨_, hl, hv⟩

section
variable {C : Cx} {d : Nat} {env : Env} {ρ : Vars}
/-- where a comprehension stands after i turns -/
structure CInv (wr : List Addr) (h₁ : Heap) (St : Nat → Heap → Prop) (len : Nat) (cel : Bool) (F D : Addr) (ps : Nat → List PV) (i : Nat) (h' : Heap) (ys : List Value) (n : Nat) : Prop where
  le : i ≤ len
  st : St i h'
  kp : ∀ b o, b ∉ wr → h₁.get? b = some o → h'.get? b = some o
  cf : CFr cel F h'
  obj : h'.get? D = some (lobj ys n)
  rs : Reps g0 ys (ps i)
noncomputable def CInvAt (s : Shared) (wr : List Addr) (h₁ : Heap) (St : Nat → Heap → Prop) (len : Nat) (cel : Bool) (F D : Addr) (ps : Nat → List PV) (k : Nat) (s' : Shared) : Prop :=
  ∃ i h' tk ys n, s' = { s with heap := h', toks := tk } ∧ k = len + 1 - i ∧ CInv wr h₁ St len cel F D ps i h' ys n
theorem CInvAt.mk {s : Shared} {wr : List Addr} {h₁ : Heap} {St : Nat → Heap → Prop} {len : Nat} {cel : Bool} {F D : Addr} {ps : Nat → List PV} {i : Nat} {h' : Heap} {ys : List Value} {n : Nat} (tk : Tok) (v : CInv wr h₁ St len cel F D ps i h' ys n) :
    CInvAt s wr h₁ St len cel F D ps (len + 1 - i) { s with heap := h', toks := tk } := ⟨i, h', tk, ys, n, rfl, rfl, v⟩
theorem CInvAt.next {s : Shared} {wr : List Addr} {h₁ : Heap} {St : Nat → Heap → Prop} {len : Nat} {cel : Bool} {F D : Addr} {ps : Nat → List PV} {i : Nat} {h' : Heap} {ys : List Value} {n : Nat} (tk : Tok) (v : CInv wr h₁ St len cel F D ps (i + 1) h' ys n) :
    ∃ m, m < len + 1 - i ∧ CInvAt s wr h₁ St len cel F D ps m { s with heap := h', toks := tk } := ⟨_, Nat.sub_lt_sub_left (Nat.lt_succ_of_lt v.le) (Nat.lt_succ_self i), .mk tk v⟩
/-- what a comprehension has made ahead of its turns -/
structure CMade (cel : Bool) (h₁ h₃ : Heap) (D F : Addr) : Prop where
  df : D ≠ F
  df1 : D ≠ F + 1
  d : h₁.get? D = none
  f : h₁.get? F = none
  f1 : h₁.get? (F + 1) = none
  up : Kp h₁ h₃
  obj : h₃.get? D = some (lobj [] 0)
  cf : CFr cel F h₃
theorem CMade.of (cel : Bool) (h₁ : Heap) : CMade cel h₁ (if cel = true then ((h₁.push { cls := .type "list", dict := none, data := .seq ([] : List Value).toArray }).push { cls := Value.type "dict", data := .dict #[] }).push { cls := .type "cell", data := .cell none } else (h₁.push { cls := .type "list", dict := none, data := .seq ([] : List Value).toArray }).push { cls := .type "dict", data := .dict #[] })
    h₁.objs.size (h₁.push { cls := .type "list", dict := none, data := .seq ([] : List Value).toArray }).objs.size := by
  have hD := Heap.get?_push_size h₁ (o := { cls := .type "list", dict := none, data := .seq ([] : List Value).toArray }) rfl
  have hF : (h₁.push { cls := .type "list", dict := none, data := .seq ([] : List Value).toArray }).objs.size = h₁.objs.size + 1 := Heap.size_push ..
  have up1 : Kp h₁ (h₁.push { cls := .type "list", dict := none, data := .seq ([] : List Value).toArray }) := fun b o e => Heap.get?_push_of_some _ e
  generalize h₁.push { cls := .type "list", dict := none, data := .seq ([] : List Value).toArray } = H2 at hD hF up1 ⊢
  have up2 : Kp (H2.push { cls := Value.type "dict", data := .dict #[] }) (if cel = true then (H2.push { cls := Value.type "dict", data := .dict #[] }).push { cls := .type "cell", data := .cell none } else H2.push { cls := .type "dict", data := .dict #[] }) := fun b o e => by
    cases cel
    · exact e
    · exact Heap.get?_push_of_some _ e
  have up3 : Kp H2 _ := fun b o e => up2 b o (Heap.get?_push_of_some _ e)
  refine ⟨by rw [hF]; exact Nat.ne_of_lt (Nat.lt_succ_self _), by rw [hF]; exact Nat.ne_of_lt (Nat.lt_succ_of_lt (Nat.lt_succ_self _)), get_size h₁, Heap.get?_none_of_le (by rw [hF]; exact Nat.le_succ _), Heap.get?_none_of_le (by rw [hF]; exact Nat.le_succ_of_le (Nat.le_succ _)), fun b o e => up3 b o (up1 b o e), up3 _ _ hD, ⟨_, Heap.Ns.keeps (Heap.Ns.new H2 (.type "dict")) up2⟩, fun hc => ?_⟩
  subst hc
  refine ⟨none, { cls := .type "cell", data := .cell none }, ?_, rfl⟩
  have e : H2.objs.size + 1 = (H2.push { cls := Value.type "dict", data := .dict #[] }).objs.size := by rw [Heap.size_push]
  rw [e]; exact Heap.get?_push_size _ rfl
theorem EH.cons {C : Cx} {env : Env} {ρ : Vars} {g : Ghost} {h : Heap} (X : EH C env ρ g h) {x : Str} {v : Value} {p : PV} (l : Ld env h x v) (r : Rep g v p) : EH C env ((x, p) :: ρ) g h := by
  refine ⟨X.sub, X.glo, fun z pz e => ?_⟩
  rw [List.lookup_cons] at e
  by_cases qz : z = x
  · subst qz; rw [beq_self_eq_true] at e; exact ⟨v, l, Option.some.inj e ▸ r⟩
  · rw [beq_eq_false_iff_ne.mpr qz] at e; exact X.vars z pz e
theorem EH.comp {C : Cx} {env : Env} {ρ : Vars} {g g₁ : Ghost} {h h' : Heap} {scope : Scope} {cel : Bool} {x : Str} {F : Addr} {v : Value} {p : PV} (X : EH C env ρ g h) (cs : CSc env scope cel x ρ) (hs : GSub g₁ h') (le : GLe g g₁) (k : Kp h h') (l : Ld (cEnv scope env cel x F) h' x v) (r : Rep g₁ v p) : EH C (cEnv scope env cel x F) ((x, p) :: ρ) g₁ h' := by
  refine ⟨hs, X.glo.kp k, fun z pz e => ?_⟩
  rw [List.lookup_cons] at e
  by_cases qz : z = x
  · subst qz; rw [beq_self_eq_true] at e; exact ⟨v, l, Option.some.inj e ▸ r⟩
  · rw [beq_eq_false_iff_ne.mpr qz] at e
    obtain ⟨w, a, b⟩ := X.vars z pz e
    exact ⟨w, cEnv_ld cs e qz (a.kp k), b.mono le⟩
theorem ne_live {h : Heap} {b I : Addr} (e : ∃ o, h.get? b = some o) (n : h.get? I = none) : b ≠ I := fun q => by
  obtain ⟨o, e⟩ := e; rw [q, n] at e; cases e
theorem comp_core {A : Around} (hA : AOk C d A) {s : Shared} {g : Ghost} (X : EH C env ρ g s.heap) {elt iter : Expr} {x : Str} {px pos ppos : Pos} {scope : Scope} {cel : Bool} {items qs : List PV} {use : Option (Value → Sem Unit)} {Q : Value → Shared → Prop} {E : Value → Shared → Prop}
    (fe : FEnv env) (cs : CSc env scope cel x ρ) (hI : Itb C d env ρ iter items) (hlen : qs.length = items.length) (hsz : items.length ≤ 1000000)
    (turn : ∀ (i : Nat) (p q : PV), items[i]? = some p → qs[i]? = some q → q.sca = true ∧ ∀ F, FEnv (cEnv scope env cel x F) → Ev C d (cEnv scope env cel x F) ((x, p) :: ρ) elt q)
    (hs : ∀ x, foldedSetIterable iter env x = pure x)
    (fin : ∀ D F ys n h' tk, Kp s.heap h' → s.heap.get? D = none → s.heap.get? F = none → D ≠ F → h'.get? D = some (lobj ys n) → Reps g0 ys qs → (∃ m, h'.Ns F m) → compPost C.M A E use Q (.ref D) F (.ok .next) { s with heap := h', toks := tk }) :
    wpAny C.M A (comprehension (.ListComp elt [⟨.Name x px, iter, [], 0⟩] scope pos) scope env ppos (newList []) false (eval iter env) use) Q E s := by
  refine wpAny_comprehension_free rfl hs (closure_is cs.free) cs.kind cs.names (hI A hA s g X _ E fun I fp St g₁ h₁ tk₁ G hnew its => ?_)
  refine wpAny_newObj_type (newEnv_comp ?_)
  have mk := CMade.of cel h₁
  dsimp only
  rw [cs.cells, cs.push]
  generalize (if cel = true then ((h₁.push { cls := .type "list", dict := none, data := .seq ([] : List Value).toArray }).push { cls := Value.type "dict", data := .dict #[] }).push { cls := .type "cell", data := .cell none } else (h₁.push { cls := .type "list", dict := none, data := .seq ([] : List Value).toArray }).push { cls := .type "dict", data := .dict #[] }) = H3 at mk ⊢
  generalize (h₁.push { cls := .type "list", dict := none, data := .seq ([] : List Value).toArray }).objs.size = F at mk ⊢
  generalize h₁.objs.size = D at mk ⊢
  have hI1 : ∃ o, h₁.get? I = some o := its.live 0 h₁ its.st
  have hsl : h₁.get? (slot cel F) = none := by
    cases cel
    · exact mk.f
    · exact mk.f1
  have hslD : slot cel F ≠ D := by
    cases cel
    · exact Ne.symm mk.df
    · exact Ne.symm mk.df1
  have hfp : ∀ b ∈ fp, ∃ o, h₁.get? b = some o := fun b hb => (its.fpo b hb).elim (fun q => q ▸ hI1) fun ⟨o, e⟩ => ⟨o, G.sub b o e⟩
  have hst₃ : St 0 H3 := its.W.frame _ _ _ its.st fun b _ o e => mk.up b o e
  have loop : ∀ s₃ : Shared, s₃ = { s with heap := H3, toks := tk₁ } →
      codeAny C.M A (.compLoop (.ListComp elt [⟨.Name x px, iter, [], 0⟩] scope pos) 0 (.ref I) (.ref D) (cEnv scope env cel x F)) (compPost C.M A E use Q (.ref D) F) s₃ := by
    rintro s₃ rfl
    generalize hR : compPost C.M A E use Q (.ref D) F = R
    refine codeAny_compLoop_list (CInvAt s [I] h₁ St items.length cel F D (fun i => qs.take i)) ?_ (items.length + 1)
      (.mk tk₁ ⟨Nat.zero_le _, hst₃, fun b o _ e => mk.up b o e, mk.cf, mk.obj, .nil⟩)
    rintro k s' ⟨i, h', tk, ys, n, rfl, rfl, V⟩
    by_cases hlt : i < items.length
    · refine its.W.item i _ _ _ hlt V.st fun v h₂ tk₂ hPv hst₂ hk₂ => ?_
      obtain ⟨p, hp, hr⟩ := hPv
      have hq : qs[i]? = some (qs[i]'(hlen ▸ hlt)) := List.getElem?_eq_getElem _
      obtain ⟨hsca, hev⟩ := turn i p _ hp hq
      have ex (b o) (hb : b ∉ [I]) (e : h₁.get? b = some o) : h₂.get? b = some o := hk₂ b o hb (V.kp b o hb e)
      have offI {b : Addr} (e : h₁.get? b = none) : b ∉ [I] := fun hb => ne_live hI1 e (List.mem_singleton.mp hb).symm
      have hcf₂ : CFr cel F h₂ := V.cf.kp fun b o hb e => hk₂ b o (offI (by rcases hb with rfl | ⟨_, rfl⟩; exact mk.f; exact mk.f1)) e
      refine wpAny_assign_Name (storeC cs hcf₂ fun h₃ tk₃ hs₃ hcf₃ l₃ => ?_)
      have hk₃ (b o) (hb : b ∉ [I]) (e : h₁.get? b = some o) : h₃.get? b = some o := (hs₃.2 b (ne_live ⟨o, e⟩ hsl)).trans (ex b o hb e)
      have hst₃' : St (i + 1) h₃ := its.W.frame _ _ _ hst₂ fun b hb o e => (hs₃.2 b (ne_live (hfp b hb) hsl)).trans e
      have hD₃ : h₃.get? D = some (lobj ys n) := (hs₃.2 D (Ne.symm hslD)).trans (hk₂ D _ (offI mk.d) V.obj)
      have hsub : GSub g₁ h₃ := fun b o e => hk₃ b o (fun hb => ne_at e its.gI (List.mem_singleton.mp hb)) (G.sub b o e)
      have hKp : Kp s.heap h₃ := fun b o e => hk₃ b o (fun hb => ne_get e hnew (List.mem_singleton.mp hb)) (G.kp b o e)
      refine hev F (cEnv_fenv fe cs.kind) A hA _ g₁ (X.comp cs hsub G.le hKp l₃ hr) _ _ fun y g₄ h₄ tk₄ G₄ ry => ?_
      have hyl : ys.length ≤ 1000000 := by
        rw [V.rs.length, List.length_take]; exact Nat.le_trans (Nat.min_le_left _ _) (Nat.le_trans V.le hsz)
      refine append_at (hsz := by show ys.toArray.size ≤ sizeLine; rw [List.size_toArray, sizeLine_eq]; exact Nat.le_trans hyl (by decide)) (G₄.kp _ _ hD₃) fun h₅ hs₅ hD₅ => ?_
      refine CInvAt.next (ys := ys ++ [y]) (n := n + 1) tk₄ ⟨hlt, its.W.frame _ _ _ hst₃' fun b hb o e => (hs₅.2 b (ne_live (hfp b hb) mk.d)).trans (G₄.kp b o e), fun b o hb e => (hs₅.2 b (ne_get e mk.d)).trans (G₄.kp b o (hk₃ b o hb e)),
        hcf₃.kp fun b o hb e => (hs₅.2 b (by rcases hb with rfl | ⟨_, rfl⟩; exact Ne.symm mk.df; exact Ne.symm mk.df1)).trans (G₄.kp b o e), ?_, ?_⟩
      · rw [hD₅]; simp
      · show Reps g0 _ (qs.take (i + 1))
        rw [List.take_add_one, hq]; exact V.rs.append (.cons (ry.sca hsca) .nil)
    · obtain rfl : i = items.length := Nat.le_antisymm V.le (Nat.not_lt.mp hlt)
      refine its.W.done _ _ _ V.st fun h₂ tk₂ hk₂ => ?_
      have offI {b : Addr} (e : h₁.get? b = none) : b ∉ [I] := fun hb => ne_live hI1 e (List.mem_singleton.mp hb).symm
      have rs' : Reps g0 ys (qs.take items.length) := V.rs
      rw [← hlen, List.take_length] at rs'
      subst hR
      refine fin D F ys n h₂ tk₂ (fun b o e => ?_) (G.kp.none mk.d) (G.kp.none mk.f) mk.df (hk₂ _ _ (offI mk.d) V.obj) rs' ?_
      · have hbI : b ∉ [I] := fun hb => ne_get e hnew (List.mem_singleton.mp hb)
        exact hk₂ b o hbI (V.kp b o hbI (G.kp b o e))
      · obtain ⟨m, hm⟩ := V.cf.ns
        exact ⟨m, hm.at' fun o e => hk₂ _ o (offI mk.f) e⟩
  exact codeAny_compStart_list (loop _ rfl) (its.W.self 0 _ _ _ hst₃ (loop _ rfl))

theorem Grow.newList {g : Ghost} {h h' : Heap} (hs : GSub g h) (k : Kp h h') {D : Addr} {ys : List Value} {n : Nat} (hD : h.get? D = none) (hobj : h'.get? D = some (lobj ys n)) : Grow g h (gAdd g D (lobj ys n)) h' :=
  ⟨k, fun b o e => (by
    unfold gAdd
    rw [if_neg]; · exact e
    rintro rfl; rw [hs b o e] at hD; (first | obtain rfl := Option.some.inj hD | cases hD)), fun b o e => (by
    unfold gAdd at e
    split at e
    · rename_i q; subst q; (first | obtain rfl := Option.some.inj e | cases e); exact hobj
    · exact k b o (hs b o e)), fun b o e => (by
    unfold gAdd at e
    split at e
    · rename_i q; subst q; exact .inr hD
    · exact .inl e)⟩
theorem Reps.any0 {g : Ghost} {vs : List Value} {ps : List PV} (r : Reps g0 vs ps) : Reps g vs ps := r.mono fun _ _ e => (by unfold g0 at e; (first | obtain rfl := Option.some.inj e | cases e))

theorem Ev.comp {elt iter : Expr} {x : Str} {px pos : Pos} {scope : Scope} {cel : Bool} {items qs : List PV} (fe : FEnv env) (cs : CSc env scope cel x ρ) (hI : Itb C d env ρ iter items) (hlen : qs.length = items.length) (hsz : items.length ≤ 1000000)
    (turn : ∀ (i : Nat) (p q : PV), items[i]? = some p → qs[i]? = some q → q.sca = true ∧ ∀ F, FEnv (cEnv scope env cel x F) → Ev C d (cEnv scope env cel x F) ((x, p) :: ρ) elt q)
    (hs : ∀ x, foldedSetIterable iter env x = pure x := by intro _; rfl) : Ev C d env ρ (.ListComp elt [⟨.Name x px, iter, [], 0⟩] scope pos) (.lst qs) := fun A hA s g X Q E hQ => by
  rw [eval_ListComp]
  refine comp_core (use := Option.none) hA X fe cs hI hlen hsz turn hs fun D F ys n h' tk k hD hF hDF hobj rs hm => ?_
  obtain ⟨m, hm⟩ := hm
  refine ⟨m, hm, fun h'' hs'' => ?_⟩
  have k2 : Kp s.heap h'' := fun b o e => (hs''.2 b fun q => by subst q; rw [hF] at e; (first | obtain rfl := Option.some.inj e | cases e)).trans (k b o e)
  have hobj2 : h''.get? D = some (lobj ys n) := (hs''.2 D hDF).trans hobj
  exact hQ _ _ _ _ (Grow.newList X.sub k2 hD hobj2) (.lst D ys n qs (gAdd_self ..) rs.any0)
end
section
variable {C : Cx} {d : Nat} {env : Env} {σ : PSt} {Post : Option PV → PSt → Prop}
theorem SA.gro_live {hB : Heap} {gB g : Ghost} {h : Heap} {μ : Option Addr} (S : SA C env hB gB σ μ g h) {b : Addr} (e : h.get? b = none) : μ ≠ some b := by
  rintro rfl
  have := S.gro
  cases hq : σ.gro with
  | none => rw [hq] at this; exact this
  | some y => rw [hq] at this; obtain ⟨_, ⟨its, n, e', _⟩, _⟩ := this; rw [e] at e'; (first | obtain rfl := Option.some.inj e' | cases e')
theorem Xs.assignComp {elt iter : Expr} {x y : Str} {px py pos spos : Pos} {scope : Scope} {cel : Bool} {items qs : List PV} (fe : FEnv env) (hy : Sto env y) (cs : CSc env scope cel x σ.vars) (hI : Itb C d env σ.vars iter items) (hlen : qs.length = items.length) (hsz : items.length ≤ 1000000)
    (turn : ∀ (i : Nat) (p q : PV), items[i]? = some p → qs[i]? = some q → q.sca = true ∧ ∀ F, FEnv (cEnv scope env cel x F) → Ev C d (cEnv scope env cel x F) ((x, p) :: σ.vars) elt q)
    (hm : ∀ z, σ.gro = some z → z.1 ≠ y) (hs : ∀ x, foldedSetIterable iter env x = pure x) (hsw : swapsWith (.ListComp elt [⟨.Name x px, iter, [], 0⟩] scope pos) (some (.Name y py)) spos.line env = pure true) :
    Xs C d env σ (.Assign [.Name y py] (.ListComp elt [⟨.Name x px, iter, [], 0⟩] scope pos) spos) (fun o σ' => o = none ∧ σ' = σ.set y (.lst qs)) := fun A hA s hB gB μ g S Q E hn _ => by
  rw [exec_Assign_Name_used _ _ _ _ hsw]
  refine wpAny_bind (wpAny_standAt (wpAny_bind ?_))
  show wpAny _ A (do let _ ← comprehension (.ListComp elt [⟨.Name x px, iter, [], 0⟩] scope pos) scope env _ (PySem.newList []) false (eval iter env) (some (PySem.assign (.Name y py) env))) _ _ s
  refine wpAny_bind (wpAny_mono (comp_core (use := some (PySem.assign (.Name y py) env)) (Q := fun _ s' => Q .next s') hA S.eh fe cs hI hlen hsz turn hs fun D F ys n h' tk k hD hF hDF hobj rs hm' => ?_) (fun _ s' hq => wpAny_pure (wpAny_pure hq)) fun _ _ e => e)
  obtain ⟨m, hm'⟩ := hm'
  have G := Grow.newList S.grow.sub k hD hobj
  have S' := S.grown G
  have hFA : ¬ At C.ex env F := fun q => by obtain ⟨o, e⟩ := q.live S.frm; rw [hF] at e; (first | obtain rfl := Option.some.inj e | cases e)
  show wpAny _ A (PySem.assign (.Name y py) env (.ref D)) _ _ _
  refine wpAny_assign_Name (store fe S'.frm hy fun b h₂ tk₂ hb hs₂ F₂ l₂ lo₂ => ?_)
  have S₂ := S'.stored hb hs₂ F₂ l₂ lo₂ (.lst D ys n qs (gAdd_self ..) rs.any0) hm
  refine ⟨m, hm'.sameBut hs₂ fun q => hFA (q ▸ hb), fun h₃ hs₃ => ?_⟩
  have gF : gAdd g D (lobj ys n) F = none := by
    unfold gAdd; rw [if_neg (Ne.symm hDF)]; exact S.grow.sub.off hF
  have S₃ := S₂.same hs₃ gF (S.grow.kp.none hF) hFA (S.gro_live hF)
  exact hn _ μ _ h₃ _ ⟨rfl, rfl⟩ S₃ ⟨MuOk.refl _ _, fun c o e h1 _ => (hs₃.2 c fun q => by subst q; rw [hF] at e; (first | obtain rfl := Option.some.inj e | cases e)).trans ((hs₂.2 c fun q => h1 (q ▸ hb)).trans (k c o e)), G.le, fun c o e => (G.new c o e).imp id .inl⟩
theorem Ex.assignComp {elt iter : Expr} {x y : Str} {px py pos spos : Pos} {scope : Scope} {cel : Bool} {items qs : List PV} {ss} (fe : FEnv env) (hy : Sto env y) (cs : CSc env scope cel x σ.vars) (hI : Itb C d env σ.vars iter items) (hlen : qs.length = items.length) (hsz : items.length ≤ 1000000)
    (turn : ∀ (i : Nat) (p q : PV), items[i]? = some p → qs[i]? = some q → q.sca = true ∧ ∀ F, FEnv (cEnv scope env cel x F) → Ev C d (cEnv scope env cel x F) ((x, p) :: σ.vars) elt q)
    (k : Ex C d env (σ.set y (.lst qs)) ss Post) (hm : ∀ z, σ.gro = some z → z.1 ≠ y := by intro _ h; exact nomatch h) (hs : ∀ x, foldedSetIterable iter env x = pure x := by intro _; rfl) (hsw : swapsWith (.ListComp elt [⟨.Name x px, iter, [], 0⟩] scope pos) (some (.Name y py)) spos.line env = pure true := by rfl) :
    Ex C d env σ (.Assign [.Name y py] (.ListComp elt [⟨.Name x px, iter, [], 0⟩] scope pos) spos :: ss) Post :=
  Ex.cons (Xs.assignComp fe hy cs hI hlen hsz turn hm hs hsw) (fun _ h => h.2 ▸ k) fun _ _ h => nomatch h.1
end
end Mine
end
section
open PySem PySem.Calls PyProof.Rows
namespace Mine
theorem seqIndex_nn {k : Int} {n : Nat} (h0 : 0 ≤ k) (h : k.toNat < n) : seqIndex? k n = some k.toNat := by
  unfold seqIndex?
  have h1 : ¬ k < 0 := by omega
  have h2 : (k : Int) < (n : Int) := by omega
  simp [h1, h0, h2]
section
variable {C : Cx} {d : Nat} {env : Env} {ρ : Vars}
theorem Ev.itemL {value slice : Expr} {pos : Pos} {l : List PV} {k : Int} {p : PV} (hv : Ev C d env ρ value (.lst l)) (hi : Ev C d env ρ slice (.int k)) (h0 : 0 ≤ k) (hp : l[k.toNat]? = some p) (hk : k < 2 ^ 63)
    (hs : ∀ a u, subscripted slice false (.ref a) (.int k u) = operate [.ref a, .int k u] (getItem (.ref a) (.int k u)) := by intro _ _; with_unfolding_all rfl) : Ev C d env ρ (.Subscript value slice pos) p := fun A hA s g X Q E hQ =>
  Subscript_ (hv A hA s g X _ E fun v g' h' tk G r => hi A hA _ g' (X.grow G) _ E fun v' g'' h'' tk' G' r' => by
    obtain ⟨a, its, n, rfl, ha, rs⟩ := r.isList
    (first | obtain rfl := r'.inv | obtain ⟨_, rfl⟩ := r'.inv)
    obtain ⟨w, e1, e2⟩ := rs.get hp
    refine tail_any (s := { s with heap := h'', toks := tk' }) (isList_lobj (G'.sub _ _ (G'.le _ _ ha))).typeIs slot_list_getitem.lookup (wpAny_getItem_list (isList_lobj (G'.sub _ _ (G'.le _ _ ha))) h0 hk (by simpa using e1) ?_) (hs a _)
    exact hQ w g'' h'' tk' (G.trans G') (e2.mono G'.le))
theorem Ev.itemLn {value slice : Expr} {pos : Pos} {l : List PV} {k : Int} {p : PV} (hv : Ev C d env ρ value (.lst l)) (hi : Ev C d env ρ slice (.int k)) (h0 : k < 0) (h1 : -(l.length : Int) ≤ k) (hp : l[(k + l.length).toNat]? = some p) (hk : -(2 ^ 63) ≤ k)
    (hs : ∀ a u, subscripted slice false (.ref a) (.int k u) = operate [.ref a, .int k u] (getItem (.ref a) (.int k u)) := by intro _ _; with_unfolding_all rfl) : Ev C d env ρ (.Subscript value slice pos) p := fun A hA s g X Q E hQ =>
  Subscript_ (hv A hA s g X _ E fun v g' h' tk G r => hi A hA _ g' (X.grow G) _ E fun v' g'' h'' tk' G' r' => by
    obtain ⟨a, its, n, rfl, ha, rs⟩ := r.isList
    (first | obtain rfl := r'.inv | obtain ⟨_, rfl⟩ := r'.inv)
    obtain ⟨w, e1, e2⟩ := rs.get hp
    have hz : its.toArray.size = l.length := by rw [List.size_toArray, rs.length]
    refine tail_any (s := { s with heap := h'', toks := tk' }) (isList_lobj (G'.sub _ _ (G'.le _ _ ha))).typeIs slot_list_getitem.lookup (wpAny_getItem_list_neg (isList_lobj (G'.sub _ _ (G'.le _ _ ha))) h0 (by rw [hz]; exact h1) hk (by rw [hz]; simpa using e1) ?_) (hs a _)
    exact hQ w g'' h'' tk' (G.trans G') (e2.mono G'.le))
theorem Ev.itemT {value slice : Expr} {pos : Pos} {l : List PV} {k : Int} {p : PV} (hv : Ev C d env ρ value (.tup l)) (hi : Ev C d env ρ slice (.int k)) (h0 : 0 ≤ k) (hp : l[k.toNat]? = some p) (hk : k < 2 ^ 63)
    (hs : ∀ a u, subscripted slice false (.ref a) (.int k u) = operate [.ref a, .int k u] (getItem (.ref a) (.int k u)) := by intro _ _; with_unfolding_all rfl) : Ev C d env ρ (.Subscript value slice pos) p := fun A hA s g X Q E hQ =>
  Subscript_ (hv A hA s g X _ E fun v g' h' tk G r => hi A hA _ g' (X.grow G) _ E fun v' g'' h'' tk' G' r' => by
    obtain ⟨a, its, n, rfl, ha, rs⟩ := r.isTup
    (first | obtain rfl := r'.inv | obtain ⟨_, rfl⟩ := r'.inv)
    obtain ⟨w, e1, e2⟩ := rs.get hp
    have hlt : k.toNat < its.length := (List.getElem?_eq_some_iff.mp e1).1
    refine item_tupleT (s := { s with heap := h'', toks := tk' }) (isTup_tobj (G'.sub _ _ (G'.le _ _ ha))) (by omega) hk (j := k.toNat) ?_ e1 ?_ (hs a _)
    · exact seqIndex_nn h0 hlt
    · exact hQ w g'' h'' tk' (G.trans G') (e2.mono G'.le))
theorem Ev.itemS {value slice : Expr} {pos : Pos} {x : Str} {k : Int} {c : Nat} (hv : Ev C d env ρ value (.str x)) (hi : Ev C d env ρ slice (.int k)) (h0 : 0 ≤ k) (hp : x.cps[k.toNat]? = some c) (hk : k < 2 ^ 63)
    (hs : ∀ t u, subscripted slice false (.str x t) (.int k u) = operate [.str x t, .int k u] (getItem (.str x t) (.int k u)) := by intro _ _; with_unfolding_all rfl) : Ev C d env ρ (.Subscript value slice pos) (.str ⟨#[c]⟩) := fun A hA s g X Q E hQ =>
  Subscript_ (hv A hA s g X _ E fun v g' h' tk G r => hi A hA _ g' (X.grow G) _ E fun v' g'' h'' tk' G' r' => by
    (first | obtain rfl := r.inv | obtain ⟨_, rfl⟩ := r.inv); (first | obtain rfl := r'.inv | obtain ⟨_, rfl⟩ := r'.inv)
    have hlt : k.toNat < x.cps.size := (Array.getElem?_eq_some_iff.mp hp).1
    refine tail_any (s := { s with heap := h'', toks := tk' }) (typeIs_str _ _ _) slot_str_getitem.lookup (PyProof.Rows.getItem_str ?_ ?_ (hQ _ g'' h'' _ (G.trans G') (.str _ _))) (hs _ _)
    · rw [decide_eq_false (by omega), decide_eq_false (by omega)]; rfl
    · have e := seqIndex_nn (n := x.length) h0 hlt
      rw [e]; exact hp)
end
end Mine
end
section
open PySem PySem.Calls PyProof.Rows
namespace Mine
noncomputable def iL (ns : List Int) : List PV := ns.map PV.int
theorem iL_get {ns : List Int} {i : Nat} {k : Int} (h : ns[i]? = some k) : (iL ns)[i]? = some (.int k) := by simp [iL, h]
theorem Reps.iL : ∀ {g : Ghost} {vs : List Value} {ns : List Int}, Reps g vs (iL ns) → IntsAre vs ns
  | _, _, [], r => by obtain rfl := r.inv; exact .nil
  | _, _, n :: ns, r => by
    obtain ⟨_, _, rfl, h, hs⟩ := r.inv
    obtain ⟨_, rfl⟩ := h.inv
    exact .cons n _ (Reps.iL hs)
section
variable {C : Cx} {d : Nat}
theorem fn_lenL {l : List PV} (hz : l.length < 2 ^ 62) : OpOk C d [.lst l] (fop (.builtin "len")) (.int l.length) := .of1 fun _ _ s g hs _ _ h1 Q E hQ => by
  obtain ⟨a, its, n, rfl, ha, rs⟩ := h1.isList
  have hsz : its.toArray.size = l.length := by rw [List.size_toArray, rs.length]
  refine Calls.call_len_list (isList_lobj (hs _ _ ha)) (by rw [hsz]; omega) ?_
  rw [hsz]
  exact hQ _ g s.heap _ (Grow.refl hs) (.int _ _)
theorem fn_lenI {ns : List Int} (hz : ns.length < 2 ^ 62) : OpOk C d [.lst (iL ns)] (fop (.builtin "len")) (.int ns.length) := by
  have h := fn_lenL (C := C) (d := d) (l := iL ns) (by simpa [iL] using hz)
  simpa [iL] using h
theorem fn_minL {ns : List Int} {m : Int} (hm : m ∈ ns) (hle : ∀ a ∈ ns, m ≤ a) : OpOk C d [.lst (iL ns)] (fop (.builtin "min")) (.int m) := .of1 fun A hA s g hs _ _ h1 Q E hQ => by
  obtain ⟨a, its, n, rfl, ha, rs⟩ := h1.isList
  have hi := rs.iL
  obtain ⟨xs, e⟩ := hi.allInts.items
  have hl := isList_lobj (hs _ _ ha)
  rw [e] at hl
  have hns : xs.toList.map (·.1) = ns := by rw [← nums_intItems, ← e, ← hi.numsOf]
  have hlen : xs.size = ns.length := by rw [← hns]; simp
  have hne : 0 < xs.size := by rw [hlen]; exact List.length_pos_of_mem hm
  refine min_intList hA.handled hl hne fun v h' tk hv hk => ?_
  obtain ⟨t, rfl⟩ := intItems_at hv
  obtain ⟨h1, h2⟩ := argBest_lt (numAt xs) (xs.size - 1)
  have hmem : numAt xs (argBest (fun i j => decide (numAt xs i < numAt xs j)) (xs.size - 1)) ∈ ns := by
    rw [numAt_eq, hns]; exact getD_mem (by omega)
  have hmin : ∀ b ∈ ns, numAt xs (argBest (fun i j => decide (numAt xs i < numAt xs j)) (xs.size - 1)) ≤ b := fun b hb => by
    obtain ⟨j, hj, rfl⟩ := mem_getD hb
    rw [← hns, ← numAt_eq]; exact h2 j (by omega)
  have : numAt xs (argBest (fun i j => decide (numAt xs i < numAt xs j)) (xs.size - 1)) = m := Int.le_antisymm (hmin m hm) (hle _ hmem)
  rw [this]
  exact hQ _ g h' tk ⟨hk, GLe.refl _, fun b o e => hk b o (hs b o e), fun b o e => .inl e⟩ (.int _ _)
theorem fn_min2 {a b : Int} : OpOk C d [.int a, .int b] (fop (.builtin "min")) (.int (if b < a then b else a)) := .of2 fun A hA s g hs _ _ _ h1 h2 Q E hQ => by
  (first | obtain rfl := h1.inv | obtain ⟨_, rfl⟩ := h1.inv); (first | obtain rfl := h2.inv | obtain ⟨_, rfl⟩ := h2.inv)
  refine min_two_ints hA.handled fun h' tk hk => ?_
  have G : Grow g s.heap g h' := ⟨hk, GLe.refl _, fun b o e => hk b o (hs b o e), fun b o e => .inl e⟩
  by_cases hc : b < a
  · rw [if_pos hc]; rw [if_pos hc] at hQ; exact hQ _ g h' tk G (.int _ _)
  · rw [if_neg hc]; rw [if_neg hc] at hQ; exact hQ _ g h' tk G (.int _ _)
theorem fn_sumL {ns : List Int} : OpOk C d [.lst (iL ns)] (fop (.builtin "sum")) (.int ns.sum) := .of1 fun A hA s g hs _ _ h1 Q E hQ => by
  obtain ⟨a, its, n, rfl, ha, rs⟩ := h1.isList
  have hi := rs.iL
  obtain ⟨xs, e⟩ := hi.allInts.items
  have hl := isList_lobj (hs _ _ ha)
  rw [e] at hl
  have hns : xs.toList.map (·.1) = ns := by rw [← nums_intItems, ← e, ← hi.numsOf]
  refine sum_intListG hA.handled hl fun h' tk t' hk => ?_
  have hlen : xs.size = ns.length := by rw [← hns]; simp
  have hp : preSum (numAt xs) xs.size = ns.sum := by rw [preSum_eq, hns, hlen, List.take_length]
  rw [hp]
  exact hQ _ g h' tk ⟨hk, GLe.refl _, fun b o e => hk b o (hs b o e), fun b o e => .inl e⟩ (.int _ _)
theorem fn_absI {a : Int} : OpOk C d [.int a] (fop (.builtin "abs")) (.int (if a < 0 then -a else a)) := .of1 fun A hA s g hs _ _ h1 Q E hQ => by
  (first | obtain rfl := h1.inv | obtain ⟨_, rfl⟩ := h1.inv)
  exact call_abs_int fun u tk => hQ _ g s.heap tk (Grow.refl hs) (.int _ _)
theorem fn_roundF {x : UInt64} (hf : Float64.isFinite x = true) : OpOk C d [.flt x] (fop (.builtin "round")) (.int (PySem.Flt.toInt Float64.nearestOf x)) := .of1 fun A hA s g hs _ _ h1 Q E hQ => by
  (first | obtain rfl := h1.inv | obtain ⟨_, rfl⟩ := h1.inv)
  refine PySem.Flt.call_round_float hA.handled (fun h => ?_) (fun h => ?_) fun _ => hQ _ g s.heap _ (Grow.refl hs) (.int _ _)
  · rw [PySem.Flt.not_nan_of_finite hf] at h; cases h
  · rw [PySem.Flt.not_inf_of_finite hf] at h; cases h
end
end Mine
end
section
open PySem PySem.Calls PyProof.Rows
set_option maxRecDepth 100000
namespace Mine
noncomputable def rowOf : Option Stmt → DefRow
  | some (.FunctionDef name args body _ _ _ scope _ _ _) => ⟨name, args, body, scope⟩
  | _ => ⟨Str.empty, { posonlyargs := [], args := [], vararg := none, kwonlyargs := [], kw_defaults := [], kwarg := none, defaults := [] }, [], { kind := .function, names := [], isGenerator := false, isCoroutine := false }⟩
noncomputable def rw_ (i : Nat) : DefRow := rowOf (PySem.Challenge.pw_wu0006_01.main.body[i]?)
noncomputable def bltN : List Str := ["len", "range", "min", "sum", "zip", "round", "str", "int", "abs", "divmod", "type", "ValueError"]
noncomputable def CX (w : World) (ex : Exm) (fr : Around → Prop) : Cx := ⟨PySem.Challenge.pw_wu0006_01, w, bltN, [rw_ 1, rw_ 2, rw_ 7, rw_ 9, rw_ 11, rw_ 12, rw_ 13, rw_ 14, rw_ 15, rw_ 16], ex, fr⟩
noncomputable abbrev CC (w : World) : Cx := CX w {} (fun _ => True)
theorem b_len : bootBuiltins "len" = some (.builtin "len") := by decide +kernel
theorem b_range : bootBuiltins "range" = some (.type "range") := by decide +kernel
theorem b_min : bootBuiltins "min" = some (.builtin "min") := by decide +kernel
theorem b_sum : bootBuiltins "sum" = some (.builtin "sum") := by decide +kernel
theorem b_zip : bootBuiltins "zip" = some (.type "zip") := by decide +kernel
theorem b_round : bootBuiltins "round" = some (.builtin "round") := by decide +kernel
theorem b_str : bootBuiltins "str" = some (.type "str") := by decide +kernel
theorem b_int : bootBuiltins "int" = some (.type "int") := by decide +kernel
theorem b_abs : bootBuiltins "abs" = some (.builtin "abs") := by decide +kernel
theorem b_divmod : bootBuiltins "divmod" = some (.builtin "divmod") := by decide +kernel
theorem b_type : bootBuiltins "type" = some (.type "type") := by decide +kernel
theorem b_VE : bootBuiltins "ValueError" = some (.type "ValueError") := by decide +kernel
theorem bl {x : Str} (h : bltN.contains x = true := by decide +kernel) {w : World} {ex : Exm} {fr : Around → Prop} : x ∈ (CX w ex fr).blt := by simpa [CX] using h
noncomputable def kOk : Option NameKind → Bool
  | some .local => true
  | some .cell => true
  | some .free => true
  | _ => false
theorem Ev.nm {C : Cx} {d : Nat} {env : Env} {ρ : Vars} {x : Str} {pos p} (fe : FEnv env) (hv : ρ.lookup x = some p) (hx : kOk (env.kindOf x) = true) (hd : (x == ("__debug__" : Str)) = false := by decide) (hn : (x == ("__classdict__" : Str)) = false := by decide) : Ev C d env ρ (.Name x pos) p := by
  refine Ev.name hv fe.kind ?_ hd hn
  revert hx
  cases env.kindOf x with
  | none => intro h; cases h
  | some k => cases k <;> simp [kOk]
example : (rw_ 11).name = "_law_rule" := by with_unfolding_all rfl
end Mine
end
section
namespace Mine
/-! the law's own reckoning, in plain numbers -/
/-- the road at a place, the ring round -/
noncomputable def at_ (rd : List Int) (i : Int) : Int := rd.getD (i.fmod rd.length).toNat 0
noncomputable def hgt (rd : List Int) (h : Nat) : Nat → Int
  | 0 => 0
  | i + 1 => hgt rd h i + 1 - 2 * at_ rd ((i : Int) - h)
noncomputable def minTo (f : Nat → Int) : Nat → Int
  | 0 => f 0
  | k + 1 => min (minTo f k) (f (k + 1))
noncomputable def low (rd : List Int) (h : Nat) (e : Nat) : Int := h + minTo (fun k => hgt rd h (e + 2 * k)) h
noncomputable def carsL (rd : List Int) (h : Nat) : List Int := (List.range rd.length).map fun s => (1 - low rd h (s + 1) + low rd h s).fdiv 2
noncomputable def crossL (rd : List Int) (h : Nat) : List Int := (List.range rd.length).map fun s => (low rd h s - hgt rd h (s + h)).fdiv 2
theorem minTo_le (f : Nat → Int) : ∀ n k, k ≤ n → minTo f n ≤ f k
  | 0, k, h => by have : k = 0 := by omega
                  subst this; exact Int.le_refl _
  | n + 1, k, h => by
    have ih := minTo_le f n
    unfold minTo
    by_cases q : k = n + 1
    · subst q; omega
    · have := ih k (by omega); omega
theorem minTo_mem (f : Nat → Int) : ∀ n, ∃ k, k ≤ n ∧ minTo f n = f k
  | 0 => ⟨0, Nat.le_refl _, rfl⟩
  | n + 1 => by
    obtain ⟨k, h1, h2⟩ := minTo_mem f n
    unfold minTo
    by_cases q : minTo f n ≤ f (n + 1)
    · exact ⟨k, by omega, by omega⟩
    · exact ⟨n + 1, Nat.le_refl _, by omega⟩
end Mine
end
section
open PySem PySem.Calls PyProof.Rows
set_option maxRecDepth 100000
namespace Mine
theorem Ev.to {C : Cx} {d : Nat} {env : Env} {ρ : Vars} {e : Expr} {p q : PV} (h : Ev C d env ρ e p) (e' : p = q) : Ev C d env ρ e q := e' ▸ h
/-- the checks of a comprehension's scope, as one bit -/
noncomputable def scB (scope : Scope) (cel : Bool) (x : Str) : Bool :=
  (scope.names.all fun y => !(y.2 == .local) || scope.names.lookup y.1 == some .local) && decide (scope.names.map (·.1)).Nodup && (scope.names.lookup x == some (if cel then .cell else .local))
noncomputable def frB (env : Env) (names : List (Str × NameKind)) : Bool :=
  names.all fun y => !(y.2 == .free) || ((env.kindOf y.1 == some .cell || env.kindOf y.1 == some .free) && (env.cells.lookup y.1).isSome)
noncomputable def otB (scope : Scope) (x : Str) (ns : List Str) : Bool :=
  ns.all fun y => y == x || (!(scope.names.lookup y == some .local) && !(scope.names.lookup y == some .cell))
theorem lookup_mem_map {ρ : Vars} {y : Str} {p : PV} (h : ρ.lookup y = some p) : y ∈ ρ.map (·.1) := List.mem_map.mpr ⟨(y, p), mem_of_lookup h, rfl⟩
theorem CSc.of {env : Env} {scope : Scope} {cel : Bool} {x : Str} {ρ : Vars} (hk : scope.kind = .function) (hb : scB scope cel x = true) (hf : frB env scope.names = true) (ho : otB scope x (ρ.map (·.1)) = true)
    (hc : ∀ n acc, cellsFrom n scope.names acc = if cel then (x, n) :: acc else acc) (hp : ∀ h, pushCells h scope.names = if cel then h.push { cls := .type "cell", data := .cell none } else h) : CSc env scope cel x ρ := by
  unfold scB at hb
  simp only [Bool.and_eq_true, decide_eq_true_eq] at hb
  obtain ⟨⟨h1, h2⟩, h3⟩ := hb
  refine ⟨hk, fun n hn => ?_, fun y hy hl => ?_, h2, by simpa using h3, hc, hp, fun y p hy hne => ?_⟩
  · have := List.all_eq_true.mp hf _ hn
    simpa using this
  · have := List.all_eq_true.mp h1 _ hy
    rw [hl] at this
    simpa using this
  · have := List.all_eq_true.mp ho _ (lookup_mem_map hy)
    simpa [hne] using this
/-- the turns over a run of numbers, and over a list of numbers -/
theorem rng_turn {a c : Int} {n : Nat} {f : Nat → Int} {T : PV → PV → Prop} (h : ∀ i : Nat, i < n → T (.int (a + (i : Int) * c)) (.int (f i))) (i : Nat) (p q : PV) (hp : (rng a n c)[i]? = some p) (hq : (iL ((List.range n).map f))[i]? = some q) : T p q := by
  have hi := (List.getElem?_eq_some_iff.mp hp).1
  rw [rng_length] at hi
  rw [rng_get hi] at hp
  rw [iL, List.getElem?_map, List.getElem?_map, List.getElem?_range hi] at hq
  exact Option.some.inj hp ▸ Option.some.inj hq ▸ h i hi
theorem iL_turn {l : List Int} {f : Int → Int} {T : PV → PV → Prop} (h : ∀ x ∈ l, T (.int x) (.int (f x))) (i : Nat) (p q : PV) (hp : (iL l)[i]? = some p) (hq : (iL (l.map f))[i]? = some q) : T p q := by
  rw [iL, List.getElem?_map] at hp
  rw [iL, List.getElem?_map, List.getElem?_map] at hq
  cases e : l[i]? with
  | none => rw [e] at hp; cases hp
  | some x =>
    rw [e] at hp hq
    exact Option.some.inj hp ▸ Option.some.inj hq ▸ h x (List.mem_of_getElem? e)
end Mine
end
section
open PySem PySem.Calls PyProof.Rows
set_option maxRecDepth 100000
namespace Mine
/-- an iterable that hands out pairs -/
structure ItP (C : Cx) (A : Around) (I : Addr) (items : List (PV × PV)) (g : Ghost) (h : Heap) (fp wr : List Addr) (St : Nat → Heap → Prop) (Mid : Nat → Addr → Heap → Prop) : Prop where
  W : WalksU C.prog C.w A I fp wr items.length (fun i vals => ∃ p q v₁ v₂, items[i]? = some (p, q) ∧ vals = #[v₁, v₂] ∧ Rep g v₁ p ∧ Rep g v₂ q) St Mid
  st : St 0 h
  gw : ∀ b ∈ wr, g b = none
  live : ∀ b ∈ fp, ∃ o, h.get? b = some o
noncomputable def Itp (C : Cx) (d : Nat) (env : Env) (ρ : Vars) (e : Expr) (items : List (PV × PV)) : Prop :=
  ∀ A, AOk C d A → ∀ (s : Shared) (g : Ghost), EH C env ρ g s.heap → ∀ (Q : Value → Shared → Prop) (E : Value → Shared → Prop),
    (∀ I fp wr St Mid g' h' tk, Grow g s.heap g' h' → (∀ b ∈ wr, s.heap.get? b = none) → ItP C A I items g' h' fp wr St Mid → Q (.ref I) { s with heap := h', toks := tk }) →
    wpAny C.M A (eval e env) (fun x s₁ => wpAny C.M A (pyIter x) Q E s₁) E s

section
variable {prog : Program} {w : World} {A : Around}
theorem compLoop_owned {elt iter target : Expr} {ifs : List Expr} {scope : Scope} {pos : Pos} {it acc : Value} {env : Env} {R : Result → Shared → Prop} (I : Nat → Shared → Prop)
    (turn : ∀ n s, I n s → wpAny (model prog w) A (pyNext it) (fun r s₁ => match r with
      | none => R (.ok .next) s₁
      | some v => wpAny (model prog w) A (letOwnedTupleGo target it v) (fun _ s₁' => wpAny (model prog w) A (PySem.assign target env v) (fun _ s₂ =>
          wpAny (model prog w) A (forIn ifs true fun c r => if r = true then do let ok ← isTrue c env (eval c env); pure (ForInStep.yield ok) else pure (ForInStep.yield r)) (fun ok s₃ =>
            if ok = true then wpAny (model prog w) A (eval elt env) (fun x s₄ =>
              wpAny (model prog w) A (call (.builtin "list.append") [acc, x]) (fun _ s₅ => ∃ m, m < n ∧ I m s₅) (notedBy (model prog w) A env fun e s' => R (.error e) s') s₄) (notedBy (model prog w) A env fun e s' => R (.error e) s') s₃
            else ∃ m, m < n ∧ I m s₃) (notedBy (model prog w) A env fun e s' => R (.error e) s') s₂)
          (notedBy (model prog w) A env fun e s' => R (.error e) s') s₁') (notedBy (model prog w) A env fun e s' => R (.error e) s') s₁) (notedBy (model prog w) A env fun e s' => R (.error e) s') s)
    (n : Nat) {s : Shared} (h : I n s) : codeAny (model prog w) A (.compLoop (.ListComp elt [⟨target, iter, ifs, 0⟩] scope pos) 0 it acc env) R s := by
  refine codeAny_loop rfl I (fun n s hI => ?_) n h
  show wpAny _ A ((compTurn (.ListComp elt [⟨target, iter, ifs, 0⟩] scope pos) 0 it acc env).onRaise (fun x => do noteFrame x env; theTreesLotGoes x)) _ _ s
  refine wpAny_noted ?_
  rw [compTurn_list]
  refine wpAny_bind (wpAny_standAt (wpAny_bind (wpAny_mono (turn n s hI) (fun r s₁ h₁ => ?_) fun _ _ h' => h')))
  cases r with
  | none => exact wpAny_pure h₁
  | some v =>
    refine wpAny_bind (wpAny_mono h₁ (fun _ s₁' h₁' => ?_) fun _ _ h' => h')
    refine wpAny_bind (wpAny_mono h₁' (fun _ s₂ h₂ => wpAny_bind (wpAny_mono h₂ (fun ok s₃ h₃ => ?_) fun _ _ h' => h')) fun _ _ h' => h')
    cases ok with
    | false => exact wpAny_pure ⟨rfl, h₃⟩
    | true =>
      exact wpAny_bind (wpAny_bind (wpAny_mono h₃ (fun x s₄ h₄ => wpAny_bind (wpAny_mono h₄ (fun _ s₅ h₅ => wpAny_pure (wpAny_pure ⟨rfl, h₅⟩)) fun _ _ h' => h')) fun _ _ h' => h'))
end

theorem cell_ne_ns {h : Heap} {c a : Addr} {v : Option Value} {m : Str → Option Value} (x : h.IsCell c v) (y : h.Ns a m) : c ≠ a := by
  rintro rfl
  obtain ⟨o, e1, e2⟩ := x
  obtain ⟨o', es, ep, f1, f2, _⟩ := y
  rw [e1] at f1; (first | obtain rfl := Option.some.inj f1 | cases f1)
  rw [e2] at f2; (first | obtain rfl := Option.some.inj f2 | cases f2)
theorem storeC2 {M : Model} {A : Around} {s : Shared} {env : Env} {scope : Scope} {x : Str} {ρ : Vars} {C : Addr} {v : Value} {Q : Unit → Shared → Prop} {E : Value → Shared → Prop} (cs : CSc env scope false x ρ) (F : CFr false C s.heap)
    (h : ∀ h' tk, Heap.SameBut C s.heap h' → CFr false C h' → Ld (cEnv scope env false x C) h' x v → (∀ z w, z ≠ x → Ld (cEnv scope env false x C) s.heap z w → Ld (cEnv scope env false x C) h' z w) → Q () { s with heap := h', toks := tk }) : wpAny M A (storeName (cEnv scope env false x C) x v) Q E s := by
  have hk := cEnv_kind (scope := scope) (env := env) (cel := false) (x := x) (C := C) x
  rw [cs.x_] at hk
  have hk' : (cEnv scope env false x C).kindOf x = some .local := hk
  obtain ⟨m, hm⟩ := F.ns
  refine wpAny_storeName_local hk' hm (fun h' hn hs => h h' _ hs ⟨⟨_, hn⟩, fun q => nomatch q⟩ ?_ fun z w hz l => ?_) (by show (scope.kind == .class || (scope.kind == .module && _)) = false; rw [cs.kind]; rfl)
  · unfold Ld; rw [hk']; exact ⟨_, hn, by simp⟩
  · unfold Ld at l ⊢
    split at l
    · obtain ⟨m', a, b⟩ := l
      rw [ns_uniq a hm] at b
      exact ⟨_, hn, by simpa [hz] using b⟩
    · obtain ⟨c, a, b⟩ := l; exact ⟨c, a, b.sameBut hs (cell_ne_ns b hm)⟩
    · obtain ⟨c, a, b⟩ := l; exact ⟨c, a, b.sameBut hs (cell_ne_ns b hm)⟩
    · trivial
theorem CSc.second {env : Env} {scope : Scope} {x y : Str} {ρ : Vars} (cs : CSc env scope false x ρ) (hy : scope.names.lookup y = some .local) : CSc env scope false y [] :=
  ⟨cs.kind, cs.free, cs.names, cs.nd, hy, cs.cells, cs.push, fun _ _ e => nomatch e⟩

section
variable {C : Cx} {d : Nat} {env : Env} {ρ : Vars}
theorem IsTup_but {h h' : Heap} {T : Addr} {v : Array Value} (x : IsTup h T v) (k : ∀ o, h.get? T = some o → h'.get? T = some o) : IsTup h' T v := by
  obtain ⟨o, e1, e2, n, e3⟩ := x
  exact ⟨o, k o e1, e2, n, e3⟩
/-- a pair is taken apart into two names -/
theorem tup_store {prog : Program} {w : World} {A : Around} {s : Shared} {env : Env} {scope : Scope} {x y : Str} {px py tp : Pos} {tk0} {ρ : Vars} {F T : Addr} {v₁ v₂ : Value} {Q : Unit → Shared → Prop} {E : Value → Shared → Prop} (hh : A.handled = none) (cs : CSc env scope false x ρ) (hy : scope.names.lookup y = some .local) (hxy : y ≠ x)
    (hT : IsTup s.heap T #[v₁, v₂]) (cf : CFr false F s.heap) (h : ∀ h' tk, (∀ b o, b ≠ F → s.heap.get? b = some o → h'.get? b = some o) → CFr false F h' → Ld (cEnv scope env false x F) h' x v₁ → Ld (cEnv scope env false x F) h' y v₂ → Q () { s with heap := h', toks := tk }) :
    wpAny (model prog w) A (PySem.assign (.Tuple [.Name x px, .Name y py] tk0 tp) (cEnv scope env false x F) (.ref T)) Q E s := by
  refine assign_Tuple_tuple hh hT rfl rfl fun h₄ he₄ => ?_
  have hk₄ : Kp s.heap h₄ := fun b o e => he₄ b o (Nat.ne_of_lt (Heap.lt_size e)) e
  refine assignInOrder_cons (wpAny_assign_Name (storeC2 cs (cf.kp fun b o _ e => hk₄ b o e) fun h₅ tk₅ hs₅ hcf₅ l₅ _ => ?_))
  refine assignInOrder_cons (wpAny_assign_Name (storeC2 (x := y) (cs.second hy) hcf₅ fun h₆ tk₆ hs₆ hcf₆ l₆ lo₆ => ?_))
  exact assignInOrder_nil (h h₆ tk₆ (fun b o hb e => (hs₆.2 b hb).trans ((hs₅.2 b hb).trans (hk₄ b o e))) hcf₆ (lo₆ x v₁ (Ne.symm hxy) l₅) l₆)
theorem comp_coreP {A : Around} (hA : AOk C d A) {s : Shared} {g : Ghost} (X : EH C env ρ g s.heap) {elt iter : Expr} {x y : Str} {px py tp pos ppos : Pos} {tk0} {scope : Scope} {ifs : List Expr} {kp : Bool} {items : List (PV × PV)} {qs : List PV} {use : Option (Value → Sem Unit)} {Q : Value → Shared → Prop} {E : Value → Shared → Prop}
    (fe : FEnv env) (cs : CSc env scope false x ρ) (hy : scope.names.lookup y = some .local) (hxy : y ≠ x) (hI : Itp C d env ρ iter items) (hlen : qs.length = items.length) (hsz : items.length ≤ 1000000)
    (turn : ∀ (i : Nat) (p p' q : PV), items[i]? = some (p, p') → qs[i]? = some q → q.sca = true ∧ ∀ F, FEnv (cEnv scope env false x F) → if kp then ifs = [] ∧ Ev C d (cEnv scope env false x F) ((y, p') :: (x, p) :: ρ) elt q else ∃ c, ifs = [c] ∧ Tr C d (cEnv scope env false x F) ((y, p') :: (x, p) :: ρ) c false)
    (hs : ∀ x, foldedSetIterable iter env x = pure x)
    (fin : ∀ D F ys n h' tk, Kp s.heap h' → s.heap.get? D = none → s.heap.get? F = none → D ≠ F → h'.get? D = some (lobj ys n) → Reps g0 ys (if kp then qs else []) → (∃ m, h'.Ns F m) → compPost C.M A E use Q (.ref D) F (.ok .next) { s with heap := h', toks := tk }) :
    wpAny C.M A (comprehension (.ListComp elt [⟨.Tuple [.Name x px, .Name y py] tk0 tp, iter, ifs, 0⟩] scope pos) scope env ppos (PySem.newList []) false (eval iter env) use) Q E s := by
  refine wpAny_comprehension_free rfl hs (closure_is cs.free) cs.kind cs.names (hI A hA s g X _ E fun I fp wr St Mid g₁ h₁ tk₁ G hnew its => ?_)
  refine wpAny_newObj_type (newEnv_comp ?_)
  have mk := CMade.of false h₁
  dsimp only
  rw [cs.cells, cs.push]
  generalize (if false = true then ((h₁.push { cls := .type "list", dict := none, data := .seq ([] : List Value).toArray }).push { cls := Value.type "dict", data := .dict #[] }).push { cls := .type "cell", data := .cell none } else (h₁.push { cls := .type "list", dict := none, data := .seq ([] : List Value).toArray }).push { cls := .type "dict", data := .dict #[] }) = H3 at mk ⊢
  generalize (h₁.push { cls := .type "list", dict := none, data := .seq ([] : List Value).toArray }).objs.size = F at mk ⊢
  generalize h₁.objs.size = D at mk ⊢
  have off {b : Addr} (e : h₁.get? b = none) : b ∉ wr := fun hb => ne_live (its.live b (its.W.sub b hb)) e rfl
  have hst₃ : St 0 H3 := its.W.frame _ _ _ its.st fun b _ o e => mk.up b o e
  have loop : ∀ s₃ : Shared, s₃ = { s with heap := H3, toks := tk₁ } →
      codeAny C.M A (.compLoop (.ListComp elt [⟨.Tuple [.Name x px, .Name y py] tk0 tp, iter, ifs, 0⟩] scope pos) 0 (.ref I) (.ref D) (cEnv scope env false x F)) (compPost C.M A E use Q (.ref D) F) s₃ := by
    rintro s₃ rfl
    generalize hR : compPost C.M A E use Q (.ref D) F = R
    refine compLoop_owned (CInvAt s wr h₁ St items.length false F D (fun i => if kp then qs.take i else [])) ?_ (items.length + 1)
      (.mk tk₁ ⟨Nat.zero_le _, hst₃, fun b o _ e => mk.up b o e, mk.cf, mk.obj, by cases kp <;> exact .nil⟩)
    rintro k s' ⟨i, h', tk, ys, n, rfl, rfl, V⟩
    by_cases hlt : i < items.length
    · refine its.W.item i _ _ _ hlt V.st fun T vals h₂ tk₂ hPv hT₂ hm₂ hk₂ => ?_
      obtain ⟨p, p', v₁, v₂, hp, rfl, hr1, hr2⟩ := hPv
      have hq : qs[i]? = some (qs[i]'(hlen ▸ hlt)) := List.getElem?_eq_getElem _
      obtain ⟨hsca, hev⟩ := turn i p p' _ hp hq
      refine its.W.go _ _ _ i T _ _ _ hm₂ fun h₃ hst₃ hk₃ => ?_
      have ex (b o) (hb : b ∉ wr) (e : h₁.get? b = some o) : h₃.get? b = some o := hk₃ b o hb (hk₂ b o hb (V.kp b o hb e))
      have hcf₃ : CFr false F h₃ := V.cf.kp fun b o hb e => hk₃ b o (off (by rcases hb with rfl | ⟨q, _⟩; exact mk.f; cases q)) (hk₂ b o (off (by rcases hb with rfl | ⟨q, _⟩; exact mk.f; cases q)) e)
      refine tup_store hA.handled cs hy hxy (IsTup_but hT₂ fun o => hk₃ T o (its.W.apart _ _ _ hm₂)) hcf₃ fun h₆ tk₆ hs₆ hcf₆ l₅ l₆ => ?_
      have hk₆ (b o) (hb : b ∉ wr) (e : h₁.get? b = some o) : h₆.get? b = some o := hs₆ b o (ne_get e mk.f) (ex b o hb e)
      have hst₆ : St (i + 1) h₆ := its.W.frame _ _ _ hst₃ fun b hb o e => hs₆ b o (ne_live (its.live b hb) mk.f) e
      have hD₆ : h₆.get? D = some (lobj ys n) := hs₆ D _ mk.df (hk₃ D _ (off mk.d) (hk₂ D _ (off mk.d) V.obj))
      have hsub : GSub g₁ h₆ := fun b o e => hk₆ b o (fun hw => ne_at e (its.gw b hw) rfl) (G.sub b o e)
      have hKp : Kp s.heap h₆ := fun b o e => hk₆ b o (fun hw => ne_get e (hnew b hw) rfl) (G.kp b o e)
      have hEH := (X.comp cs hsub G.le hKp l₅ hr1).cons l₆ hr2
      have hev' := hev F (cEnv_fenv fe cs.kind)
      have rs' := V.rs
      cases kp with
      | true =>
        obtain ⟨rfl, hev'⟩ := hev'
        refine wpAny_tests_nil ?_
        rw [if_pos rfl]
        refine hev' A hA _ g₁ hEH _ _ fun z g₄ h₇ tk₇ G₄ ry => ?_
        have hyl : ys.length ≤ 1000000 := by
          rw [rs'.length]
          show (qs.take i).length ≤ _
          rw [List.length_take]; exact Nat.le_trans (Nat.min_le_left _ _) (Nat.le_trans V.le hsz)
        refine append_at (hsz := by show ys.toArray.size ≤ sizeLine; rw [List.size_toArray, sizeLine_eq]; exact Nat.le_trans hyl (by decide)) (G₄.kp _ _ hD₆) fun h₈ hs₈ hD₈ => ?_
        refine CInvAt.next (ys := ys ++ [z]) (n := n + 1) tk₇ ⟨hlt, its.W.frame _ _ _ hst₆ fun b hb o e => (hs₈.2 b (ne_live (its.live b hb) mk.d)).trans (G₄.kp b o e), fun b o hb e => (hs₈.2 b (ne_get e mk.d)).trans (G₄.kp b o (hk₆ b o hb e)),
          hcf₆.kp fun b o hb e => (hs₈.2 b (by rcases hb with rfl | ⟨q, _⟩; exact Ne.symm mk.df; cases q)).trans (G₄.kp b o e), ?_, ?_⟩
        · rw [hD₈]; simp
        · show Reps g0 _ (qs.take (i + 1))
          rw [List.take_add_one, hq]; exact rs'.append (.cons (ry.sca hsca) .nil)
      | false =>
        obtain ⟨c, rfl, hev'⟩ := hev'
        refine wpAny_tests_one (hev' A hA _ g₁ hEH _ _ fun g₄ h₇ tk₇ G₄ => ?_)
        rw [if_neg Bool.false_ne_true]
        exact CInvAt.next tk₇ ⟨hlt, its.W.frame _ _ _ hst₆ fun b hb o e => G₄.kp b o e, fun b o hb e => G₄.kp b o (hk₆ b o hb e), hcf₆.kp fun b o hb e => G₄.kp b o e, G₄.kp _ _ hD₆, rs'⟩
    · obtain rfl : i = items.length := Nat.le_antisymm V.le (Nat.not_lt.mp hlt)
      refine its.W.done _ _ _ V.st fun h₂ tk₂ hk₂ => ?_
      have rs' : Reps g0 ys (if kp then qs.take items.length else []) := V.rs
      rw [← hlen, List.take_length] at rs'
      subst hR
      refine fin D F ys n h₂ tk₂ (fun b o e => ?_) (G.kp.none mk.d) (G.kp.none mk.f) mk.df (hk₂ _ _ (off mk.d) V.obj) rs' ?_
      · have hbI : b ∉ wr := fun hw => ne_get e (hnew b hw) rfl
        exact hk₂ b o hbI (V.kp b o hbI (G.kp b o e))
      · obtain ⟨m, hm⟩ := V.cf.ns
        exact ⟨m, hm.at' fun o e => hk₂ _ o (off mk.f) e⟩
  exact codeAny_compStart_list (loop _ rfl) (its.W.self 0 _ _ _ hst₃ (loop _ rfl))

theorem Ev.compP {elt iter : Expr} {x y : Str} {px py tp pos : Pos} {tk0} {scope : Scope} {ifs : List Expr} (kp : Bool) {items : List (PV × PV)} {qs : List PV} (fe : FEnv env) (cs : CSc env scope false x ρ) (hy : scope.names.lookup y = some .local) (hxy : y ≠ x) (hI : Itp C d env ρ iter items) (hlen : qs.length = items.length) (hsz : items.length ≤ 1000000)
    (turn : ∀ (i : Nat) (p p' q : PV), items[i]? = some (p, p') → qs[i]? = some q → q.sca = true ∧ ∀ F, FEnv (cEnv scope env false x F) → if kp then ifs = [] ∧ Ev C d (cEnv scope env false x F) ((y, p') :: (x, p) :: ρ) elt q else ∃ c, ifs = [c] ∧ Tr C d (cEnv scope env false x F) ((y, p') :: (x, p) :: ρ) c false)
    (hs : ∀ x, foldedSetIterable iter env x = pure x := by intro _; rfl) : Ev C d env ρ (.ListComp elt [⟨.Tuple [.Name x px, .Name y py] tk0 tp, iter, ifs, 0⟩] scope pos) (.lst (if kp then qs else [])) := fun A hA s g X Q E hQ => by
  rw [eval_ListComp]
  refine comp_coreP (use := Option.none) (kp := kp) hA X fe cs hy hxy hI hlen hsz turn hs fun D F ys n h' tk k hD hF hDF hobj rs hm => ?_
  obtain ⟨m, hm⟩ := hm
  refine ⟨m, hm, fun h'' hs'' => ?_⟩
  have k2 : Kp s.heap h'' := fun b o e => (hs''.2 b fun q => by subst q; rw [hF] at e; (first | obtain rfl := Option.some.inj e | cases e)).trans (k b o e)
  have hobj2 : h''.get? D = some (lobj ys n) := (hs''.2 D hDF).trans hobj
  exact hQ _ _ _ _ (Grow.newList X.sub k2 hD hobj2) (.lst D ys n _ (gAdd_self ..) rs.any0)
end
section
variable {C : Cx} {d : Nat} {env : Env} {σ : PSt} {Post : Option PV → PSt → Prop}
theorem Xs.assignCompP {elt iter : Expr} {x x2 y : Str} {px px2 tp py pos spos : Pos} {tk0} {scope : Scope} {items : List (PV × PV)} {qs : List PV} (fe : FEnv env) (hy : Sto env y) (cs : CSc env scope false x σ.vars) (hx2 : scope.names.lookup x2 = some .local) (hxy : x2 ≠ x) (hI : Itp C d env σ.vars iter items) (hlen : qs.length = items.length) (hsz : items.length ≤ 1000000)
    (turn : ∀ (i : Nat) (p p' q : PV), items[i]? = some (p, p') → qs[i]? = some q → q.sca = true ∧ ∀ F, FEnv (cEnv scope env false x F) → Ev C d (cEnv scope env false x F) ((x2, p') :: (x, p) :: σ.vars) elt q)
    (hm : ∀ z, σ.gro = some z → z.1 ≠ y) (hs : ∀ x, foldedSetIterable iter env x = pure x) (hsw : swapsWith (.ListComp elt [⟨.Tuple [.Name x px, .Name x2 px2] tk0 tp, iter, [], 0⟩] scope pos) (some (.Name y py)) spos.line env = pure true) :
    Xs C d env σ (.Assign [.Name y py] (.ListComp elt [⟨.Tuple [.Name x px, .Name x2 px2] tk0 tp, iter, [], 0⟩] scope pos) spos) (fun o σ' => o = none ∧ σ' = σ.set y (.lst qs)) := fun A hA s hB gB μ g S Q E hn _ => by
  rw [exec_Assign_Name_used _ _ _ _ hsw]
  refine wpAny_bind (wpAny_standAt (wpAny_bind ?_))
  show wpAny _ A (do let _ ← comprehension (.ListComp elt [⟨.Tuple [.Name x px, .Name x2 px2] tk0 tp, iter, [], 0⟩] scope pos) scope env _ (PySem.newList []) false (eval iter env) (some (PySem.assign (.Name y py) env))) _ _ s
  refine wpAny_bind (wpAny_mono (comp_coreP (kp := true) (use := some (PySem.assign (.Name y py) env)) (Q := fun _ s' => Q .next s') hA S.eh fe cs hx2 hxy hI hlen hsz (fun i p p' q h1 h2 => ⟨(turn i p p' q h1 h2).1, fun F f2 => (show [] = [] ∧ _ from ⟨rfl, (turn i p p' q h1 h2).2 F f2⟩)⟩) hs fun D F ys n h' tk k hD hF hDF hobj rs hm' => ?_) (fun _ s' hq => wpAny_pure (wpAny_pure hq)) fun _ _ e => e)
  obtain ⟨m, hm'⟩ := hm'
  simp only [if_true] at rs
  have G := Grow.newList S.grow.sub k hD hobj
  have S' := S.grown G
  have hFA : ¬ At C.ex env F := fun q => by obtain ⟨o, e⟩ := q.live S.frm; rw [hF] at e; (first | obtain rfl := Option.some.inj e | cases e)
  show wpAny _ A (PySem.assign (.Name y py) env (.ref D)) _ _ _
  refine wpAny_assign_Name (store fe S'.frm hy fun b h₂ tk₂ hb hs₂ F₂ l₂ lo₂ => ?_)
  have S₂ := S'.stored hb hs₂ F₂ l₂ lo₂ (.lst D ys n qs (gAdd_self ..) rs.any0) hm
  refine ⟨m, hm'.sameBut hs₂ fun q => hFA (q ▸ hb), fun h₃ hs₃ => ?_⟩
  have gF : gAdd g D (lobj ys n) F = none := by
    unfold gAdd; rw [if_neg (Ne.symm hDF)]; exact S.grow.sub.off hF
  have S₃ := S₂.same hs₃ gF (S.grow.kp.none hF) hFA (S.gro_live hF)
  exact hn _ μ _ h₃ _ ⟨rfl, rfl⟩ S₃ ⟨MuOk.refl _ _, fun c o e h1 _ => (hs₃.2 c fun q => by subst q; rw [hF] at e; (first | obtain rfl := Option.some.inj e | cases e)).trans ((hs₂.2 c fun q => h1 (q ▸ hb)).trans (k c o e)), G.le, fun c o e => (G.new c o e).imp id .inl⟩
theorem Ex.assignCompP {elt iter : Expr} {x x2 y : Str} {px px2 tp py pos spos : Pos} {tk0} {scope : Scope} {items : List (PV × PV)} {qs : List PV} {ss} (fe : FEnv env) (hy : Sto env y) (cs : CSc env scope false x σ.vars) (hx2 : scope.names.lookup x2 = some .local) (hxy : x2 ≠ x) (hI : Itp C d env σ.vars iter items) (hlen : qs.length = items.length) (hsz : items.length ≤ 1000000)
    (turn : ∀ (i : Nat) (p p' q : PV), items[i]? = some (p, p') → qs[i]? = some q → q.sca = true ∧ ∀ F, FEnv (cEnv scope env false x F) → Ev C d (cEnv scope env false x F) ((x2, p') :: (x, p) :: σ.vars) elt q)
    (k : Ex C d env (σ.set y (.lst qs)) ss Post) (hm : ∀ z, σ.gro = some z → z.1 ≠ y := by intro _ h; exact nomatch h) (hs : ∀ x, foldedSetIterable iter env x = pure x := by intro _; rfl) (hsw : swapsWith (.ListComp elt [⟨.Tuple [.Name x px, .Name x2 px2] tk0 tp, iter, [], 0⟩] scope pos) (some (.Name y py)) spos.line env = pure true := by rfl) :
    Ex C d env σ (.Assign [.Name y py] (.ListComp elt [⟨.Tuple [.Name x px, .Name x2 px2] tk0 tp, iter, [], 0⟩] scope pos) spos :: ss) Post :=
  Ex.cons (Xs.assignCompP fe hy cs hx2 hxy hI hlen hsz turn hm hs hsw) (fun _ h => h.2 ▸ k) fun _ _ h => nomatch h.1

/-- a list of pairs -/
noncomputable def pairs (l : List (PV × PV)) : List PV := l.map fun p => .tup [p.1, p.2]
end
end Mine
end
section
open PySem PySem.Calls PyProof.Rows
set_option maxRecDepth 100000
namespace Mine
section
variable {prog : Program} {w : World} {A : Around} {E : Value → Shared → Prop} {s : Shared}
theorem Draws.tuple (hh : A.handled = none) (it t : Addr) (hne : t ≠ it) (items : Array Value) :
    Draws prog w A it [it, t] items.size (fun i v => items[i]? = some v) (fun i h => h.IsTupleIter it t i ∧ h.IsTuple t items) where
  live := fun _ _ st => let ⟨o, ho, _⟩ := st.1; ⟨o, ho⟩
  frame := fun _ _ _ st hk => by
    obtain ⟨⟨o, ho, r⟩, ⟨o', ho', r'⟩⟩ := st
    exact ⟨⟨o, hk it (by simp) o ho, r⟩, ⟨o', hk t (by simp) o' ho', r'⟩⟩
  item := fun i s Q E hi st hQ => by
    obtain ⟨hit, ht⟩ := st
    obtain ⟨o, ho, hc, hd⟩ := id hit
    obtain ⟨ol, hol, _, nl, hdl⟩ := id ht
    have hx : items[i]? = some items[i] := by simp [hi]
    unfold Builtin.SmallTypes.nextOf
    refine wpAny_bind (wpAny_callSpecial?_slot (name := Str.ofString "__next__") hit.typeIs F.slot_tuple_iterator_next
      (wpAny_call_entry F.slot_tuple_iterator_next hit.typeIs F.entry_tuple_iterator_next ?_ (F.args_tuple_iterator_next_1 _)))
    show wpAny _ _ (field (.ref it) 0 >>= _) _ _ s
    refine wpAny_bind (wpAny_field ho hd (x := .ref t) rfl ?_)
    show wpAny _ _ (if (Value.ref t == Value.none) = true then _ else _) _ _ s
    rw [if_neg (show ¬ ((Value.ref t == Value.none) = true) from Bool.false_ne_true)]
    show wpAny _ _ (field (.ref it) 1 >>= _) _ _ s
    refine wpAny_bind (wpAny_field ho hd (x := .int i 0) rfl ?_)
    show wpAny _ _ (seqItems? (.ref t) >>= _) _ _ s
    refine wpAny_bind (wpAny_seqItems hol hdl ?_)
    simp only [Int.toNat_natCast, hx]
    refine wpAny_bind (wpAny_setField ho hd (by simp) (wpAny_pure ⟨_, rfl, wpAny_pure (hQ _ _ _ hx ⟨?_, ht.extBut (Heap.SameBut.update ..).extBut hne⟩ (Heap.SameBut.update ..))⟩))
    exact ⟨_, Heap.get?_update_self _ ho (Obj.isFreed_of_fields (Obj.data_mapFields hd _)), (Obj.cls_mapFields ..).trans hc, by
      rw [Obj.data_mapFields hd]; simp [rawInt]⟩
  done := fun s Q E st hE => by
    obtain ⟨hit, ht⟩ := st
    obtain ⟨o, ho, hc, hd⟩ := id hit
    obtain ⟨ol, hol, _, nl, hdl⟩ := id ht
    have hx : items[items.size]? = none := by simp
    unfold Builtin.SmallTypes.nextOf
    refine wpAny_bind (wpAny_callSpecial?_slot (name := Str.ofString "__next__") hit.typeIs F.slot_tuple_iterator_next
      (wpAny_call_entry F.slot_tuple_iterator_next hit.typeIs F.entry_tuple_iterator_next ?_ (F.args_tuple_iterator_next_1 _)))
    show wpAny _ _ (field (.ref it) 0 >>= _) _ _ s
    refine wpAny_bind (wpAny_field ho hd (x := .ref t) rfl ?_)
    show wpAny _ _ (if (Value.ref t == Value.none) = true then _ else _) _ _ s
    rw [if_neg (show ¬ ((Value.ref t == Value.none) = true) from Bool.false_ne_true)]
    show wpAny _ _ (field (.ref it) 1 >>= _) _ _ s
    refine wpAny_bind (wpAny_field ho hd (x := .int (items.size : Nat) 0) rfl ?_)
    show wpAny _ _ (seqItems? (.ref t) >>= _) _ _ s
    refine wpAny_bind (wpAny_seqItems hol hdl ?_)
    simp only [Int.toNat_natCast, hx]
    refine wpAny_bind (wpAny_rule (wpAny_bind (wpAny_setField ho hd (by simp) ?_)))
    show wpAny _ _ (newExc (.type "StopIteration") [] >>= _) _ _ _
    refine wpAny_bind ?_
    unfold newExc newTuple
    refine wpAny_bind (wpAny_newObj_type ?_ (by size_fits))
    refine wpAny_bind (m := firstArgMember _ _) (wpAny_of_eq (a := Value.none) (by first | rfl | (simp only [firstArgMember]; rfl)) ?_)
    refine wpAny_newObj_type ?_ (by size_fits)
    unfold raiseNew
    refine wpAny_bind (wpAny_handled ?_)
    first | rw [show A.in1.handled = none from hh] | rw [hh]
    refine wpAny_bind (wpAny_pure (wpAny_throw ?_))
    exact hE _ _ (((Heap.SameBut.update ..).extBut.push _).push _) ⟨_, Heap.get?_push_size _ rfl, rfl⟩

/-- what lies apart in a zip of two -/
structure ZAp (z TI TO i1 i2 : Addr) (f1 f2 : List Addr) : Prop where
  zTI : z ≠ TI
  zTO : z ≠ TO
  TIO : TI ≠ TO
  z1 : z ∉ f1
  z2 : z ∉ f2
  o1 : TO ∉ f1
  o2 : TO ∉ f2
  t1 : TI ≠ i1
  t2 : TI ≠ i2
  m1 : i1 ∈ f1
  m2 : i2 ∈ f2
  c1 : i1 ∉ f2
  c2 : i2 ∉ f1
structure ZSt (prog : Program) (w : World) (A : Around) (z TI TO i1 i2 : Addr) (f1 f2 : List Addr) (S1 S2 : Nat → Heap → Prop) (f0 : Value) (i : Nat) (h : Heap) : Prop where
  hz : IsZip h z TI TO f0
  hTI : IsPair h TI (.ref i1) (.ref i2)
  hTO : ∃ a b, IsPair h TO a b
  s1 : S1 i h
  s2 : S2 i h

section
variable {z TI TO i1 i2 : Addr} {f1 f2 : List Addr} {n i : Nat} {P1 P2 : Nat → Value → Prop} {S1 S2 : Nat → Heap → Prop}
theorem ne_of_nm {a b : Addr} {l : List Addr} (h1 : a ∈ l) (h2 : b ∉ l) : a ≠ b := fun q => h2 (q ▸ h1)
/-- the ends, without their make -/
theorem wpAny_ends {α : Type} {M : Model} {A : Around} {t : Sem α} {Q : α → Shared → Prop} {E : Value → Shared → Prop} {s : Shared} (h : ∀ (Q' : α → Shared → Prop) (E' : Value → Shared → Prop), (∀ v s, Q v s → Q' v s) → (∀ e s, E e s → E' e s) → wpAny M A t Q' E' s) : wpAny M A t Q E s := h Q E (fun _ _ x => x) fun _ _ x => x
theorem zipD_item {Q : Value → Shared → Prop} (D1 : Draws prog w A i1 f1 n P1 S1) (D2 : Draws prog w A i2 f2 n P2 S2) (Z : ZAp z TI TO i1 i2 f1 f2) (hi : i < n) (st : ZSt prog w A z TI TO i1 i2 f1 f2 S1 S2 .none i s.heap)
    (hQ : ∀ x y (T : Addr) h' tk, P1 i x → P2 i y → ZSt prog w A z TI TO i1 i2 f1 f2 S1 S2 (rawInt (T : Nat)) (i + 1) h' → IsPair h' T x y → s.heap.get? T = none →
      (∀ c o, c ≠ z → c ≠ TO → c ≠ i1 → c ≠ i2 → s.heap.get? c = some o → h'.get? c = some o) → Q (.ref T) { s with heap := h', toks := tk }) :
    wpAny (model prog w) A (Builtin.«zip.__next__» ⟨[.ref z], []⟩) (fun fin s' => ∃ v, fin = .done (.ret v) ∧ Q v s') E s := by
  obtain ⟨hz, hTI, ⟨a, b, hTO⟩, st1, st2⟩ := st
  show wpAny _ _ (field (.ref z) 2 >>= _) _ _ _
  refine wpAny_bind (wpAny_field hz rfl (x := .bool false) rfl ?_)
  show wpAny _ _ (field (.ref z) 3 >>= _) _ _ _
  refine wpAny_bind (wpAny_field hz rfl (x := .ref TI) rfl ?_)
  refine wpAny_bind (wpAny_seqItems hTI rfl ?_)
  show wpAny _ _ (Builtin.SmallTypes.ownedTupleIsFree (.ref z) >>= _) _ _ _
  refine wpAny_bind ?_
  unfold Builtin.SmallTypes.ownedTupleIsFree
  refine wpAny_bind (wpAny_field hz rfl (x := .none) rfl (wpAny_pure ?_))
  rw [if_pos rfl]
  refine wpAny_bind (wpAny_rule ?_)
  refine wpAny_bind (wpAny_field hz rfl (x := .ref TO) rfl ?_)
  refine wpAny_bind (wpAny_setField_rec hz (by simp) fun h₁ hz₁ hs₁ => ?_)
  replace hz₁ : IsZip h₁ z TI TO .ellipsis := hz₁
  refine wpAny_bind (wpAny_ends fun Q' E' hQ' _ => ?_)
  rw [List.zipIdx_cons, List.zipIdx_cons, List.zipIdx_nil, List.forIn_cons]
  have fr1 : ∀ {h h' : Heap} {c : Addr} {k}, Heap.SameBut c h h' → c ∉ f1 → S1 k h → S1 k h' := fun hs hc st => D1.frame _ _ _ st fun b hb o e => (hs.2 b fun q => hc (q ▸ hb)).trans e
  have fr2 : ∀ {h h' : Heap} {c : Addr} {k}, Heap.SameBut c h h' → c ∉ f2 → S2 k h → S2 k h' := fun hs hc st => D2.frame _ _ _ st fun b hb o e => (hs.2 b fun q => hc (q ▸ hb)).trans e
  refine wpAny_bind (wpAny_bind (wpAny_onRaise ?_))
  show wpAny _ _ (Builtin.SmallTypes.nextOf (.ref i1) >>= _) _ _ _
  refine wpAny_bind ((D1.item i _ _ _ hi (fr1 hs₁ Z.z1 st1) fun x h₂ tk₂ hP1 st1₂ hs₂ => wpAny_pure ?_))
  have hTO₂ : IsPair h₂ TO a b := hs₂.extBut _ _ (ne_of_nm Z.m1 Z.o1).symm (hs₁.extBut _ _ Z.zTO.symm hTO)
  refine wpAny_bind (wpAny_seqItems hTO₂ rfl ?_)
  refine wpAny_bind (wpAny_updateSeq_pair hTO₂ fun h₃ hTO₃ hs₃ => ?_)
  replace hTO₃ : IsPair h₃ TO x b := hTO₃
  refine wpAny_bind (wpAny_letGo (wpAny_pure ?_))
  dsimp only
  rw [List.forIn_cons]
  refine wpAny_bind (wpAny_bind (wpAny_onRaise ?_))
  show wpAny _ _ (Builtin.SmallTypes.nextOf (.ref i2) >>= _) _ _ _
  refine wpAny_bind ((D2.item i _ _ _ hi (fr2 hs₃ Z.o2 (fr2 hs₂ Z.c1 (fr2 hs₁ Z.z2 st2))) fun y h₄ tk₄ hP2 st2₄ hs₄ => wpAny_pure ?_))
  have hTO₄ : IsPair h₄ TO x b := hs₄.extBut _ _ (ne_of_nm Z.m2 Z.o2).symm hTO₃
  refine wpAny_bind (wpAny_seqItems hTO₄ rfl ?_)
  refine wpAny_bind (wpAny_updateSeq_pair hTO₄ fun h₅ hTO₅ hs₅ => ?_)
  replace hTO₅ : IsPair h₅ TO x y := hTO₅
  refine wpAny_bind (wpAny_letGo (wpAny_pure ?_))
  dsimp only
  rw [List.forIn_nil]
  refine wpAny_pure (hQ' _ _ ?_)
  refine wpAny_bind (wpAny_seqItems hTO₅ rfl ?_)
  refine wpAny_bind (wpAny_newTuple ?_)
  have hsz : h₅.objs.size = s.heap.objs.size := by rw [hs₅.1, hs₄.1, hs₃.1, hs₂.1, hs₁.1]
  have zi1 : z ≠ i1 := (ne_of_nm Z.m1 Z.z1).symm
  have zi2 : z ≠ i2 := (ne_of_nm Z.m2 Z.z2).symm
  have hz₅ : IsZip h₅ z TI TO .ellipsis := hs₅.extBut _ _ Z.zTO (hs₄.extBut _ _ zi2 (hs₃.extBut _ _ Z.zTO (hs₂.extBut _ _ zi1 hz₁)))
  have hk₅ : ∀ c o, c ≠ z → c ≠ TO → c ≠ i1 → c ≠ i2 → s.heap.get? c = some o → h₅.get? c = some o := fun c o c1 c2 c3 c4 e =>
    hs₅.extBut _ _ c2 (hs₄.extBut _ _ c4 (hs₃.extBut _ _ c2 (hs₂.extBut _ _ c3 (hs₁.extBut _ _ c1 e))))
  have st1₅ : S1 (i + 1) h₅ := fr1 hs₅ Z.o1 (fr1 hs₄ Z.c2 (fr1 hs₃ Z.o1 st1₂))
  have st2₅ : S2 (i + 1) h₅ := fr2 hs₅ Z.o2 st2₄
  have hzlt : z < h₅.objs.size := Heap.lt_size hz₅
  show wpAny _ _ (Builtin.SmallTypes.ownedTupleHandOut (.ref z) (.ref h₅.objs.size) >>= _) _ _ _
  refine wpAny_bind ?_
  unfold Builtin.SmallTypes.ownedTupleHandOut
  have hz₆ : IsZip (h₅.push { cls := .type "tuple", data := .seq #[x, y] }) z TI TO .ellipsis := Heap.get?_push_of_some _ hz₅
  refine wpAny_bind (wpAny_setField_rec hz₆ (by simp) fun h₇ hz₇ hs₇ => ?_)
  replace hz₇ : IsZip h₇ z TI TO (rawInt h₅.objs.size) := hz₇
  refine wpAny_setField_rec hz₇ (by simp) fun h₈ hz₈ hs₈ => ?_
  replace hz₈ : IsZip h₈ z TI TO (rawInt h₅.objs.size) := hz₈
  have up : ∀ c o, c ≠ z → h₅.get? c = some o → h₈.get? c = some o := fun c o c1 e => hs₈.extBut _ _ c1 (hs₇.extBut _ _ c1 (Heap.get?_push_of_some _ e))
  have hT₈ : IsPair h₈ h₅.objs.size x y := hs₈.extBut _ _ (Nat.ne_of_gt hzlt) (hs₇.extBut _ _ (Nat.ne_of_gt hzlt) (Heap.get?_push_size _ rfl))
  rw [hsz] at hz₈ hT₈
  refine wpAny_pure ⟨_, rfl, ?_⟩
  show Q (.ref h₅.objs.size) _
  rw [hsz]
  refine hQ x y s.heap.objs.size h₈ _ hP1 hP2 ⟨hz₈, up _ _ Z.zTI.symm (hk₅ _ _ Z.zTI.symm Z.TIO Z.t1 Z.t2 hTI), ⟨_, _, up _ _ Z.zTO.symm hTO₅⟩, D1.frame _ _ _ st1₅ fun b hb o e => up b o (ne_of_nm hb Z.z1) e, D2.frame _ _ _ st2₅ fun b hb o e => up b o (ne_of_nm hb Z.z2) e⟩ hT₈ (get_size _) fun c o c1 c2 c3 c4 e => up c o c1 (hk₅ c o c1 c2 c3 c4 e)

theorem zipD_end {Q : Fin → Shared → Prop} (D1 : Draws prog w A i1 f1 n P1 S1) (Z : ZAp z TI TO i1 i2 f1 f2) (st : ZSt prog w A z TI TO i1 i2 f1 f2 S1 S2 .none n s.heap)
    (hE : ∀ h' e, (∀ c o, c ≠ z → c ≠ TO → c ≠ i1 → c ≠ i2 → s.heap.get? c = some o → h'.get? c = some o) → (∃ o, h'.get? e = some o ∧ o.cls = .type "StopIteration") → E (.ref e) { s with heap := h' }) :
    wpAny (model prog w) A (Builtin.«zip.__next__» ⟨[.ref z], []⟩) Q E s := by
  obtain ⟨hz, hTI, ⟨a, b, hTO⟩, st1, st2⟩ := st
  show wpAny _ _ (field (.ref z) 2 >>= _) _ _ _
  refine wpAny_bind (wpAny_field hz rfl (x := .bool false) rfl ?_)
  show wpAny _ _ (field (.ref z) 3 >>= _) _ _ _
  refine wpAny_bind (wpAny_field hz rfl (x := .ref TI) rfl ?_)
  refine wpAny_bind (wpAny_seqItems hTI rfl ?_)
  show wpAny _ _ (Builtin.SmallTypes.ownedTupleIsFree (.ref z) >>= _) _ _ _
  refine wpAny_bind ?_
  unfold Builtin.SmallTypes.ownedTupleIsFree
  refine wpAny_bind (wpAny_field hz rfl (x := .none) rfl (wpAny_pure ?_))
  rw [if_pos rfl]
  refine wpAny_bind (wpAny_rule ?_)
  refine wpAny_bind (wpAny_field hz rfl (x := .ref TO) rfl ?_)
  refine wpAny_bind (wpAny_setField_rec hz (by simp) fun h₁ hz₁ hs₁ => ?_)
  replace hz₁ : IsZip h₁ z TI TO .ellipsis := hz₁
  refine wpAny_bind ?_
  rw [List.zipIdx_cons, List.zipIdx_cons, List.zipIdx_nil, List.forIn_cons]
  refine wpAny_bind (wpAny_bind (wpAny_onRaise ?_))
  show wpAny _ _ (Builtin.SmallTypes.nextOf (.ref i1) >>= _) _ _ _
  have zi1 : z ≠ i1 := (ne_of_nm Z.m1 Z.z1).symm
  refine wpAny_bind ((D1.done _ _ _ (D1.frame _ _ _ st1 fun b hb o e => (hs₁.2 b (ne_of_nm hb Z.z1)).trans e) fun h₂ e hs₂ he => ?_))
  obtain ⟨oe, hoe, hce⟩ := he
  have hz₂ : IsZip h₂ z TI TO .ellipsis := hs₂ _ _ zi1 hz₁
  have hez : e ≠ z := fun x => by subst x; rw [hz₂] at hoe; (first | obtain rfl := Option.some.inj hoe | cases hoe); simp at hce
  refine wpAny_setField_rec hz₂ (by simp) fun h₃ _ hs₃ => hE h₃ e (fun c o c1 _ c3 _ x => hs₃.extBut _ _ c1 (hs₂ _ _ c3 (hs₁.extBut _ _ c1 x))) ⟨oe, hs₃.extBut _ _ hez hoe, hce⟩

theorem WalksU.zipD (hh : A.handled = none) (D1 : ∀ B : Around, B.handled = none → Draws prog w B i1 f1 n P1 S1) (D2 : ∀ B : Around, B.handled = none → Draws prog w B i2 f2 n P2 S2) (Z : ZAp z TI TO i1 i2 f1 f2) :
    WalksU prog w A z (z :: TI :: TO :: (f1 ++ f2)) [z, TO, i1, i2] n (fun i vals => ∃ x y, P1 i x ∧ P2 i y ∧ vals = #[x, y])
      (fun i h => ZSt prog w A z TI TO i1 i2 f1 f2 S1 S2 .none i h) (fun i T h => ZSt prog w A z TI TO i1 i2 f1 f2 S1 S2 (rawInt (T : Nat)) (i + 1) h ∧ T ∉ [z, TO, i1, i2]) where
  sub := fun c hc => by
    simp only [List.mem_cons, List.not_mem_nil, or_false, List.mem_append] at hc ⊢
    rcases hc with rfl | rfl | rfl | rfl
    · exact .inl rfl
    · exact .inr (.inr (.inl rfl))
    · exact .inr (.inr (.inr (.inl Z.m1)))
    · exact .inr (.inr (.inr (.inr Z.m2)))
  frame := fun i h h' st hk => by
    obtain ⟨hz, hTI, ⟨a, b, hTO⟩, st1, st2⟩ := st
    exact ⟨hk z (by simp) _ hz, hk TI (by simp) _ hTI, ⟨a, b, hk TO (by simp) _ hTO⟩, (D1 A hh).frame _ _ _ st1 fun b hb o e => hk b (by simp [hb]) o e, (D2 A hh).frame _ _ _ st2 fun b hb o e => hk b (by simp [hb]) o e⟩
  item := fun i s Q E hi st hQ => by
    have hT : s.TypeIs (.ref z) "zip" := ⟨_, st.hz, rfl⟩
    have zi1 : z ≠ i1 := (ne_of_nm Z.m1 Z.z1).symm
    have zi2 : z ≠ i2 := (ne_of_nm Z.m2 Z.z2).symm
    unfold pyNext
    refine wpAny_bind (wpAny_attempt (wpAny_callSpecial?_slot (name := Str.ofString "__next__") hT F.slot_zip_next
      (wpAny_call_entry F.slot_zip_next hT F.entry_zip_next (zipD_item (D1 _ hh) (D2 _ hh) Z hi ⟨st.hz, st.hTI, st.hTO, st.s1, st.s2⟩ fun x y T h' tk p1 p2 st' hT' hnew hk => wpAny_pure ?_) (F.args_zip_next_1 _))))
    refine hQ T #[x, y] h' tk ⟨x, y, p1, p2, rfl⟩ ⟨_, hT', rfl, _, rfl⟩ ⟨⟨st'.hz, st'.hTI, st'.hTO, st'.s1, st'.s2⟩, fun hm => ?_⟩ fun c o hc e => ?_
    · have live1 : ∃ o, s.heap.get? i1 = some o := (D1 A hh).live _ _ st.s1
      have live2 : ∃ o, s.heap.get? i2 = some o := (D2 A hh).live _ _ st.s2
      simp only [List.mem_cons, List.not_mem_nil, or_false] at hm
      rcases hm with rfl | rfl | rfl | rfl
      · rw [st.hz] at hnew; (first | obtain rfl := Option.some.inj hnew | cases hnew)
      · obtain ⟨a, b, e⟩ := st.hTO; rw [e] at hnew; (first | obtain rfl := Option.some.inj hnew | cases hnew)
      · obtain ⟨o, e⟩ := live1; rw [e] at hnew; (first | obtain rfl := Option.some.inj hnew | cases hnew)
      · obtain ⟨o, e⟩ := live2; rw [e] at hnew; (first | obtain rfl := Option.some.inj hnew | cases hnew)
    · simp only [List.mem_cons, List.not_mem_nil, or_false, not_or] at hc
      exact hk c o hc.1 hc.2.1 hc.2.2.1 hc.2.2.2 e
  go := fun elts k pos i T s Q E hm hQ => by
    obtain ⟨⟨hz, hTI, ⟨a, b, hTO⟩, st1, st2⟩, _⟩ := hm
    refine wpAny_letOwnedTupleGo_zip hz fun h' hz' hs' => hQ h' ⟨hz', hs'.extBut _ _ Z.zTI.symm hTI, ⟨a, b, hs'.extBut _ _ Z.zTO.symm hTO⟩, (D1 A hh).frame _ _ _ st1 fun b hb o e => hs'.extBut _ _ (ne_of_nm hb Z.z1) e,
      (D2 A hh).frame _ _ _ st2 fun b hb o e => hs'.extBut _ _ (ne_of_nm hb Z.z2) e⟩ fun c o hc e => hs'.extBut _ _ (fun x => hc (by simp [x])) e
  apart := fun i T h hm => hm.2
  done := fun s Q E st hQ => by
    have hT : s.TypeIs (.ref z) "zip" := ⟨_, st.hz, rfl⟩
    unfold pyNext
    refine wpAny_bind (wpAny_attempt (wpAny_callSpecial?_slot (name := Str.ofString "__next__") hT F.slot_zip_next
      (wpAny_call_entry F.slot_zip_next hT F.entry_zip_next (zipD_end (f2 := f2) (S2 := S2) (D1 _ hh) Z ⟨st.hz, st.hTI, st.hTO, st.s1, st.s2⟩ fun h' e hk he => ?_) (F.args_zip_next_1 _))))
    obtain ⟨o, ho, hc⟩ := he
    refine wpAny_bind (wpAny_isInstance (T := "StopIteration") (b := true) ⟨o, ho, hc⟩ isSubtype_stop ?_)
    refine wpAny_pure (hQ h' s.toks fun c o hc e => ?_)
    simp only [List.mem_cons, List.not_mem_nil, or_false, not_or] at hc
    exact hk c o hc.1 hc.2.1 hc.2.2.1 hc.2.2.2 e
  self := fun i s Q E st hQ => wpAny_pyIter_zip st.hz hQ
end
end
end Mine
end
section
open PySem PySem.Calls PyProof.Rows
set_option maxRecDepth 100000
namespace Mine
noncomputable def sqK (tup : Bool) : String := if tup then "tuple_iterator" else "list_iterator"
noncomputable abbrev zh1 (h : Heap) (k : String) (a : Addr) : Heap := h.push { cls := .type k, data := .fields #[.ref a, .int 0 0] }
noncomputable abbrev zh2 (h : Heap) (k : String) (a b : Addr) : Heap := zh1 (zh1 h k a) k b
noncomputable abbrev zh3 (h : Heap) (k : String) (a b : Addr) : Heap := (zh2 h k a b).push { cls := .type "tuple", data := .seq #[.ref h.objs.size, .ref (zh1 h k a).objs.size] }
noncomputable abbrev zh4 (h : Heap) (k : String) (a b : Addr) : Heap := (zh3 h k a b).push { cls := .type "tuple", data := .seq #[.none, .none] }
noncomputable abbrev zh5 (h : Heap) (k : String) (a b : Addr) : Heap := (zh4 h k a b).push { cls := .type "zip", data := .fields #[.none, .bool false, .bool false, .ref (zh2 h k a b).objs.size, .ref (zh3 h k a b).objs.size] }
theorem meets_zip_tup (a b : Addr) (xs ys : Array Value) :
    Meets (Builtin.«zip.__new__» ⟨[.type "zip", .ref a, .ref b], []⟩) (fun _ R s => s.heap.IsTuple a xs ∧ s.heap.IsTuple b ys ∧
      R (.ok (.ret (.ref (zh4 s.heap "tuple_iterator" a b).objs.size))) { s with heap := zh5 s.heap "tuple_iterator" a b }) :=
  .of_wp fun prog w A R s h => by
    obtain ⟨hp, g, d, tk, os⟩ := s; obtain ⟨h1, h2, h⟩ := h
    have hsub := sub_zip
    have hL1 : Heap.IsTuple (Shared.heap ⟨hp, g, d, tk, os⟩) a xs := h1
    have hL2 : Heap.IsTuple (Shared.heap ⟨hp.push { cls := .type "tuple_iterator", data := .fields #[.ref a, .int 0 0] }, g, d, tk, os⟩) b ys := Heap.IsTuple.push h2 _
    wp_walk using wpAny_pyIter_tuple hL1, wpAny_pyIter_tuple hL2
    exact ⟨_, rfl, h⟩
section
variable {prog : Program} {w : World} {A : Around} {E : Value → Shared → Prop} {s : Shared}
theorem call_zip_tt {a b : Addr} {xs ys : Array Value} {Q : Value → Shared → Prop} (h1 : s.heap.IsTuple a xs) (h2 : s.heap.IsTuple b ys)
    (h : Q (.ref (zh4 s.heap "tuple_iterator" a b).objs.size) { s with heap := zh5 s.heap "tuple_iterator" a b }) :
    wpAny (model prog w) A (call (.type "zip") [.ref a, .ref b]) Q E s := by
  refine callType_new F.called_zip (by decide) (F.typeCall_zip_2 _ _) (F.newCall_zip_2 _ _) (fun obj => F.args_object_init_3 obj _ _) F.entry_zip_new
    (meets_zip_tup a b xs ys) ⟨h1, h2, ?_⟩
  exact ⟨⟨_, Heap.get?_push_size _ rfl, rfl⟩, h⟩
end
section
variable {C : Cx} {d : Nat} {env : Env} {ρ : Vars}
theorem zip_fresh {n : Nat} {a b : Addr} (ha : a < n) (hb : b < n) : ZAp (n + 4) (n + 2) (n + 3) n (n + 1) [n, a] [n + 1, b] := by
  have e1 : ∀ k, a ≠ n + k := fun k q => by simp only [Addr] at *; omega
  have e2 : ∀ k, b ≠ n + k := fun k q => by simp only [Addr] at *; omega
  have e3 : ∀ j k : Nat, j ≠ k → ((n + j : Nat) : Addr) ≠ n + k := fun j k h q => by simp only [Addr] at *; omega
  refine ⟨e3 4 2 (by decide), e3 4 3 (by decide), e3 2 3 (by decide), ?_, ?_, ?_, ?_, e3 2 0 (by decide), e3 2 1 (by decide), by simp, by simp, ?_, ?_⟩
  · simp only [List.mem_cons, List.not_mem_nil, or_false, not_or]; exact ⟨e3 4 0 (by decide), (e1 4).symm⟩
  · simp only [List.mem_cons, List.not_mem_nil, or_false, not_or]; exact ⟨e3 4 1 (by decide), (e2 4).symm⟩
  · simp only [List.mem_cons, List.not_mem_nil, or_false, not_or]; exact ⟨e3 3 0 (by decide), (e1 3).symm⟩
  · simp only [List.mem_cons, List.not_mem_nil, or_false, not_or]; exact ⟨e3 3 1 (by decide), (e2 3).symm⟩
  · simp only [List.mem_cons, List.not_mem_nil, or_false, not_or]; exact ⟨e3 0 1 (by decide), (e2 0).symm⟩
  · simp only [List.mem_cons, List.not_mem_nil, or_false, not_or]; exact ⟨e3 1 0 (by decide), (e1 1).symm⟩
theorem zip_got {h : Heap} {k : String} {a b : Addr} : IsZip (zh5 h k a b) (h.objs.size + 4) (h.objs.size + 2) (h.objs.size + 3) .none ∧ IsPair (zh5 h k a b) (h.objs.size + 2) (.ref h.objs.size) (.ref (h.objs.size + 1)) ∧ IsPair (zh5 h k a b) (h.objs.size + 3) .none .none ∧
    (zh5 h k a b).get? h.objs.size = some { cls := .type k, data := .fields #[.ref a, .int 0 0] } ∧ (zh5 h k a b).get? (h.objs.size + 1) = some { cls := .type k, data := .fields #[.ref b, .int 0 0] } ∧ (zh4 h k a b).objs.size = h.objs.size + 4 ∧ Kp h (zh5 h k a b) := by
  have z1 : (zh1 h k a).objs.size = h.objs.size + 1 := Heap.size_push ..
  have z2 : (zh2 h k a b).objs.size = h.objs.size + 2 := by rw [Heap.size_push, z1]
  have z3 : (zh3 h k a b).objs.size = h.objs.size + 3 := by rw [Heap.size_push, z2]
  have z4 : (zh4 h k a b).objs.size = h.objs.size + 4 := by rw [Heap.size_push, z3]
  have u {h : Heap} {b : Addr} {o : Obj} {x : Obj} (e : h.get? b = some o) : (h.push x).get? b = some o := Heap.get?_push_of_some _ e
  have g5 : (zh5 h k a b).get? (zh4 h k a b).objs.size = some _ := Heap.get?_push_size _ rfl
  have g4 : (zh5 h k a b).get? (zh3 h k a b).objs.size = some _ := u (Heap.get?_push_size _ rfl)
  have g3 : (zh5 h k a b).get? (zh2 h k a b).objs.size = some _ := u (u (Heap.get?_push_size _ rfl))
  have g2 : (zh5 h k a b).get? (zh1 h k a).objs.size = some _ := u (u (u (Heap.get?_push_size _ rfl)))
  have g1 : (zh5 h k a b).get? h.objs.size = some _ := u (u (u (u (Heap.get?_push_size _ rfl))))
  rw [z4, z3, z2] at g5
  rw [z3] at g4
  rw [z2, z1] at g3
  rw [z1] at g2
  exact ⟨g5, g3, g4, g1, g2, z4, fun c o e => u (u (u (u (u e))))⟩
theorem zip_itp {A : Around} (hA : AOk C d A) {s : Shared} {g : Ghost} (hs : GSub g s.heap) {tup : Bool} {a b : Addr} {va vb : List Value} {na nb : Nat} {ps qs : List PV} (ha : g a = some (if tup then tobj va na else lobj va na)) (hb : g b = some (if tup then tobj vb nb else lobj vb nb)) (ra : Reps g va ps) (rb : Reps g vb qs) (hl : ps.length = qs.length)
    {h5 : Heap} (g5 : IsZip h5 (s.heap.objs.size + 4) (s.heap.objs.size + 2) (s.heap.objs.size + 3) .none) (g3 : IsPair h5 (s.heap.objs.size + 2) (.ref s.heap.objs.size) (.ref (s.heap.objs.size + 1))) (g4 : IsPair h5 (s.heap.objs.size + 3) .none .none)
    (g1 : if tup then h5.IsTupleIter s.heap.objs.size a 0 else h5.IsListIter s.heap.objs.size a 0) (g2 : if tup then h5.IsTupleIter (s.heap.objs.size + 1) b 0 else h5.IsListIter (s.heap.objs.size + 1) b 0) (hk : Kp s.heap h5) {Q : Value → Shared → Prop} {E : Value → Shared → Prop} {s' : Shared} (es : s' = { s with heap := h5 })
    (hQ : ∀ I fp wr St Mid g' h' tk, Grow g s.heap g' h' → (∀ b ∈ wr, s.heap.get? b = none) → ItP C A I (ps.zip qs) g' h' fp wr St Mid → Q (.ref I) { s with heap := h', toks := tk }) : wpAny C.M A (pyIter (.ref (s.heap.objs.size + 4))) Q E s' := by
  subst es
  have q1 : ∃ o, h5.get? s.heap.objs.size = some o := by cases tup <;> (obtain ⟨o, e, _⟩ := g1; exact ⟨o, e⟩)
  have q2 : ∃ o, h5.get? (s.heap.objs.size + 1) = some o := by cases tup <;> (obtain ⟨o, e, _⟩ := g2; exact ⟨o, e⟩)
  refine wpAny_pyIter_zip g5 ?_
  have hlt1 : a < s.heap.objs.size := Heap.lt_size (hs _ _ ha)
  have hlt2 : b < s.heap.objs.size := Heap.lt_size (hs _ _ hb)
  have fresh : ∀ k : Nat, s.heap.get? (s.heap.objs.size + k) = none := fun k => Heap.get?_none_of_le (Nat.le_add_right _ _)
  have G : Grow g s.heap g h5 := ⟨hk, GLe.refl g, fun c o e => hk c o (hs c o e), fun c o e => .inl e⟩
  have hva : va.toArray.size = ps.length := by rw [List.size_toArray, ra.length]
  have hvb : vb.toArray.size = ps.length := by rw [List.size_toArray, rb.length, hl]
  have hzl : (ps.zip qs).length = ps.length := by rw [List.length_zip, ← hl, Nat.min_self]
  have hitem : ∀ (i : Nat) (vals : Array Value), (∃ x y, va.toArray[i]? = some x ∧ vb.toArray[i]? = some y ∧ vals = #[x, y]) → ∃ p q v₁ v₂, (ps.zip qs)[i]? = some (p, q) ∧ vals = #[v₁, v₂] ∧ Rep g v₁ p ∧ Rep g v₂ q := by
    rintro i vals ⟨x, y, hx, hy, rfl⟩
    obtain ⟨p, e1, r1⟩ := ra.get' (i := i) (v := x) (by simpa using hx)
    obtain ⟨q, e2, r2⟩ := rb.get' (i := i) (v := y) (by simpa using hy)
    exact ⟨p, q, x, y, by simp [List.getElem?_zip_eq_some, e1, e2], rfl, r1, r2⟩
  have hw : ∀ c ∈ [s.heap.objs.size + 4, s.heap.objs.size + 3, s.heap.objs.size, s.heap.objs.size + 1], s.heap.get? c = none := by
    intro c hc
    simp only [List.mem_cons, List.not_mem_nil, or_false] at hc
    rcases hc with rfl | rfl | rfl | rfl
    · exact fresh 4
    · exact fresh 3
    · exact fresh 0
    · exact fresh 1
  have hlive : ∀ c ∈ ((s.heap.objs.size + 4 : Nat) :: (s.heap.objs.size + 2) :: (s.heap.objs.size + 3) :: ([s.heap.objs.size, a] ++ [s.heap.objs.size + 1, b]) : List Addr), ∃ o, h5.get? c = some o := by
    intro c hc
    simp only [List.mem_cons, List.not_mem_nil, or_false, List.cons_append, List.nil_append] at hc
    rcases hc with rfl | rfl | rfl | rfl | rfl | rfl | rfl
    · exact ⟨_, g5⟩
    · exact ⟨_, g3⟩
    · exact ⟨_, g4⟩
    · exact q1
    · exact ⟨_, hk _ _ (hs _ _ ha)⟩
    · exact q2
    · exact ⟨_, hk _ _ (hs _ _ hb)⟩
  have conv : ∀ {fp wr St Mid}, WalksU C.prog C.w A (s.heap.objs.size + 4) fp wr ps.length (fun i vals => ∃ x y, va.toArray[i]? = some x ∧ vb.toArray[i]? = some y ∧ vals = #[x, y]) St Mid →
      WalksU C.prog C.w A (s.heap.objs.size + 4) fp wr (ps.zip qs).length (fun i vals => ∃ p q v₁ v₂, (ps.zip qs)[i]? = some (p, q) ∧ vals = #[v₁, v₂] ∧ Rep g v₁ p ∧ Rep g v₂ q) St Mid := by
    intro fp wr St Mid W
    rw [hzl]
    exact ⟨W.sub, W.frame, fun i s Q E hi st hQ => W.item i s Q E hi st fun T vals h' tk hP => hQ T vals h' tk (hitem i vals hP), W.go, W.apart, W.done, W.self⟩
  cases tup with
  | true =>
    have D1 : ∀ B : Around, B.handled = none → Draws C.prog C.w B s.heap.objs.size [s.heap.objs.size, a] ps.length (fun i v => va.toArray[i]? = some v) (fun i h => h.IsTupleIter s.heap.objs.size a i ∧ h.IsTuple a va.toArray) := fun B hB => hva ▸ Draws.tuple hB s.heap.objs.size a (Nat.ne_of_lt hlt1) va.toArray
    have D2 : ∀ B : Around, B.handled = none → Draws C.prog C.w B (s.heap.objs.size + 1) [s.heap.objs.size + 1, b] ps.length (fun i v => vb.toArray[i]? = some v) (fun i h => h.IsTupleIter (s.heap.objs.size + 1) b i ∧ h.IsTuple b vb.toArray) := fun B hB => hvb ▸ Draws.tuple hB (s.heap.objs.size + 1) b (Nat.ne_of_lt (Nat.lt_succ_of_lt hlt2)) vb.toArray
    exact hQ _ _ _ _ _ g h5 s.toks G hw ⟨conv (WalksU.zipD hA.handled D1 D2 (zip_fresh hlt1 hlt2)), ⟨g5, g3, ⟨_, _, g4⟩, ⟨g1, ⟨_, hk _ _ (hs _ _ ha), rfl, na, rfl⟩⟩, ⟨g2, ⟨_, hk _ _ (hs _ _ hb), rfl, nb, rfl⟩⟩⟩, fun c hc => hs.off (hw c hc), hlive⟩
  | false =>
    have D1 : ∀ B : Around, B.handled = none → Draws C.prog C.w B s.heap.objs.size [s.heap.objs.size, a] ps.length (fun i v => va.toArray[i]? = some v) (fun i h => h.IsListIter s.heap.objs.size a i ∧ h.IsList a va.toArray) := fun B hB => hva ▸ Draws.list hB s.heap.objs.size a (Nat.ne_of_lt hlt1) va.toArray
    have D2 : ∀ B : Around, B.handled = none → Draws C.prog C.w B (s.heap.objs.size + 1) [s.heap.objs.size + 1, b] ps.length (fun i v => vb.toArray[i]? = some v) (fun i h => h.IsListIter (s.heap.objs.size + 1) b i ∧ h.IsList b vb.toArray) := fun B hB => hvb ▸ Draws.list hB (s.heap.objs.size + 1) b (Nat.ne_of_lt (Nat.lt_succ_of_lt hlt2)) vb.toArray
    exact hQ _ _ _ _ _ g h5 s.toks G hw ⟨conv (WalksU.zipD hA.handled D1 D2 (zip_fresh hlt1 hlt2)), ⟨g5, g3, ⟨_, _, g4⟩, ⟨g1, ⟨_, hk _ _ (hs _ _ ha), rfl, na, rfl⟩⟩, ⟨g2, ⟨_, hk _ _ (hs _ _ hb), rfl, nb, rfl⟩⟩⟩, fun c hc => hs.off (hw c hc), hlive⟩
theorem Itp.zip {tup : Bool} {x : Str} {px pos e₁ e₂} {ps qs : List PV} (fe : FEnv env) (hx : env.kindOf x = some .globalImplicit) (hb : x ∈ C.blt) (hv : bootBuiltins x = some (.type "zip")) (h1 : Ev C d env ρ e₁ (if tup then .tup ps else .lst ps)) (h2 : Ev C d env ρ e₂ (if tup then .tup qs else .lst qs)) (hl : ps.length = qs.length)
    (hd : (x == ("__debug__" : Str)) = false := by decide) (hse : starEach [e₁, e₂] env = (false, eval e₁ env) :: starEach [e₂] env := by rfl) (hse2 : starEach [e₂] env = (false, eval e₂ env) :: starEach [] env := by rfl) (hp : (backTo pos (starEach [e₂] env)).any (·.1) = false := by rfl) : Itp C d env ρ (.Call (.Name x px) [e₁, e₂] [] pos) (ps.zip qs) := fun A hA s g X Q E hQ => by
  obtain ⟨mg, mb, g1, g2, _, g4, _⟩ := X.glo.ex
  obtain ⟨m1, m2⟩ := g4 x hb _ hv
  refine wpAny_Call_NameR (Name_function_global fe.kind hx (loadGlobal_builtin (mg := mg) (mb := mb) (by rw [fe.glob]; exact g1) m1 (by rw [fe.blt]; exact g2) m2 ?_) hd)
  refine callWith_type1 (Evs.cons h1 (Evs.cons h2 Evs.nil hse2) hse A hA s g pos X _ _ fun vs g' h' tk G rs => ?_) hse hp
  obtain ⟨_, _, rfl, r1, hr⟩ := rs.inv
  obtain ⟨_, _, rfl, r2, hr⟩ := hr.inv
  obtain rfl := hr.inv
  · · cases tup with
      | true =>
        obtain ⟨a, va, na, rfl, ha, ra⟩ := r1.isTup
        obtain ⟨b, vb, nb, rfl, hb, rb⟩ := r2.isTup
        refine call_zip_tt (s := { s with heap := h', toks := tk }) ⟨_, G.sub _ _ ha, rfl, na, rfl⟩ ⟨_, G.sub _ _ hb, rfl, nb, rfl⟩ ?_
        rw [zip_got.2.2.2.2.2.1]
        obtain ⟨g5, g3, g4, g1, g2, z4, hk⟩ := zip_got (h := h') (k := "tuple_iterator") (a := a) (b := b)
        exact zip_itp (tup := true) hA (s := { s with heap := h', toks := tk }) G.sub ha hb ra rb hl g5 g3 g4 ⟨_, g1, rfl, rfl⟩ ⟨_, g2, rfl, rfl⟩ hk rfl fun I fp wr St Mid g'' h'' tk' G' hw it => hQ I fp wr St Mid g'' h'' tk' (G.trans G') (fun c hc => G.kp.none (hw c hc)) it
      | false =>
        obtain ⟨a, va, na, rfl, ha, ra⟩ := r1.isList
        obtain ⟨b, vb, nb, rfl, hb, rb⟩ := r2.isList
        refine call_zip_2 (s := { s with heap := h', toks := tk }) (isList_lobj (G.sub _ _ ha)) (isList_lobj (G.sub _ _ hb)) fun h5 k1 k2 k3 k4 k5 k6 k7 => ?_
        exact zip_itp (tup := false) hA (s := { s with heap := h', toks := tk }) G.sub ha hb ra rb hl k1 k2 k3 k4 k5 k7 rfl fun I fp wr St Mid g'' h'' tk' G' hw it => hQ I fp wr St Mid g'' h'' tk' (G.trans G') (fun c hc => G.kp.none (hw c hc)) it
end
end Mine
end
section
open PySem PySem.Calls PyProof.Rows
set_option maxRecDepth 100000
namespace Mine
section
variable {C : Cx} {d : Nat} {env : Env} {ρ : Vars}
theorem pairs_rep {g : Ghost} : ∀ {its : List Value} {l : List (PV × PV)}, Reps g its (pairs l) → ∀ j, j < its.length → ∃ (T : Addr) (v₁ v₂ : Value) (n : Nat) (p q : PV), its[j]? = some (.ref T) ∧ g T = some (tobj [v₁, v₂] n) ∧ l[j]? = some (p, q) ∧ Rep g v₁ p ∧ Rep g v₂ q := by
  intro its l r j hj
  obtain ⟨pv, e1, e2⟩ := r.get' (i := j) (v := its[j]) (by simp [hj])
  unfold pairs at e1
  rw [List.getElem?_map] at e1
  cases hq : l[j]? with
  | none => rw [hq] at e1; (first | obtain rfl := Option.some.inj e1 | cases e1)
  | some pq =>
    rw [hq] at e1
    obtain ⟨p, q⟩ := pq
    (first | obtain rfl := Option.some.inj e1 | cases e1)
    obtain ⟨T, vs, n, e3, e4, e5⟩ := e2.isTup
    obtain ⟨_, _, rfl, r1, hr⟩ := e5.inv
    obtain ⟨_, _, rfl, r2, hr⟩ := hr.inv
    obtain rfl := hr.inv
    · · exact ⟨T, _, _, n, p, q, by rw [← e3]; simp [hj], e4, rfl, r1, r2⟩
theorem Itp.list {e : Expr} {l : List (PV × PV)} (he : Ev C d env ρ e (.lst (pairs l))) : Itp C d env ρ e l := fun A hA s g X Q E hQ => by
  refine he A hA s g X _ E fun v g' h' tk G r => ?_
  obtain ⟨a, its, n, rfl, ha, rs⟩ := r.isList
  have hl : h'.IsList a its.toArray := isList_lobj (G.sub _ _ ha)
  refine wpAny_pyIter_list (s := { s with heap := h', toks := tk }) hl ?_
  have Gr := Grow.hidden G.sub ({ cls := .type "list_iterator", data := .fields #[.ref a, .int 0 0] } : Obj)
  have hnew : h'.get? h'.objs.size = none := get_size h'
  have hlt : ∀ {b o}, g' b = some o → b ≠ h'.objs.size := fun e => Nat.ne_of_lt (Heap.lt_size (G.sub _ _ e))
  have hlen : its.length = l.length := by rw [rs.length]; simp [pairs]
  have hz : its.toArray.size = l.length := by rw [List.size_toArray, hlen]
  have key := pairs_rep rs
  let Ts : Nat → Addr := fun j => match its[j]? with | some (.ref T) => T | _ => 0
  let vals : Nat → Array Value := fun j => match g' (Ts j) with | some o => (match o.data with | .seq x _ => x | _ => #[]) | none => #[]
  have hTs : ∀ j, j < its.toArray.size → ∃ v₁ v₂ n p q, its.toArray[j]? = some (.ref (Ts j)) ∧ g' (Ts j) = some (tobj [v₁, v₂] n) ∧ vals j = #[v₁, v₂] ∧ l[j]? = some (p, q) ∧ Rep g' v₁ p ∧ Rep g' v₂ q := by
    intro j hj
    obtain ⟨T, v₁, v₂, n, p, q, e1, e2, e3, e4, e5⟩ := key j (by simpa using hj)
    have eT : Ts j = T := by show (match its[j]? with | some (.ref T) => T | _ => 0) = T; rw [e1]
    refine ⟨v₁, v₂, n, p, q, by rw [eT]; simpa using e1, by rw [eT]; exact e2, ?_, e3, e4, e5⟩
    show (match g' (Ts j) with | some o => (match o.data with | .seq x _ => x | _ => #[]) | none => #[]) = _
    rw [eT, e2]
  have W := WalksU.listOfTuples (prog := C.prog) (w := C.w) hA.handled h'.objs.size a (hlt ha) its.toArray Ts vals (fun j hj => by obtain ⟨_, _, _, _, _, e, _⟩ := hTs j hj; exact e) (fun j hj => by obtain ⟨_, _, _, _, _, _, e, _⟩ := hTs j hj; exact hlt e)
  have W' := W.bound
  refine hQ h'.objs.size _ [h'.objs.size] _ _ g' _ _ (G.trans Gr) (fun b hb => by rw [List.mem_singleton.mp hb]; exact G.kp.none hnew) ⟨⟨W'.sub, W'.frame, fun i s Q E hi st hq => W'.item i s Q E (by rw [hz]; exact hi) st fun T vs h₂ tk₂ hP => hq T vs h₂ tk₂ ?_, W'.go, W'.apart, fun s Q E st => W'.done s Q E (by simpa only [hz] using st), W'.self⟩, ?_, fun b hb => by rw [List.mem_singleton.mp hb]; exact G.sub.off hnew, fun b hb => ?_⟩
  · obtain ⟨hi', rfl⟩ := hP
    obtain ⟨v₁, v₂, n, p, q, _, _, e3, e4, e5, e6⟩ := hTs i hi'
    exact ⟨p, q, v₁, v₂, e4, e3, e5, e6⟩
  · refine ⟨⟨_, Heap.get?_push_size _ rfl, rfl, rfl⟩, hl.push _, fun k hk => ?_⟩
    obtain ⟨v₁, v₂, n, p, q, _, e2, e3, _⟩ := hTs k hk
    rw [e3]
    exact ⟨_, Heap.get?_push_of_some _ (G.sub _ _ e2), rfl, n, rfl⟩
  · rcases List.mem_cons.mp hb with rfl | hb
    · exact ⟨_, Heap.get?_push_size _ rfl⟩
    · rcases List.mem_cons.mp hb with rfl | hb
      · exact ⟨_, Heap.get?_push_of_some _ (G.sub _ _ ha)⟩
      · obtain ⟨k, hk, rfl⟩ := List.mem_map.mp hb
        obtain ⟨v₁, v₂, n, p, q, _, e2, _⟩ := hTs k (List.mem_range.mp hk)
        exact ⟨_, Heap.get?_push_of_some _ (G.sub _ _ e2)⟩
end
end Mine
end
section
open PySem PySem.Calls PyProof.Rows
set_option maxRecDepth 100000
namespace Mine
noncomputable def PSt.setAll : PSt → List Str → List PV → PSt
  | σ, x :: xs, p :: ps => (σ.set x p).setAll xs ps
  | σ, _, _ => σ
section
variable {C : Cx} {d : Nat} {env : Env} {σ : PSt} {Post : Option PV → PSt → Prop}
/-- names stored one behind the other -/
theorem storeAll {A : Around} (fe : FEnv env) (t : Str → Value → Sem Unit) (ht : ∀ x v Q E s, wpAny C.M A (storeName env x v) Q E s → wpAny C.M A (t x v) Q E s) : ∀ (xs : List Str) (vs : List Value) (ps : List PV) (σ : PSt) (s : Shared) (hB gB μ g) (Q : Unit → Shared → Prop) (E : Value → Shared → Prop),
    xs.length = vs.length → (∀ x ∈ xs, Sto env x) → σ.gro = none → SA C env hB gB σ μ g s.heap → Reps g vs ps →
    (∀ h' tk, SA C env hB gB (σ.setAll xs ps) μ g h' → Stp C.ex env μ g s.heap μ g h' → Q () { s with heap := h', toks := tk }) → wpAny C.M A (assignInOrder (xs.map t) vs) Q E s
  | [], vs, ps, σ, s, hB, gB, μ, g, Q, E, hl, _, _, S, r, hQ => by
    obtain rfl := List.eq_nil_of_length_eq_zero hl.symm
    obtain rfl := r.inv'
    exact assignInOrder_nil (hQ s.heap s.toks S (Stp.refl ..))
  | x :: xs, vs, ps, σ, s, hB, gB, μ, g, Q, E, hl, hx, hg, S, r, hQ => by
    obtain ⟨v, vs, rfl⟩ := List.exists_cons_of_length_eq_add_one hl.symm
    obtain ⟨p, ps, rfl, r1, rs⟩ := r.inv'
    refine assignInOrder_cons (ht x v _ _ _ (store fe S.frm (hx x List.mem_cons_self) fun b h' tk hb hs F l lo => ?_))
    have S' := S.stored hb hs F l lo r1 (by intro y hy; rw [hg] at hy; cases hy)
    exact storeAll fe t ht xs vs _ (σ.set x _) _ hB gB μ g Q E (Nat.succ.inj hl) (fun y hy => hx y (List.mem_cons_of_mem _ hy)) (by exact hg) S' rs fun h'' tk'' S'' st => hQ h'' tk'' S'' (Stp.trans S'.frm (Stp.same hs (.inl hb)) st)
theorem Xs.assignTup {xs : List Str} {elts : List Expr} {k tpos value pos} {ps : List PV} (fe : FEnv env) (hx : ∀ x ∈ xs, Sto env x) (he : Ev C d env σ.vars value (.tup ps)) (hl : xs.length = ps.length) (hg : σ.gro = none)
    (hts : ∃ pp : Str → Pos, (assignEach elts env).map (·.2) = xs.map fun x => PySem.assign (.Name x (pp x)) env) (hlen : (assignEach elts env).length = xs.length) (hstar : (assignEach elts env).findIdx? (·.1) = none)
    (hs : swapsWithSole [.Tuple elts k tpos] value pos.line env = pure false) (hw : swappedStores [.Tuple elts k tpos] value env = pure none) :
    Xs C d env σ (.Assign [.Tuple elts k tpos] value pos) (fun o σ' => o = none ∧ σ' = σ.setAll xs ps) := fun A hA s hB gB μ g S Q E hn _ =>
  Assign_Tuple (hs := hs) (hw := hw) (he A hA s g S.eh _ _ fun v g' h' tk G r => by
    obtain ⟨a, its, n, rfl, ha, rs⟩ := r.isTup
    obtain ⟨pp, hts⟩ := hts
    have S' := S.grown G
    have hil : its.length = xs.length := by rw [rs.length, hl]
    refine assign_Tuple_tuple (items := its.toArray) (s := { s with heap := h', toks := tk }) hA.handled (isTup_tobj (G.sub _ _ ha)) (by rw [hlen, List.size_toArray, hil]) hstar fun h₂ he₂ => ?_
    have k2 : Kp h' h₂ := fun b o e => he₂ b o (Nat.ne_of_lt (Heap.lt_size e)) e
    have G2 : Grow g' h' g' h₂ := ⟨k2, GLe.refl _, fun b o e => k2 b o (G.sub b o e), fun b o e => .inl e⟩
    have S2 := S'.grown G2
    rw [hts]
    exact storeAll (C := C) (σ := σ) fe (fun x => PySem.assign (.Name x (pp x)) env) (fun x v Q E s h => wpAny_assign_Name h) xs its ps { s with heap := h₂, toks := tk } hB gB μ g' _ E hil.symm hx hg S2 rs fun h₃ tk₃ S₃ st =>
      hn _ μ g' h₃ tk₃ ⟨rfl, rfl⟩ S₃ (Stp.trans S2.frm (Stp.trans S'.frm (Stp.grow G) (Stp.grow G2)) st))
theorem Ex.assignTup {xs : List Str} {elts : List Expr} {k tpos value pos ss} {ps : List PV} (fe : FEnv env) (hx : ∀ x ∈ xs, Sto env x) (he : Ev C d env σ.vars value (.tup ps)) (hl : xs.length = ps.length)
    (kk : Ex C d env (σ.setAll xs ps) ss Post) (hts : ∃ pp : Str → Pos, (assignEach elts env).map (·.2) = xs.map fun x => PySem.assign (.Name x (pp x)) env) (hg : σ.gro = none := by rfl) (hlen : (assignEach elts env).length = xs.length := by rfl) (hstar : (assignEach elts env).findIdx? (·.1) = none := by rfl)
    (hs : swapsWithSole [.Tuple elts k tpos] value pos.line env = pure false := by rfl) (hw : swappedStores [.Tuple elts k tpos] value env = pure none := by rfl) : Ex C d env σ (.Assign [.Tuple elts k tpos] value pos :: ss) Post :=
  Ex.cons (Xs.assignTup fe hx he hl hg hts hlen hstar hs hw) (fun _ h => h.2 ▸ kk) fun _ _ h => nomatch h.1
theorem Xs.assignSwap {xs : List Str} {elts : List Expr} {k tpos value pos} {ps : List PV} (fe : FEnv env) (hx : ∀ x ∈ xs, Sto env x) (he : Ev C d env σ.vars value (.tup ps)) (hl : xs.length = ps.length) (hg : σ.gro = none)
    (hs : swapsWithSole [.Tuple elts k tpos] value pos.line env = pure false) (hw : swappedStores [.Tuple elts k tpos] value env = pure (some xs)) :
    Xs C d env σ (.Assign [.Tuple elts k tpos] value pos) (fun o σ' => o = none ∧ σ' = σ.setAll xs.reverse ps.reverse) := fun A hA s hB gB μ g S Q E hn _ =>
  Assign_Tuple_swapped (hs := hs) (hw := hw) (he A hA s g S.eh _ _ fun v g' h' tk G r => by
    obtain ⟨a, its, n, rfl, ha, rs⟩ := r.isTup
    have S' := S.grown G
    have hil : its.length = xs.length := by rw [rs.length, hl]
    have hsz : xs.length = its.toArray.size := by rw [List.size_toArray, hil]
    rw [hsz]
    refine unpackItems_tuple (items := its.toArray) (s := { s with heap := h', toks := tk }) hA.handled (isTup_tobj (G.sub _ _ ha)) fun h₂ he₂ => ?_
    have k2 : Kp h' h₂ := fun b o e => he₂ b o (Nat.ne_of_lt (Heap.lt_size e)) e
    have G2 : Grow g' h' g' h₂ := ⟨k2, GLe.refl _, fun b o e => k2 b o (G.sub b o e), fun b o e => .inl e⟩
    have S2 := S'.grown G2
    have rr : ∀ {vs : List Value} {qs : List PV}, Reps g' vs qs → Reps g' vs.reverse qs.reverse := by
      intro vs qs h
      induction vs generalizing qs with
      | nil => rw [List.eq_nil_of_length_eq_zero h.length.symm]; exact .nil
      | cons v vs ih =>
        obtain ⟨q, qs, rfl, h1, h2⟩ := h.inv'
        · rw [List.reverse_cons, List.reverse_cons]; exact (ih h2).append (.cons h1 .nil)
    exact storeAll (C := C) (σ := σ) fe (fun x => bindName env x) (fun x v Q E s h => wpAny_bindName h) xs.reverse its.reverse ps.reverse { s with heap := h₂, toks := tk } hB gB μ g' _ E (by simp [hil]) (fun x hm => hx x (List.mem_reverse.mp hm)) hg S2 (rr rs) fun h₃ tk₃ S₃ st =>
      hn _ μ g' h₃ tk₃ ⟨rfl, rfl⟩ S₃ (Stp.trans S2.frm (Stp.trans S'.frm (Stp.grow G) (Stp.grow G2)) st))
/-- extend the growing list by scalars -/
theorem Xs.extend {x : Str} {l qs : List PV} {px apos cpos spos e} (fe : FEnv env) (hx : Sto env x) (hg : σ.gro = some (x, l)) (he : Ev C d env ((x, .lst l) :: σ.vars) e (.lst qs)) (hf : ∀ p ∈ qs, p.sca = true) (hsz : l.length + qs.length ≤ 1000000)
    (hd : (x == ("__debug__" : Str)) = false) (hb : attributeBase (.Name x px) "extend" env (eval (.Name x px) env) = eval (.Name x px) env)
    (hline : (apos.endLine == cpos.line) = true) (htrees : backTo cpos (starEach [e] env) = [(false, eval e env)])
    (hi : interactive env = false) (hs : swapsWith (.Call (.Attribute (.Name x px) "extend" apos) [e] [] cpos) none spos.line env = pure false) :
    Xs C d env σ (.Expr (.Call (.Attribute (.Name x px) "extend" apos) [e] [] cpos) spos) (fun o σ' => o = none ∧ σ' = { σ with gro := some (x, l ++ qs) }) := fun A hA s hB gB μ g S Q E hn _ => by
  obtain ⟨a, its, n, rfl, h1, h2, h3, h4, h5, h6, S'⟩ := S.frozen hg
  refine wpAny_Expr (hi := hi) (hs := hs) (wpAny_Call_method1_late hb hline htrees (name_ld fe h4 hx ⟨"list", "list.extend", PySem.F.plainAttrs_list, PySem.F.slot_list_extend, PySem.F.type_list_extend, ⟨_, h2, rfl⟩, fun b hb' => ?_, ?_⟩ hd))
  · cases hb'; exact ⟨_, h2, rfl⟩
  refine PySem.P.extend_list (he A hA s _ S'.eh _ _ fun v g' h' tk G r => ?_)
  obtain ⟨b, its2, n2, rfl, hb2, rs⟩ := r.isList
  have G2 := G.cut h1
  have r2 : Reps (gCut g' a) its2 qs := rs.of_sca hf
  have S2 := S.grown G2
  have hz : its.toArray.size + its2.toArray.size ≤ sizeLine := by
    rw [List.size_toArray, List.size_toArray, h3.length, rs.length, sizeLine_eq]; omega
  refine ⟨b, its.toArray, its2.toArray, n, n2, by omega, by omega, extend_door hz, rfl, G.kp _ _ h2, G.sub _ _ hb2, ?_⟩
  have n2' := G2.off h2 h1
  have hsb : Heap.SameBut a h' (h'.update a (Obj.mapSeq fun x => x ++ its2.toArray)) := Heap.SameBut.update ..
  have S3 := S2.drop.same hsb n2' h5 h6 (by simp)
  have hobj : (h'.update a (Obj.mapSeq fun x => x ++ its2.toArray)).get? a = some (lobj (its ++ its2) (if (its.toArray ++ its2.toArray).size == its.toArray.size then n else n + 1)) := by
    rw [Heap.get?_update_self _ (G.kp _ _ h2) (by rw [mapSeq_app]; rfl), mapSeq_app]; simp
  exact hn { σ with gro := some (x, l ++ qs) } (some a) _ _ tk ⟨rfl, rfl⟩ (S3.addGro ⟨(h4.kp G.kp).same hsb h6, ⟨its ++ its2, _, hobj, (h3.mono G2.le).append r2⟩, n2', h5, h6⟩) (Stp.trans S2.frm (Stp.grow G2) (Stp.same hsb (.inr rfl)))
theorem Ex.extend {x : Str} {l qs : List PV} {px apos cpos spos e ss} (fe : FEnv env) (hx : Sto env x) (he : Ev C d env ((x, .lst l) :: σ.vars) e (.lst qs)) (hf : ∀ p ∈ qs, p.sca = true) (hsz : l.length + qs.length ≤ 1000000) (k : Ex C d env { σ with gro := some (x, l ++ qs) } ss Post)
    (hg : σ.gro = some (x, l) := by rfl) (hd : (x == ("__debug__" : Str)) = false := by decide) (hb : attributeBase (.Name x px) "extend" env (eval (.Name x px) env) = eval (.Name x px) env := by rfl)
    (hline : (apos.endLine == cpos.line) = true := by rfl) (htrees : backTo cpos (starEach [e] env) = [(false, eval e env)] := by rfl)
    (hi : interactive env = false := by rfl) (hs : swapsWith (.Call (.Attribute (.Name x px) "extend" apos) [e] [] cpos) none spos.line env = pure false := by rfl) :
    Ex C d env σ (.Expr (.Call (.Attribute (.Name x px) "extend" apos) [e] [] cpos) spos :: ss) Post :=
  Ex.cons (Xs.extend fe hx hg he hf hsz hd hb hline htrees hi hs) (fun _ h => h.2 ▸ k) fun _ _ h => nomatch h.1
theorem lookup_app_none : ∀ {pre ρ : Vars} {x : Str}, x ∉ pre.map (·.1) → (pre ++ ρ).lookup x = ρ.lookup x
  | [], _, _, _ => rfl
  | (y, p) :: pre, ρ, x, h => by
    rw [List.map_cons, List.mem_cons, not_or] at h
    rw [List.cons_append, List.lookup_cons, beq_eq_false_iff_ne.mpr h.1]
    exact lookup_app_none h.2
theorem Ex.drops (pre : Vars) {ρ : Vars} {gr ss} (k : Ex C d env ⟨ρ, gr⟩ ss Post) (h : ((pre.map (·.1)).all fun x => !(ρ.map (·.1)).contains x) = true) : Ex C d env ⟨pre ++ ρ, gr⟩ ss Post :=
  Ex.sub k (fun y q e => by
    show List.lookup y (pre ++ ρ) = some q
    rw [lookup_app_none fun hm => ?_]; exact e
    have h1 := List.all_eq_true.mp h y hm
    have h2 : y ∈ ρ.map (·.1) := lookup_mem_map e
    simp only [Bool.not_eq_true', List.contains_eq_mem, decide_eq_false_iff_not] at h1
    exact h1 h2) rfl
end
end Mine
end
section
open PySem PySem.Calls PyProof.Rows
set_option maxRecDepth 100000
set_option maxHeartbeats 4000000
namespace Mine
noncomputable def hlst (rd : List Int) (h : Nat) (i : Nat) : List PV := (List.range (i + 1)).map fun j => .int (hgt rd h j)
theorem hlst_succ (rd : List Int) (h i : Nat) : hlst rd h (i + 1) = hlst rd h i ++ [.int (hgt rd h (i + 1))] := by
  unfold hlst; rw [List.range_succ, List.map_append]; rfl
theorem hlst_len (rd : List Int) (h i : Nat) : (hlst rd h i).length = i + 1 := by simp [hlst]
theorem hlst_get {rd : List Int} {h i j : Nat} (hj : j ≤ i) : (hlst rd h i)[j]? = some (.int (hgt rd h j)) := by
  simp [hlst, List.getElem?_range (show j < i + 1 by omega)]
theorem at_get {rd : List Int} (hn : 0 < rd.length) (i : Int) : (iL rd)[(i.fmod rd.length).toNat]? = some (.int (at_ rd i)) := by
  have h1 : 0 ≤ i.fmod rd.length := Int.fmod_nonneg_of_pos _ (by omega)
  have h2 : i.fmod rd.length < rd.length := Int.fmod_lt_of_pos _ (by omega)
  refine iL_get ?_
  unfold at_
  rw [List.getD_eq_getElem?_getD]
  have : (i.fmod rd.length).toNat < rd.length := by omega
  simp [this]
theorem fmod_lt {i : Int} {n : Nat} (hn : 0 < n) : 0 ≤ i.fmod n ∧ i.fmod n < n := ⟨Int.fmod_nonneg_of_pos _ (by omega), Int.fmod_lt_of_pos _ (by omega)⟩
theorem rangeSize1 (a b : Int) (n : Nat) (h : b = a + n) : Builtin.Range.rangeSize a b 1 = n := by
  unfold Builtin.Range.rangeSize; subst h; simp; omega
theorem small1 {a b : Int} (ha : a.natAbs < 1000) (hb : b.natAbs < 1000) : Builtin.Range.small a b 1 = true := small_one (by (clear hb; omega)) (by (clear hb; omega)) (by omega) (by omega)
theorem rangeSize0 (n : Nat) : Builtin.Range.rangeSize 0 (n : Int) 1 = (n : Int) := rangeSize1 _ _ _ (Int.zero_add _).symm
theorem small0 {n : Nat} (h : n ≤ 500) : Builtin.Range.small 0 (n : Int) 1 = true := small1 (by decide) (Nat.lt_of_le_of_lt h (by decide))
theorem at_get' {rd : List Int} (hn : 0 < rd.length) {C : Cx} {d : Nat} {env : Env} {ρ : Vars} {value slice : Expr} {pos : Pos} {i k : Int} (hv : Ev C d env ρ value (.lst (iL rd))) (hi : Ev C d env ρ slice (.int k)) (hk : k = i.fmod rd.length) (hz : rd.length ≤ 1000)
    (hs : ∀ a u, subscripted slice false (.ref a) (.int k u) = operate [.ref a, .int k u] (getItem (.ref a) (.int k u)) := by intro _ _; with_unfolding_all rfl) : Ev C d env ρ (.Subscript value slice pos) (.int (at_ rd i)) := by
  subst hk
  have := fmod_lt (i := i) hn
  exact Ev.itemL hv hi this.1 (at_get hn i) (by omega) hs
theorem rule_ok {w : World} {d : Nat} {rd : List Int} {h : Nat} (hn : 0 < rd.length) (hn2 : rd.length ≤ 100) (h1 : 1 ≤ h) (h4 : h ≤ 10) : CallOk (CC w) (d + 1) (rw_ 11) [.lst (iL rd), .int h] (.tup [.lst (iL (carsL rd h)), .lst (iL (crossL rd h))]) := by
  refine CallOk.of (ns := ["road", "hour"]) ?_ (by decide +kernel) rfl (by decide +kernel) (by decide +kernel) (by decide +kernel) (by decide +kernel) (by decide +kernel) ?_
  · intro vs hv pm cd doc
    obtain ⟨a, b, rfl⟩ := ofLen2 hv
    with_unfolding_all rfl
  intro L f cd
  have fe : FEnv (fenv (rw_ 11) L f cd) := ⟨(by with_unfolding_all rfl), rfl, rfl⟩
  with_unfolding_all refine Ex.assign (p := .int rd.length) fe (.inl (by with_unfolding_all rfl)) (Ev.callB fe (by with_unfolding_all rfl) bl b_len (Evs.cons (Ev.nm (by assumption) (by with_unfolding_all rfl) (by with_unfolding_all rfl)) Evs.nil) (fn_lenI (by omega))) ?_
  with_unfolding_all refine Ex.newList (ps := [.int 0]) fe (.inr ⟨by with_unfolding_all rfl, by with_unfolding_all rfl⟩) (Evs.cons Ev.int Evs.nil) (by decide) ?_
  with_unfolding_all refine Ex.for (items := rng (-h) (rd.length + 2 * h) 1) fe (.inl (by with_unfolding_all rfl)) (Itb.range2 fe (by with_unfolding_all rfl) bl b_range (Ev.un (Ev.nm (by assumption) (by with_unfolding_all rfl) (by with_unfolding_all rfl)) op_neg) (Ev.bin (Ev.nm (by assumption) (by with_unfolding_all rfl) (by with_unfolding_all rfl)) (Ev.nm (by assumption) (by with_unfolding_all rfl) (by with_unfolding_all rfl)) op_add) (small1 (by omega) (by omega)) (rangeSize1 _ _ _ (by omega))) (fun i σ' => σ' = ⟨[("size", .int rd.length), ("road", .lst (iL rd)), ("hour", .int h)], some ("heights", hlst rd h i)⟩) rfl (fun i σ' hi y hy => by subst hi; (first | obtain rfl := Option.some.inj hy | cases hy); exact (by decide : Str.ofString "heights" ≠ Str.ofString "spot")) ?_ ?_
  · rintro i σ' p rfl hp
    have hi : i < rd.length + 2 * h := by
      have := (List.getElem?_eq_some_iff.mp hp).1
      rwa [rng_length] at this
    rw [rng_get hi] at hp
    (first | obtain rfl := Option.some.inj hp | cases hp)
    with_unfolding_all refine Ex.append (l := hlst rd h i) (p := .int (hgt rd h (i + 1))) fe (.inr ⟨by with_unfolding_all rfl, by with_unfolding_all rfl⟩) (Ev.to (Ev.bin (Ev.bin (Ev.itemLn (p := .int (hgt rd h i)) (Ev.nm (by assumption) (by with_unfolding_all rfl) (by with_unfolding_all rfl)) (Ev.un Ev.int op_neg) (by decide) (by rw [hlst_len]; omega) ?_ (by decide)) Ev.int op_add) (Ev.bin Ev.int (at_get' (i := (i : Int) - h) hn (Ev.nm (by assumption) (by with_unfolding_all rfl) (by with_unfolding_all rfl)) (Ev.bin (Ev.nm (by assumption) (by with_unfolding_all rfl) (by with_unfolding_all rfl)) (Ev.nm (by assumption) (by with_unfolding_all rfl) (by with_unfolding_all rfl)) (op_mod (by omega))) ?_ (by omega)) (op_mul (.inl (by decide)))) op_sub) ?_) rfl (by rw [hlst_len]; omega) (Ex.drop (Ex.nil ⟨rfl, ?_⟩) (by with_unfolding_all rfl))
    · rw [hlst_len]
      have : ((-1 : Int) + ((i + 1 : Nat) : Int)).toNat = i := by omega
      rw [this]; exact hlst_get (Nat.le_refl _)
    · have : -(h : Int) + (i : Int) * 1 = i - h := by omega
      rw [this]
    · rfl
    · rw [hlst_succ]
  · rintro σ' rfl
    rw [rng_length]
    refine Ex.freeze ?_
    with_unfolding_all refine Ex.assign (p := .lst (iL ((List.range (rd.length + 1)).map fun e => low rd h e))) fe (.inr ⟨by with_unfolding_all rfl, by with_unfolding_all rfl⟩) (Ev.comp (cel := true) (items := rng 0 (rd.length + 1) 1) fe (CSc.of (by with_unfolding_all rfl) (by decide +kernel) (by with_unfolding_all rfl) (by with_unfolding_all rfl) (by intro _ _; with_unfolding_all rfl) (by intro _; with_unfolding_all rfl)) (Itb.range1 fe (by with_unfolding_all rfl) bl b_range (Ev.bin (Ev.nm (by assumption) (by with_unfolding_all rfl) (by with_unfolding_all rfl)) Ev.int op_add) (by first | exact small0 (Nat.le_trans hn2 (by decide)) | exact small0 (by omega) | exact small1 (by omega) (by omega)) (by first | exact rangeSize0 _ | exact rangeSize1 _ _ _ (by omega))) (by simp [rng_length, iL]) (by rw [rng_length]; omega) ?_) ?_
    · refine rng_turn (f := fun e => low rd h e) fun e he => ⟨rfl, fun F fe2 => ?_⟩
      with_unfolding_all refine Ev.bin (Ev.nm (by assumption) (by with_unfolding_all rfl) (by with_unfolding_all rfl)) (Ev.callB (ps := [.lst (iL ((List.range (h + 1)).map fun k => hgt rd h (e + 2 * k)))]) fe2 (by with_unfolding_all rfl) bl b_min (Evs.cons (Ev.comp (cel := false) (items := rng 0 (h + 1) 1) fe2 (CSc.of (by with_unfolding_all rfl) (by decide +kernel) (by with_unfolding_all rfl) (by with_unfolding_all rfl) (by intro _ _; with_unfolding_all rfl) (by intro _; with_unfolding_all rfl)) (Itb.range1 fe2 (by with_unfolding_all rfl) bl b_range (Ev.bin (Ev.nm (by assumption) (by with_unfolding_all rfl) (by with_unfolding_all rfl)) Ev.int op_add) (by first | exact small0 (Nat.le_trans hn2 (by decide)) | exact small0 (by omega) | exact small1 (by omega) (by omega)) (by first | exact rangeSize0 _ | exact rangeSize1 _ _ _ (by omega))) (by simp [rng_length, iL]) (by rw [rng_length]; omega) ?_) Evs.nil) (fn_minL (m := minTo (fun k => hgt rd h (e + 2 * k)) h) ?_ ?_)) op_add
      · refine rng_turn (f := fun k => hgt rd h (e + 2 * k)) fun k hk => ⟨rfl, fun F2 fe3 => ?_⟩
        with_unfolding_all refine Ev.itemL (Ev.nm (by assumption) (by with_unfolding_all rfl) (by with_unfolding_all rfl)) (Ev.bin (Ev.nm (by assumption) (by with_unfolding_all rfl) (by with_unfolding_all rfl)) (Ev.bin Ev.int (Ev.nm (by assumption) (by with_unfolding_all rfl) (by with_unfolding_all rfl)) (op_mul (.inl (by decide)))) op_add) (by omega) ?_ (by omega)
        have e1 : ((0 : Int) + (e : Int) * 1 + 2 * (0 + (k : Int) * 1)).toNat = e + 2 * k := by omega
        rw [e1]; exact hlst_get (by omega)
      · obtain ⟨k, k1, k2⟩ := minTo_mem (fun k => hgt rd h (e + 2 * k)) h
        rw [k2]; exact List.mem_map.mpr ⟨k, List.mem_range.mpr (by (clear hn hn2 h1 h4 fe he fe2 k2; omega)), rfl⟩
      · intro a ha
        obtain ⟨k, k1, rfl⟩ := List.mem_map.mp ha
        exact minTo_le _ _ _ (by have := List.mem_range.mp k1; omega)
    have lget : ∀ e, e < rd.length + 1 → (iL ((List.range (rd.length + 1)).map fun e => low rd h e))[e]? = some (.int (low rd h e)) := fun e he => by simp [iL, List.getElem?_range he]
    with_unfolding_all refine Ex.assignComp (cel := false) (items := rng 0 rd.length 1) (qs := iL (carsL rd h)) fe (.inl (by with_unfolding_all rfl)) (CSc.of (by with_unfolding_all rfl) (by decide +kernel) (by with_unfolding_all rfl) (by with_unfolding_all rfl) (by intro _ _; with_unfolding_all rfl) (by intro _; with_unfolding_all rfl)) (Itb.range1 fe (by with_unfolding_all rfl) bl b_range (Ev.nm (by assumption) (by with_unfolding_all rfl) (by with_unfolding_all rfl)) (by first | exact small0 (Nat.le_trans hn2 (by decide)) | exact small0 (by omega) | exact small1 (by omega) (by omega)) (by first | exact rangeSize0 _ | exact rangeSize1 _ _ _ (by omega))) (by simp [rng_length, iL, carsL]) (by rw [rng_length]; omega) ?_ ?_
    · refine rng_turn (f := fun e => (1 - low rd h (e + 1) + low rd h e).fdiv 2) fun e he => ⟨rfl, fun F fe2 => ?_⟩
      with_unfolding_all refine Ev.bin (Ev.bin (Ev.bin Ev.int (Ev.itemL (Ev.nm (by assumption) (by with_unfolding_all rfl) (by with_unfolding_all rfl)) (Ev.bin (Ev.nm (by assumption) (by with_unfolding_all rfl) (by with_unfolding_all rfl)) Ev.int op_add) (by omega) ?_ (by omega)) op_sub) (Ev.itemL (Ev.nm (by assumption) (by with_unfolding_all rfl) (by with_unfolding_all rfl)) (Ev.nm (by assumption) (by with_unfolding_all rfl) (by with_unfolding_all rfl)) (by omega) ?_ (by omega)) op_add) Ev.int (op_fdiv (by decide) (by decide))
      · have e1 : ((0 : Int) + (e : Int) * 1 + 1).toNat = e + 1 := by omega
        rw [e1]; exact lget _ (by omega)
      · have e1 : ((0 : Int) + (e : Int) * 1).toNat = e := by omega
        rw [e1]; exact lget _ (by omega)
    with_unfolding_all refine Ex.assignComp (cel := false) (items := rng 0 rd.length 1) (qs := iL (crossL rd h)) fe (.inl (by with_unfolding_all rfl)) (CSc.of (by with_unfolding_all rfl) (by decide +kernel) (by with_unfolding_all rfl) (by with_unfolding_all rfl) (by intro _ _; with_unfolding_all rfl) (by intro _; with_unfolding_all rfl)) (Itb.range1 fe (by with_unfolding_all rfl) bl b_range (Ev.nm (by assumption) (by with_unfolding_all rfl) (by with_unfolding_all rfl)) (by first | exact small0 (Nat.le_trans hn2 (by decide)) | exact small0 (by omega) | exact small1 (by omega) (by omega)) (by first | exact rangeSize0 _ | exact rangeSize1 _ _ _ (by omega))) (by simp [rng_length, iL, crossL]) (by rw [rng_length]; omega) ?_ ?_
    · refine rng_turn (f := fun e => (low rd h e - hgt rd h (e + h)).fdiv 2) fun e he => ⟨rfl, fun F fe2 => ?_⟩
      with_unfolding_all refine Ev.bin (Ev.bin (Ev.itemL (Ev.nm (by assumption) (by with_unfolding_all rfl) (by with_unfolding_all rfl)) (Ev.nm (by assumption) (by with_unfolding_all rfl) (by with_unfolding_all rfl)) (by omega) ?_ (by omega)) (Ev.itemL (Ev.nm (by assumption) (by with_unfolding_all rfl) (by with_unfolding_all rfl)) (Ev.bin (Ev.nm (by assumption) (by with_unfolding_all rfl) (by with_unfolding_all rfl)) (Ev.nm (by assumption) (by with_unfolding_all rfl) (by with_unfolding_all rfl)) op_add) (by omega) ?_ (by omega)) op_sub) Ev.int (op_fdiv (by decide) (by decide))
      · have e1 : ((0 : Int) + (e : Int) * 1).toNat = e := by omega
        rw [e1]; exact lget _ (by omega)
      · have e1 : ((0 : Int) + (e : Int) * 1 + (h : Int)).toNat = e + h := by omega
        rw [e1]; exact hlst_get (by omega)
    with_unfolding_all refine Ex.ret (Ev.tuple (Evs.cons (Ev.nm (by assumption) (by with_unfolding_all rfl) (by with_unfolding_all rfl)) (Evs.cons (Ev.nm (by assumption) (by with_unfolding_all rfl) (by with_unfolding_all rfl)) Evs.nil)) (by rw [sizeLine_eq]; simp)) rfl
end Mine
end
section
open PySem PySem.Calls PyProof.Rows
set_option maxRecDepth 100000
set_option maxHeartbeats 4000000
namespace Mine
/-! colours, in the machine's own figures -/
noncomputable abbrev fA := Float64.add
noncomputable abbrev fS := Float64.sub
noncomputable abbrev fM := Float64.mul
noncomputable def yiqY (r g b : UInt64) : UInt64 := fA (fA (fM 0x3fd3333333333333 r) (fM 0x3fe2e147ae147ae1 g)) (fM 0x3fbc28f5c28f5c29 b)
noncomputable def yiqI (r g b : UInt64) : UInt64 := fS (fM 0x3fe7ae147ae147ae (fS r (yiqY r g b))) (fM 0x3fd147ae147ae148 (fS b (yiqY r g b)))
noncomputable def yiqQ (r g b : UInt64) : UInt64 := fA (fM 0x3fdeb851eb851eb8 (fS r (yiqY r g b))) (fM 0x3fda3d70a3d70a3d (fS b (yiqY r g b)))
noncomputable def lo0 (x : UInt64) : UInt64 := if (Float64.cmp x 0 == some .lt) = true then 0 else x
noncomputable def hi1 (x : UInt64) : UInt64 := if (Float64.cmp x 0x3ff0000000000000 == some .gt) = true then 0x3ff0000000000000 else x
noncomputable def rgbR (y i q : UInt64) : UInt64 := fA (fA y (fM 0x3fee4cdbef721b32 i)) (fM 0x3fe3f42ceedac0be q)
noncomputable def rgbG (y i q : UInt64) : UInt64 := fS (fS y (fM 0x3fd1961eec8cbb3a i)) (fM 0x3fe45794d16efff3 q)
noncomputable def rgbB (y i q : UInt64) : UInt64 := fA (fS y (fM 0x3ff1bc99b7dee436 i)) (fM 0x3ffb5817a6224a7f q)
theorem iq_ok {w : World} {d : Nat} {r g b : UInt64} : CallOk (CC w) (d + 1) (rw_ 1) [.flt r, .flt g, .flt b] (.tup [.flt (yiqY r g b), .flt (yiqI r g b), .flt (yiqQ r g b)]) := by
  refine CallOk.of (ns := ["r", "g", "b"]) ?_ (by decide +kernel) rfl (by decide +kernel) (by decide +kernel) (by decide +kernel) (by decide +kernel) (by decide +kernel) ?_
  · intro vs hv pm cd doc
    obtain ⟨a, b, c, rfl⟩ := ofLen3 hv
    with_unfolding_all rfl
  intro L f cd
  have fe : FEnv (fenv (rw_ 1) L f cd) := ⟨(by with_unfolding_all rfl), rfl, rfl⟩
  with_unfolding_all refine Ex.assign (p := .flt (yiqY r g b)) fe (.inl (by with_unfolding_all rfl)) (Ev.bin (Ev.bin (Ev.bin Ev.flt (Ev.nm (by assumption) (by with_unfolding_all rfl) (by with_unfolding_all rfl)) op_mulF) (Ev.bin Ev.flt (Ev.nm (by assumption) (by with_unfolding_all rfl) (by with_unfolding_all rfl)) op_mulF) op_addF) (Ev.bin Ev.flt (Ev.nm (by assumption) (by with_unfolding_all rfl) (by with_unfolding_all rfl)) op_mulF) op_addF) ?_
  with_unfolding_all refine Ex.assign (p := .flt (yiqI r g b)) fe (.inl (by with_unfolding_all rfl)) (Ev.bin (Ev.bin Ev.flt (Ev.bin (Ev.nm (by assumption) (by with_unfolding_all rfl) (by with_unfolding_all rfl)) (Ev.nm (by assumption) (by with_unfolding_all rfl) (by with_unfolding_all rfl)) op_subF) op_mulF) (Ev.bin Ev.flt (Ev.bin (Ev.nm (by assumption) (by with_unfolding_all rfl) (by with_unfolding_all rfl)) (Ev.nm (by assumption) (by with_unfolding_all rfl) (by with_unfolding_all rfl)) op_subF) op_mulF) op_subF) ?_
  with_unfolding_all refine Ex.assign (p := .flt (yiqQ r g b)) fe (.inl (by with_unfolding_all rfl)) (Ev.bin (Ev.bin Ev.flt (Ev.bin (Ev.nm (by assumption) (by with_unfolding_all rfl) (by with_unfolding_all rfl)) (Ev.nm (by assumption) (by with_unfolding_all rfl) (by with_unfolding_all rfl)) op_subF) op_mulF) (Ev.bin Ev.flt (Ev.bin (Ev.nm (by assumption) (by with_unfolding_all rfl) (by with_unfolding_all rfl)) (Ev.nm (by assumption) (by with_unfolding_all rfl) (by with_unfolding_all rfl)) op_subF) op_mulF) op_addF) ?_
  with_unfolding_all refine Ex.ret (Ev.tuple (Evs.cons (Ev.nm (by assumption) (by with_unfolding_all rfl) (by with_unfolding_all rfl)) (Evs.cons (Ev.nm (by assumption) (by with_unfolding_all rfl) (by with_unfolding_all rfl)) (Evs.cons (Ev.nm (by assumption) (by with_unfolding_all rfl) (by with_unfolding_all rfl)) Evs.nil))) (by rw [sizeLine_eq]; simp)) rfl
section
variable {C : Cx} {d : Nat} {env : Env} {σ : PSt} {Post : Option PV → PSt → Prop}
/-- «if test: x = value» -/
theorem Ex.ifSet {test : Expr} {x : Str} {px value pos ipos ss p p'} {b : Bool} (fe : FEnv env) (hx : Sto env x) (ht : Tr C d env σ.vars test b) (he : Ev C d env σ.vars value p') (hv : σ.vars.lookup x = some p)
    (k : Ex C d env (σ.set x (if b then p' else p)) ss Post) (hm : ∀ y, σ.gro = some y → y.1 ≠ x := by intro _ h; exact nomatch h) (hs : swapsWith value (some (.Name x px)) pos.line env = pure false := by rfl) :
    Ex C d env σ (.If test [.Assign [.Name x px] value pos] [] ipos :: ss) Post := by
  refine Ex.cons (Xs.ifs (Post := fun o σ' => o = none ∧ Ex C d env σ' ss Post) ht ?_) (fun _ h => h.2) fun _ _ h => nomatch h.1
  cases b with
  | true => exact Ex.assign fe hx he (Ex.nil ⟨rfl, k⟩) hm hs
  | false =>
    refine Ex.nil ⟨rfl, Ex.sub k (fun y q e => ?_) rfl⟩
    unfold PSt.set at e
    simp only [Bool.false_eq_true, if_false] at e
    rw [List.lookup_cons] at e
    by_cases h : y = x
    · subst h; rw [beq_self_eq_true] at e; (first | obtain rfl := Option.some.inj e | cases e); exact hv
    · rw [beq_eq_false_iff_ne.mpr h] at e; exact e
end
theorem flt_ite {b : Bool} {x y : UInt64} : (if b then PV.flt x else .flt y) = .flt (if b then x else y) := by (first | obtain rfl := Option.some.inj b | cases b) <;> rfl
theorem gb_ok {w : World} {d : Nat} {y i q : UInt64} : CallOk (CC w) (d + 1) (rw_ 2) [.flt y, .flt i, .flt q] (.tup [.flt (hi1 (lo0 (rgbR y i q))), .flt (hi1 (lo0 (rgbG y i q))), .flt (hi1 (lo0 (rgbB y i q)))]) := by
  refine CallOk.of (ns := ["y", "i", "q"]) ?_ (by decide +kernel) rfl (by decide +kernel) (by decide +kernel) (by decide +kernel) (by decide +kernel) (by decide +kernel) ?_
  · intro vs hv pm cd doc
    obtain ⟨a, b, c, rfl⟩ := ofLen3 hv
    with_unfolding_all rfl
  intro L f cd
  have fe : FEnv (fenv (rw_ 2) L f cd) := ⟨(by with_unfolding_all rfl), rfl, rfl⟩
  with_unfolding_all refine Ex.assign (p := .flt (rgbR y i q)) fe (.inl (by with_unfolding_all rfl)) (Ev.bin (Ev.bin (Ev.nm (by assumption) (by with_unfolding_all rfl) (by with_unfolding_all rfl)) (Ev.bin Ev.flt (Ev.nm (by assumption) (by with_unfolding_all rfl) (by with_unfolding_all rfl)) op_mulF) op_addF) (Ev.bin Ev.flt (Ev.nm (by assumption) (by with_unfolding_all rfl) (by with_unfolding_all rfl)) op_mulF) op_addF) ?_
  with_unfolding_all refine Ex.assign (p := .flt (rgbG y i q)) fe (.inl (by with_unfolding_all rfl)) (Ev.bin (Ev.bin (Ev.nm (by assumption) (by with_unfolding_all rfl) (by with_unfolding_all rfl)) (Ev.bin Ev.flt (Ev.nm (by assumption) (by with_unfolding_all rfl) (by with_unfolding_all rfl)) op_mulF) op_subF) (Ev.bin Ev.flt (Ev.nm (by assumption) (by with_unfolding_all rfl) (by with_unfolding_all rfl)) op_mulF) op_subF) ?_
  with_unfolding_all refine Ex.assign (p := .flt (rgbB y i q)) fe (.inl (by with_unfolding_all rfl)) (Ev.bin (Ev.bin (Ev.nm (by assumption) (by with_unfolding_all rfl) (by with_unfolding_all rfl)) (Ev.bin Ev.flt (Ev.nm (by assumption) (by with_unfolding_all rfl) (by with_unfolding_all rfl)) op_mulF) op_subF) (Ev.bin Ev.flt (Ev.nm (by assumption) (by with_unfolding_all rfl) (by with_unfolding_all rfl)) op_mulF) op_addF) ?_
  with_unfolding_all refine Ex.ifSet (p := .flt (rgbR y i q)) fe (.inl (by with_unfolding_all rfl)) (Tr.cmp (Ev.nm (by assumption) (by with_unfolding_all rfl) (by with_unfolding_all rfl)) Ev.flt op_ltF) Ev.flt (by with_unfolding_all rfl) ?_
  rw [flt_ite]
  with_unfolding_all refine Ex.ifSet (p := .flt (rgbG y i q)) fe (.inl (by with_unfolding_all rfl)) (Tr.cmp (Ev.nm (by assumption) (by with_unfolding_all rfl) (by with_unfolding_all rfl)) Ev.flt op_ltF) Ev.flt (by with_unfolding_all rfl) ?_
  rw [flt_ite]
  with_unfolding_all refine Ex.ifSet (p := .flt (rgbB y i q)) fe (.inl (by with_unfolding_all rfl)) (Tr.cmp (Ev.nm (by assumption) (by with_unfolding_all rfl) (by with_unfolding_all rfl)) Ev.flt op_ltF) Ev.flt (by with_unfolding_all rfl) ?_
  rw [flt_ite]
  with_unfolding_all refine Ex.ifSet (p := .flt (lo0 (rgbR y i q))) fe (.inl (by with_unfolding_all rfl)) (Tr.cmp (Ev.nm (by assumption) (by with_unfolding_all rfl) (by with_unfolding_all rfl)) Ev.flt op_gtF) Ev.flt (by with_unfolding_all rfl) ?_
  rw [flt_ite]
  with_unfolding_all refine Ex.ifSet (p := .flt (lo0 (rgbG y i q))) fe (.inl (by with_unfolding_all rfl)) (Tr.cmp (Ev.nm (by assumption) (by with_unfolding_all rfl) (by with_unfolding_all rfl)) Ev.flt op_gtF) Ev.flt (by with_unfolding_all rfl) ?_
  rw [flt_ite]
  with_unfolding_all refine Ex.ifSet (p := .flt (lo0 (rgbB y i q))) fe (.inl (by with_unfolding_all rfl)) (Tr.cmp (Ev.nm (by assumption) (by with_unfolding_all rfl) (by with_unfolding_all rfl)) Ev.flt op_gtF) Ev.flt (by with_unfolding_all rfl) ?_
  rw [flt_ite]
  with_unfolding_all refine Ex.ret (Ev.tuple (Evs.cons (Ev.nm (by assumption) (by with_unfolding_all rfl) (by with_unfolding_all rfl)) (Evs.cons (Ev.nm (by assumption) (by with_unfolding_all rfl) (by with_unfolding_all rfl)) (Evs.cons (Ev.nm (by assumption) (by with_unfolding_all rfl) (by with_unfolding_all rfl)) Evs.nil))) (by rw [sizeLine_eq]; simp)) rfl
end Mine
end
section
open PySem PySem.Calls PyProof.Rows
set_option maxRecDepth 100000
set_option maxHeartbeats 600000
namespace Mine
section
variable {w : World} {ex : Exm} {fr : Around → Prop}
theorem m_1 : rw_ 1 ∈ (CX w ex fr).defs := .head _
theorem m_2 : rw_ 2 ∈ (CX w ex fr).defs := .tail _ (.head _)
theorem m_7 : rw_ 7 ∈ (CX w ex fr).defs := .tail _ (.tail _ (.head _))
theorem m_9 : rw_ 9 ∈ (CX w ex fr).defs := .tail _ (.tail _ (.tail _ (.head _)))
theorem m_11 : rw_ 11 ∈ (CX w ex fr).defs := .tail _ (.tail _ (.tail _ (.tail _ (.head _))))
theorem m_12 : rw_ 12 ∈ (CX w ex fr).defs := .tail _ (.tail _ (.tail _ (.tail _ (.tail _ (.head _)))))
theorem m_13 : rw_ 13 ∈ (CX w ex fr).defs := .tail _ (.tail _ (.tail _ (.tail _ (.tail _ (.tail _ (.head _))))))
theorem m_14 : rw_ 14 ∈ (CX w ex fr).defs := .tail _ (.tail _ (.tail _ (.tail _ (.tail _ (.tail _ (.tail _ (.head _)))))))
theorem m_15 : rw_ 15 ∈ (CX w ex fr).defs := .tail _ (.tail _ (.tail _ (.tail _ (.tail _ (.tail _ (.tail _ (.tail _ (.head _))))))))
theorem m_16 : rw_ 16 ∈ (CX w ex fr).defs := .tail _ (.tail _ (.tail _ (.tail _ (.tail _ (.tail _ (.tail _ (.tail _ (.tail _ (.head _)))))))))
end
theorem Ev.itemW {C : Cx} {d : Nat} {env : Env} {ρ : Vars} {value slice : Expr} {pos : Pos} {l : List PV} {k : Int} {p : PV} (hv : Ev C d env ρ value (.lst l)) (hi : Ev C d env ρ slice (.int k)) (h0 : -(l.length : Int) ≤ k) (h1 : k < l.length) (hp : l[(k.fmod l.length).toNat]? = some p) (hz : l.length ≤ 1000)
    (hs : ∀ a u, subscripted slice false (.ref a) (.int k u) = operate [.ref a, .int k u] (getItem (.ref a) (.int k u)) := by intro _ _; with_unfolding_all rfl) : Ev C d env ρ (.Subscript value slice pos) p := by
  by_cases h : 0 ≤ k
  · rw [Int.fmod_eq_of_lt h h1] at hp
    exact Ev.itemL hv hi h hp (by omega) hs
  · have e : k.fmod l.length = k + l.length := by
      rw [← Int.add_fmod_right, Int.fmod_eq_of_lt (by omega) (by (clear hv hi h0 hp hs; omega))]
    rw [e] at hp
    exact Ev.itemLn hv hi (by omega) h0 hp (by omega) hs
noncomputable def lampF (dark bright c : Int) : UInt64 := Float64.ofFrac (decide (dark + bright * c < 0) != decide ((32 : Int) < 0)) (dark + bright * c).natAbs (32 : Int).natAbs
noncomputable def fL (l : List UInt64) : List PV := l.map PV.flt
noncomputable def lmp (L : List UInt64) (i : Int) : UInt64 := L.getD (i.fmod L.length).toNat 0
theorem lmp_get {L : List UInt64} (hn : 0 < L.length) (i : Int) : (fL L)[(i.fmod L.length).toNat]? = some (.flt (lmp L i)) := by
  have := fmod_lt (i := i) hn
  unfold lmp fL
  rw [List.getD_eq_getElem?_getD]
  have : (i.fmod L.length).toNat < L.length := by omega
  simp [this]
theorem Ev.lmp {C : Cx} {d : Nat} {env : Env} {ρ : Vars} {value slice : Expr} {pos : Pos} {L : List UInt64} {k i : Int} (hv : Ev C d env ρ value (.lst (fL L))) (hi : Ev C d env ρ slice (.int k)) (e : k = i) (h0 : -(L.length : Int) ≤ k) (h1 : k < L.length) (hz : L.length ≤ 1000)
    (hs : ∀ a u, subscripted slice false (.ref a) (.int k u) = operate [.ref a, .int k u] (getItem (.ref a) (.int k u)) := by intro _ _; with_unfolding_all rfl) : Ev C d env ρ (.Subscript value slice pos) (.flt (Mine.lmp L i)) := by
  subst e
  have hl : (fL L).length = L.length := by simp [fL]
  refine Ev.itemW hv hi (by rw [hl]; exact h0) (by rw [hl]; exact h1) ?_ (by rw [hl]; exact hz) hs
  rw [hl]; exact lmp_get (by omega) k
noncomputable def diff (gain : Int) (x y : UInt64) : UInt64 := fM (Float64.ofInt gain) (fS x y)
noncomputable def mY (gain : Int) (L : List UInt64) (i : Int) : UInt64 := diff gain (yiqY (lmp L (i - 1)) (lmp L i) (lmp L (i + 1))) (yiqY (lmp L i) (lmp L (i + 1)) (lmp L (i + 2)))
noncomputable def mI (gain : Int) (L : List UInt64) (i : Int) : UInt64 := diff gain (yiqI (lmp L (i - 1)) (lmp L i) (lmp L (i + 1))) (yiqI (lmp L i) (lmp L (i + 1)) (lmp L (i + 2)))
noncomputable def mQ (gain : Int) (L : List UInt64) (i : Int) : UInt64 := diff gain (yiqQ (lmp L (i - 1)) (lmp L i) (lmp L (i + 1))) (yiqQ (lmp L i) (lmp L (i + 1)) (lmp L (i + 2)))
noncomputable def colR (gain : Int) (L : List UInt64) (i : Int) : UInt64 := hi1 (lo0 (rgbR (mY gain L i) (mI gain L i) (mQ gain L i)))
noncomputable def colG (gain : Int) (L : List UInt64) (i : Int) : UInt64 := hi1 (lo0 (rgbG (mY gain L i) (mI gain L i) (mQ gain L i)))
noncomputable def colB (gain : Int) (L : List UInt64) (i : Int) : UInt64 := hi1 (lo0 (rgbB (mY gain L i) (mI gain L i) (mQ gain L i)))
noncomputable def scaled (x : UInt64) : UInt64 := fM (Float64.ofInt ((2 : Int) ^ (25 : Int).toNat)) x
noncomputable def rnd (x : UInt64) : Int := PySem.Flt.toInt Float64.nearestOf (scaled x)
noncomputable def flo3 (gain : Int) (L : List UInt64) (i : Int) : List Int := [rnd (colR gain L i), rnd (colG gain L i), rnd (colB gain L i)]
noncomputable def floL (gain : Int) (L : List UInt64) : Nat → List Int
  | 0 => []
  | n + 1 => floL gain L n ++ flo3 gain L (3 * (n : Int))
theorem floL_len (gain : Int) (L : List UInt64) : ∀ n, (floL gain L n).length = 3 * n
  | 0 => rfl
  | n + 1 => by unfold floL; rw [List.length_append, floL_len gain L n]; simp [flo3]; omega
theorem rangeSize3 (m : Nat) : Builtin.Range.rangeSize 0 ((3 * m : Nat) : Int) 3 = m := by
  unfold Builtin.Range.rangeSize
  simp; omega
theorem small3 {b : Int} (h0 : 0 ≤ b) (hb : b ≤ 1000) : Builtin.Range.small 0 b 3 = true := by
  unfold Builtin.Range.small Builtin.Range.rangeSize Builtin.Range.rangeFitsLong
  simp; omega
theorem fl0 (a b c : UInt64) : (fL [a, b, c])[(0 : Int).toNat]? = some (.flt a) := rfl
theorem fl1 (a b c : UInt64) : (fL [a, b, c])[(1 : Int).toNat]? = some (.flt b) := rfl
theorem fl2 (a b c : UInt64) : (fL [a, b, c])[(2 : Int).toNat]? = some (.flt c) := rfl
theorem len3'(a b c : PV) (x y z : Int) : (iL [x, y, z]).length = [a, b, c].length := rfl
theorem iL_app (a b : List Int) : iL (a ++ b) = iL a ++ iL b := List.map_append
theorem len3 (a b c x y z : PV) : [a, b, c].length = [x, y, z].length := rfl
theorem seen_ok {w : World} {d : Nat} {rd : List Int} {m : Nat} {dark bright gain : Int} (hm : rd.length = 3 * m) (hm1 : 1 ≤ m) (hm2 : m ≤ 100) (hd : dark.natAbs ≤ 100) (hb : bright.natAbs ≤ 100) (hg : gain.natAbs ≤ 100) (hrd : ∀ c ∈ rd, c.natAbs ≤ 1)
    (hf : ∀ i : Nat, i < m → ∀ x ∈ [colR gain (rd.map (lampF dark bright)) (3 * (i : Int)), colG gain (rd.map (lampF dark bright)) (3 * (i : Int)), colB gain (rd.map (lampF dark bright)) (3 * (i : Int))], Float64.isFinite (scaled x) = true) :
    CallOk (CC w) (d + 1 + 1) (rw_ 12) [.lst (iL rd), .int dark, .int bright, .int gain] (.lst (iL (floL gain (rd.map (lampF dark bright)) m))) := by
  refine CallOk.of (ns := ["road", "dark", "bright", "gain"]) ?_ (by decide +kernel) rfl (by decide +kernel) (by decide +kernel) (by decide +kernel) (by decide +kernel) (by decide +kernel) ?_
  · intro vs hv pm cd doc
    obtain ⟨a, b, c, e, rfl⟩ := ofLen4 hv
    with_unfolding_all rfl
  intro L f cd
  have fe : FEnv (fenv (rw_ 12) L f cd) := ⟨(by with_unfolding_all rfl), rfl, rfl⟩
  generalize hLL : rd.map (lampF dark bright) = LL at hf
  have hLn : LL.length = 3 * m := by rw [← hLL]; simp [hm]
  with_unfolding_all refine Ex.assignComp (cel := false) (items := iL rd) (qs := fL LL) fe (.inl (by with_unfolding_all rfl)) (CSc.of (by with_unfolding_all rfl) (by decide +kernel) (by with_unfolding_all rfl) (by with_unfolding_all rfl) (by intro _ _; with_unfolding_all rfl) (by intro _; with_unfolding_all rfl)) (Itb.list (Ev.nm (by assumption) (by with_unfolding_all rfl) (by with_unfolding_all rfl))) (by simp [iL, fL, ← hLL]) (by simp [iL]; (clear hd hb hg hrd fe hLL hf hLn; omega)) ?_ ?_
  · intro i p q hp hq
    obtain ⟨c, hc, rfl⟩ : ∃ c, rd[i]? = some c ∧ p = .int c := by
      rw [iL, List.getElem?_map] at hp
      cases h : rd[i]? with
      | none => rw [h] at hp; (first | obtain rfl := Option.some.inj hp | cases hp)
      | some c => rw [h] at hp; (first | obtain rfl := Option.some.inj hp | cases hp); exact ⟨c, rfl, rfl⟩
    have hq' : q = .flt (lampF dark bright c) := by
      rw [fL, ← hLL, List.map_map, List.getElem?_map, hc] at hq
      (first | obtain rfl := Option.some.inj hq | cases hq); rfl
    subst hq'
    have hc1 := hrd c (List.mem_of_getElem? hc)
    refine ⟨rfl, fun F fe2 => ?_⟩
    have hbc : (bright * c).natAbs ≤ 100 := by
      rw [Int.natAbs_mul]
      calc _ ≤ 100 * 1 := Nat.mul_le_mul hb hc1
        _ = 100 := rfl
    with_unfolding_all refine Ev.bin (Ev.bin (Ev.nm (by assumption) (by with_unfolding_all rfl) (by with_unfolding_all rfl)) (Ev.bin (Ev.nm (by assumption) (by with_unfolding_all rfl) (by with_unfolding_all rfl)) (Ev.nm (by assumption) (by with_unfolding_all rfl) (by with_unfolding_all rfl)) (op_mul (.inl (by (clear hm hm1 hm2 hd hg hrd fe hLL hf hLn hc hp hq hc1 fe2 hbc; omega))))) op_add) Ev.int (op_divII (by decide) ?_)
    have : (dark + bright * c).natAbs ≤ 200 := Nat.le_trans (Int.natAbs_add_le _ _) (Nat.add_le_add hd hbc)
    exact Nat.lt_of_le_of_lt this (by decide +kernel)
  with_unfolding_all refine Ex.newList (ps := []) fe (.inl (by with_unfolding_all rfl)) Evs.nil (by decide) ?_
  with_unfolding_all refine Ex.for (items := rng 0 m 3) fe (.inl (by with_unfolding_all rfl)) (Itb.range3 fe (by with_unfolding_all rfl) bl b_range Ev.int (Ev.callB fe (by with_unfolding_all rfl) bl b_len (Evs.cons (Ev.nm (by assumption) (by with_unfolding_all rfl) (by with_unfolding_all rfl)) Evs.nil) (fn_lenI (by (clear hd hb hg hrd fe hLL hf hLn; omega)))) Ev.int (by decide) (by decide) (small3 (by (clear hd hb hg hrd fe hLL hf hLn; omega)) (by (clear hd hb hg hrd fe hLL hf hLn; omega))) (by rw [hm]; exact rangeSize3 m)) (fun i σ' => σ' = ⟨[("lamps", .lst (fL LL)), ("road", .lst (iL rd)), ("dark", .int dark), ("bright", .int bright), ("gain", .int gain)], some ("flows", iL (floL gain LL i))⟩) rfl (fun i σ' hi y hy => by subst hi; (first | obtain rfl := Option.some.inj hy | cases hy); exact (by decide : Str.ofString "flows" ≠ Str.ofString "spot")) ?_ ?_
  · rintro i σ' p rfl hp
    have hi : i < m := by
      have := (List.getElem?_eq_some_iff.mp hp).1
      rwa [rng_length] at this
    rw [rng_get hi] at hp
    (first | obtain rfl := Option.some.inj hp | cases hp)
    have ei : (0 : Int) + (i : Int) * 3 = 3 * (i : Int) := by (clear hm hm1 hm2 hd hb hg hrd fe hLL hf hLn hi hp; omega)
    rw [ei]
    generalize hs : 3 * (i : Int) = sp
    have s0 : 0 ≤ sp := by (clear hm hm1 hm2 hd hb hg hrd fe hLL hf hLn hi hp ei; omega)
    have s1 : sp + 3 ≤ LL.length := by (clear hm hm1 hm2 hd hb hg hrd fe hLL hf hp ei s0; omega)
    with_unfolding_all refine Ex.assign (p := .tup [.flt (yiqY (lmp LL (sp - 1)) (lmp LL sp) (lmp LL (sp + 1))), .flt (yiqI (lmp LL (sp - 1)) (lmp LL sp) (lmp LL (sp + 1))), .flt (yiqQ (lmp LL (sp - 1)) (lmp LL sp) (lmp LL (sp + 1)))]) fe (.inl (by with_unfolding_all rfl)) (Ev.callF (r := rw_ 1) fe (by with_unfolding_all rfl) m_1 (Evs.cons (Ev.lmp (Ev.nm (by assumption) (by with_unfolding_all rfl) (by with_unfolding_all rfl)) (Ev.bin (Ev.nm (by assumption) (by with_unfolding_all rfl) (by with_unfolding_all rfl)) Ev.int op_sub) rfl (by (clear hm hm1 hm2 hd hb hg hrd fe hLL hf hi hp ei; omega)) (by (clear hm hm1 hm2 hd hb hg hrd fe hLL hf hi hp ei s0; omega)) (by (clear hm hd hb hg hrd fe hLL hf hi hp ei hs s0 s1; omega))) (Evs.cons (Ev.lmp (Ev.nm (by assumption) (by with_unfolding_all rfl) (by with_unfolding_all rfl)) (Ev.nm (by assumption) (by with_unfolding_all rfl) (by with_unfolding_all rfl)) rfl (by (clear hm hm1 hm2 hd hb hg hrd fe hLL hf hi hp ei; omega)) (by (clear hm hm1 hm2 hd hb hg hrd fe hLL hf hi hp ei s0; omega)) (by (clear hm hd hb hg hrd fe hLL hf hi hp ei hs s0 s1; omega))) (Evs.cons (Ev.lmp (Ev.nm (by assumption) (by with_unfolding_all rfl) (by with_unfolding_all rfl)) (Ev.bin (Ev.nm (by assumption) (by with_unfolding_all rfl) (by with_unfolding_all rfl)) Ev.int op_add) rfl (by (clear hm hm1 hm2 hd hb hg hrd fe hLL hf hi hp ei; omega)) (by (clear hm hm1 hm2 hd hb hg hrd fe hLL hf hi hp ei s0; omega)) (by (clear hm hd hb hg hrd fe hLL hf hi hp ei hs s0 s1; omega))) Evs.nil))) iq_ok (by decide +kernel)) ?_ (by intro y hy; (first | obtain rfl := Option.some.inj hy | cases hy); exact (by decide : Str.ofString "flows" ≠ Str.ofString "behind"))
    with_unfolding_all refine Ex.assign (p := .tup [.flt (yiqY (lmp LL sp) (lmp LL (sp + 1)) (lmp LL (sp + 2))), .flt (yiqI (lmp LL sp) (lmp LL (sp + 1)) (lmp LL (sp + 2))), .flt (yiqQ (lmp LL sp) (lmp LL (sp + 1)) (lmp LL (sp + 2)))]) fe (.inl (by with_unfolding_all rfl)) (Ev.callF (r := rw_ 1) fe (by with_unfolding_all rfl) m_1 (Evs.cons (Ev.lmp (Ev.nm (by assumption) (by with_unfolding_all rfl) (by with_unfolding_all rfl)) (Ev.nm (by assumption) (by with_unfolding_all rfl) (by with_unfolding_all rfl)) rfl (by (clear hm hm1 hm2 hd hb hg hrd fe hLL hf hi hp ei; omega)) (by (clear hm hm1 hm2 hd hb hg hrd fe hLL hf hi hp ei s0; omega)) (by (clear hm hd hb hg hrd fe hLL hf hi hp ei hs s0 s1; omega))) (Evs.cons (Ev.lmp (Ev.nm (by assumption) (by with_unfolding_all rfl) (by with_unfolding_all rfl)) (Ev.bin (Ev.nm (by assumption) (by with_unfolding_all rfl) (by with_unfolding_all rfl)) Ev.int op_add) rfl (by (clear hm hm1 hm2 hd hb hg hrd fe hLL hf hi hp ei; omega)) (by (clear hm hm1 hm2 hd hb hg hrd fe hLL hf hi hp ei s0; omega)) (by (clear hm hd hb hg hrd fe hLL hf hi hp ei hs s0 s1; omega))) (Evs.cons (Ev.lmp (Ev.nm (by assumption) (by with_unfolding_all rfl) (by with_unfolding_all rfl)) (Ev.bin (Ev.nm (by assumption) (by with_unfolding_all rfl) (by with_unfolding_all rfl)) Ev.int op_add) rfl (by (clear hm hm1 hm2 hd hb hg hrd fe hLL hf hi hp ei; omega)) (by (clear hm hm1 hm2 hd hb hg hrd fe hLL hf hi hp ei s0; omega)) (by (clear hm hd hb hg hrd fe hLL hf hi hp ei hs s0 s1; omega))) Evs.nil))) iq_ok (by decide +kernel)) ?_ (by intro y hy; (first | obtain rfl := Option.some.inj hy | cases hy); exact (by decide : Str.ofString "flows" ≠ Str.ofString "ahead"))
    have gsm : gain.natAbs < 2 ^ 1023 := Nat.lt_of_le_of_lt hg (by decide +kernel)
    with_unfolding_all refine Ex.assignCompP (qs := fL [mY gain LL sp, mI gain LL sp, mQ gain LL sp]) fe (.inl (by with_unfolding_all rfl)) (CSc.of (by with_unfolding_all rfl) (by decide +kernel) (by with_unfolding_all rfl) (by with_unfolding_all rfl) (by intro _ _; with_unfolding_all rfl) (by intro _; with_unfolding_all rfl)) (by with_unfolding_all rfl) (by decide) (Itp.zip (tup := true) (ps := [.flt (yiqY (lmp LL (sp - 1)) (lmp LL sp) (lmp LL (sp + 1))), .flt (yiqI (lmp LL (sp - 1)) (lmp LL sp) (lmp LL (sp + 1))), .flt (yiqQ (lmp LL (sp - 1)) (lmp LL sp) (lmp LL (sp + 1)))]) (qs := [.flt (yiqY (lmp LL sp) (lmp LL (sp + 1)) (lmp LL (sp + 2))), .flt (yiqI (lmp LL sp) (lmp LL (sp + 1)) (lmp LL (sp + 2))), .flt (yiqQ (lmp LL sp) (lmp LL (sp + 1)) (lmp LL (sp + 2)))]) fe (by with_unfolding_all rfl) bl b_zip (Ev.nm (by assumption) (by with_unfolding_all rfl) (by with_unfolding_all rfl)) (Ev.nm (by assumption) (by with_unfolding_all rfl) (by with_unfolding_all rfl)) (len3 ..)) (by simp [fL]) (by simp) ?_ ?_ (by intro y hy; (first | obtain rfl := Option.some.inj hy | cases hy); exact (by decide : Str.ofString "flows" ≠ Str.ofString "more"))
    · intro j p p' q hp hq
      rcases j with _ | _ | _ | j
      ·
        (first | obtain rfl := Option.some.inj hp | cases hp); (first | obtain rfl := Option.some.inj hq | cases hq)
        refine ⟨rfl, fun F fe2 => ?_⟩
        with_unfolding_all refine Ev.to (Ev.bin (Ev.nm (by assumption) (by with_unfolding_all rfl) (by with_unfolding_all rfl)) (Ev.bin (Ev.nm (by assumption) (by with_unfolding_all rfl) (by with_unfolding_all rfl)) (Ev.nm (by assumption) (by with_unfolding_all rfl) (by with_unfolding_all rfl)) op_subF) (op_mulIF gsm)) ?_
        rfl
      ·
        (first | obtain rfl := Option.some.inj hp | cases hp); (first | obtain rfl := Option.some.inj hq | cases hq)
        refine ⟨rfl, fun F fe2 => ?_⟩
        with_unfolding_all refine Ev.to (Ev.bin (Ev.nm (by assumption) (by with_unfolding_all rfl) (by with_unfolding_all rfl)) (Ev.bin (Ev.nm (by assumption) (by with_unfolding_all rfl) (by with_unfolding_all rfl)) (Ev.nm (by assumption) (by with_unfolding_all rfl) (by with_unfolding_all rfl)) op_subF) (op_mulIF gsm)) ?_
        rfl
      ·
        (first | obtain rfl := Option.some.inj hp | cases hp); (first | obtain rfl := Option.some.inj hq | cases hq)
        refine ⟨rfl, fun F fe2 => ?_⟩
        with_unfolding_all refine Ev.to (Ev.bin (Ev.nm (by assumption) (by with_unfolding_all rfl) (by with_unfolding_all rfl)) (Ev.bin (Ev.nm (by assumption) (by with_unfolding_all rfl) (by with_unfolding_all rfl)) (Ev.nm (by assumption) (by with_unfolding_all rfl) (by with_unfolding_all rfl)) op_subF) (op_mulIF gsm)) ?_
        rfl
      · (first | obtain rfl := Option.some.inj hp | cases hp)
    have fin := hf i hi
    rw [hs] at fin
    with_unfolding_all refine Ex.extend (l := iL (floL gain LL i)) (qs := iL (flo3 gain LL sp)) fe (.inl (by with_unfolding_all rfl)) (Ev.comp (cel := false) (items := [.flt (colR gain LL sp), .flt (colG gain LL sp), .flt (colB gain LL sp)]) fe (CSc.of (by with_unfolding_all rfl) (by decide +kernel) (by with_unfolding_all rfl) (by with_unfolding_all rfl) (by intro _ _; with_unfolding_all rfl) (by intro _; with_unfolding_all rfl)) (Itb.tup (Ev.callF (r := rw_ 2) fe (by with_unfolding_all rfl) m_2 (Evs.cons (Ev.itemL (l := fL [mY gain LL sp, mI gain LL sp, mQ gain LL sp]) (p := .flt (mY gain LL sp)) (Ev.nm (by assumption) (by with_unfolding_all rfl) (by with_unfolding_all rfl)) Ev.int (by decide) (fl0 ..) (by decide)) (Evs.cons (Ev.itemL (l := fL [mY gain LL sp, mI gain LL sp, mQ gain LL sp]) (p := .flt (mI gain LL sp)) (Ev.nm (by assumption) (by with_unfolding_all rfl) (by with_unfolding_all rfl)) Ev.int (by decide) (fl1 ..) (by decide)) (Evs.cons (Ev.itemL (l := fL [mY gain LL sp, mI gain LL sp, mQ gain LL sp]) (p := .flt (mQ gain LL sp)) (Ev.nm (by assumption) (by with_unfolding_all rfl) (by with_unfolding_all rfl)) Ev.int (by decide) (fl2 ..) (by decide)) Evs.nil))) gb_ok (by decide +kernel))) (len3' ..) (by simp) ?_) (by simp [iL, flo3, PV.sca]) (by simp [iL, floL_len, flo3]; (clear hm hd hb hg hrd fe hLL hf hLn hp ei hs s0 s1 gsm fin; omega)) (Ex.drops [("more", _), ("ahead", _), ("behind", _), ("spot", _)] (Ex.nil ⟨rfl, ?_⟩) (by with_unfolding_all rfl))
    · intro j p q hp hq
      rcases j with _ | _ | _ | j
      ·
        (first | obtain rfl := Option.some.inj hp | cases hp); (first | obtain rfl := Option.some.inj hq | cases hq)
        refine ⟨rfl, fun F fe2 => ?_⟩
        with_unfolding_all refine Ev.to (Ev.callB fe2 (by with_unfolding_all rfl) bl b_round (Evs.cons (Ev.bin (Ev.bin Ev.int Ev.int (op_pow (by decide) (by decide) (by decide))) (Ev.nm (by assumption) (by with_unfolding_all rfl) (by with_unfolding_all rfl)) (op_mulIF (by decide +kernel))) Evs.nil) (fn_roundF ?_)) ?_
        · exact fin _ (by simp)
        · rfl
      ·
        (first | obtain rfl := Option.some.inj hp | cases hp); (first | obtain rfl := Option.some.inj hq | cases hq)
        refine ⟨rfl, fun F fe2 => ?_⟩
        with_unfolding_all refine Ev.to (Ev.callB fe2 (by with_unfolding_all rfl) bl b_round (Evs.cons (Ev.bin (Ev.bin Ev.int Ev.int (op_pow (by decide) (by decide) (by decide))) (Ev.nm (by assumption) (by with_unfolding_all rfl) (by with_unfolding_all rfl)) (op_mulIF (by decide +kernel))) Evs.nil) (fn_roundF ?_)) ?_
        · exact fin _ (by simp)
        · rfl
      ·
        (first | obtain rfl := Option.some.inj hp | cases hp); (first | obtain rfl := Option.some.inj hq | cases hq)
        refine ⟨rfl, fun F fe2 => ?_⟩
        with_unfolding_all refine Ev.to (Ev.callB fe2 (by with_unfolding_all rfl) bl b_round (Evs.cons (Ev.bin (Ev.bin Ev.int Ev.int (op_pow (by decide) (by decide) (by decide))) (Ev.nm (by assumption) (by with_unfolding_all rfl) (by with_unfolding_all rfl)) (op_mulIF (by decide +kernel))) Evs.nil) (fn_roundF ?_)) ?_
        · exact fin _ (by simp)
        · rfl
      · (first | obtain rfl := Option.some.inj hp | cases hp)
    · have : floL gain LL (i + 1) = floL gain LL i ++ flo3 gain LL sp := by rw [← hs]; rfl
      rw [this, iL_app]
  · rintro σ' rfl
    rw [rng_length]
    refine Ex.freeze ?_
    with_unfolding_all refine Ex.ret (Ev.nm (by assumption) (by with_unfolding_all rfl) (by with_unfolding_all rfl)) rfl
end Mine
end
section
open PySem PySem.Calls PyProof.Rows
set_option maxRecDepth 100000
namespace Mine
section
variable {C : Cx} {d : Nat} {env : Env} {ρ : Vars}
theorem Ev.byt {x k pos} : Ev C d env ρ (.Constant (.bytes x) k pos) (.byt x.toArray) := fun _ _ s _ X _ _ hQ => PySem.W.Constant_bytes (hQ _ _ s.heap (s.toks + 1) (Grow.refl X.sub) (.byt _ _))
theorem op_addB {b c : Array UInt8} (hsz : b.size + c.size ≤ 16777216) : OpOk C d [.byt b, .byt c] (bop .Add) (.byt (b ++ c)) := .of2 fun _ _ s g hs _ _ _ h1 h2 Q E hQ => by
  (first | obtain rfl := h1.inv | obtain ⟨_, rfl⟩ := h1.inv); (first | obtain rfl := h2.inv | obtain ⟨_, rfl⟩ := h2.inv); exact PySem.W.KBy.add_bytes hsz fun t' k => hQ _ g s.heap k (Grow.refl hs) (.byt _ _)
theorem op_mulB {b : List UInt8} {n : Int} (hb : b ≠ []) (hlo : -1048576 ≤ n) (hn : n ≤ 1048576) (hz : b.length ≤ 16) : OpOk C d [.byt b.toArray, .int n] (bop .Mult) (.byt ((List.replicate n.toNat b).flatten).toArray) := .of2 fun _ _ s g hs _ _ _ h1 h2 Q E hQ => by
  (first | obtain rfl := h1.inv | obtain ⟨_, rfl⟩ := h1.inv); (first | obtain rfl := h2.inv | obtain ⟨_, rfl⟩ := h2.inv); exact PySem.W.bytes_mul_any hb hlo hn hz fun t' k => hQ _ g s.heap k (Grow.refl hs) (.byt _ _)
theorem fn_lenB {b : Array UInt8} (hz : b.size ≤ 1099511627776) : OpOk C d [.byt b] (fop (.builtin "len")) (.int b.size) := .of1 fun _ _ s g hs _ _ h1 Q E hQ => by
  (first | obtain rfl := h1.inv | obtain ⟨_, rfl⟩ := h1.inv); exact PySem.W.len_bytes hz (hQ _ g s.heap _ (Grow.refl hs) (.int _ _))
theorem fn_intI {n : Int} : OpOk C d [.int n] (fop (.type "int")) (.int n) := .of1 fun _ _ s g hs _ _ h1 Q E hQ => by
  (first | obtain rfl := h1.inv | obtain ⟨_, rfl⟩ := h1.inv); exact call_int_int (hQ _ g s.heap s.toks (Grow.refl hs) (.int _ _))
theorem fn_divmodI {a b : Int} (hb : b ≠ 0) (hb2 : b.natAbs < 1073741824) : OpOk C d [.int a, .int b] (fop (.builtin "divmod")) (.tup [.int (a.fdiv b), .int (a.fmod b)]) := .of2 fun _ _ s g hs _ _ _ h1 h2 Q E hQ => by
  (first | obtain rfl := h1.inv | obtain ⟨_, rfl⟩ := h1.inv); (first | obtain rfl := h2.inv | obtain ⟨_, rfl⟩ := h2.inv)
  have Gr := Grow.alloc hs (o := { cls := .type "tuple", data := .seq #[.int (a.fdiv b) s.toks, .int (a.fmod b) (s.toks + 1)] }) rfl
  exact divmod_int hb (hQ _ _ _ _ Gr (.tup _ [.int (a.fdiv b) s.toks, .int (a.fmod b) (s.toks + 1)] 0 _ (gAdd_self ..) (.cons (.int _ _) (.cons (.int _ _) .nil)))) (.inl (PyProof.noPylong_small hb2))
theorem gives_inB {b : Array UInt8} {t u : Tok} {i : Int} (h0 : 0 ≤ i) (h1 : i < 256) : Gives (Builtin.«bytes.__contains__» ⟨[.bytes b t, .int i u], []⟩) (.val (.bool (b.contains i.toNat.toUInt8))) := by
  refine .of_wp fun M A E s Q hq => ?_
  show wpAny M A (Builtin.Bytes.containsIn "bytes.__contains__" (.bytes b t) (.int i u) >>= fun r => _) _ E s
  refine wpAny_bind ?_
  unfold Builtin.Bytes.containsIn
  refine wpAny_bind (wpAny_attempt (wpAny_of_eq (a := i) rfl ?_))
  refine wpAny_bind (wpAny_of_eq PySem.W.KBy.buffer_eq ?_)
  have hn : ¬ ((decide (i < 0) || decide (i ≥ 256)) = true) := by simp; omega
  refine wpAny_ite (PySem.W.KBy.ite_no hn ?_)
  exact wpAny_pure (wpAny_pure ⟨_, rfl, hq⟩)
theorem op_inB {b : Array UInt8} {i : Int} (h0 : 0 ≤ i) (h1 : i < 256) : OpOk C d [.int i, .byt b] (cop .In) (.bool (b.contains i.toNat.toUInt8)) := .of2 fun _ _ s g hs _ _ _ r1 r2 Q E hQ => by
  (first | obtain rfl := r1.inv | obtain ⟨_, rfl⟩ := r1.inv); (first | obtain rfl := r2.inv | obtain ⟨_, rfl⟩ := r2.inv)
  exact in_gives (PySem.W.typeIs_bytes s _ _) PySem.W.FB.slot_bytes_contains PySem.W.FB.entry_bytes_contains (PySem.W.FB.args_bytes_contains_2 _ _) (gives_inB h0 h1) (hQ _ g s.heap s.toks (Grow.refl hs) (.bool _))
theorem Ev.itemB {value slice : Expr} {pos : Pos} {l : List UInt8} {k : Int} (hv : Ev C d env ρ value (.byt l.toArray)) (hi : Ev C d env ρ slice (.int k)) (h0 : 0 ≤ k) (h1 : k < l.length) (hz : l.length ≤ 1099511627776)
    (hs : ∀ t u, subscripted slice false (.bytes l.toArray t) (.int k u) = operate [.bytes l.toArray t, .int k u] (getItem (.bytes l.toArray t) (.int k u)) := by intro _ _; with_unfolding_all rfl)
    (ht : ∀ o r, letTemporaryGo value o r = pure () := by intro _ _; with_unfolding_all rfl) : Ev C d env ρ (.Subscript value slice pos) (.int (l.getD k.toNat 0).toNat) := fun A hA s g X Q E hQ =>
  Subscript_ (hv A hA s g X _ E fun v g' h' tk G r => hi A hA _ g' (X.grow G) _ E fun v' g'' h'' tk' G' r' => by
    (first | obtain rfl := r.inv | obtain ⟨_, rfl⟩ := r.inv); (first | obtain rfl := r'.inv | obtain ⟨_, rfl⟩ := r'.inv)
    exact PySem.W.KBy.item_N hz h0 h1 (hQ _ g'' h'' _ (G.trans G') (.int _ _)) (hs _ _) (fun r => ht _ r))
theorem Ev.sliceB {value e₁ e₂ : Expr} {p pos : Pos} {b : Array UInt8} {i j : Int} {q : PV} (hv : Ev C d env ρ value (.byt b)) (h1 : Ev C d env ρ e₁ (.int i)) (h2 : Ev C d env ρ e₂ (.int j)) (hw : PySem.W.KBy.whole b (some i) (some j) = false) (hz : (PySem.W.KBy.picked b (some i) (some j)).size ≤ 16777216) (hq : q = .byt (PySem.W.KBy.picked b (some i) (some j)))
    (ht : ∀ o r, letTemporaryGo value o r = pure () := by intro _ _; rfl) : Ev C d env ρ (.Subscript value (.Slice (some e₁) (some e₂) Option.none p) pos) q := fun A hA s g X Q E hQ => by
  subst hq
  refine wpAny_Subscript_Slice (T := "bytes") PySem.W.FB.slot_bytes_getitem.lookup (hv A hA s g X _ E fun v g' h' tk G r => ?_) ht
  refine wpAny_Slice ?_
  show wpAny _ A (eval e₁ env) _ _ _
  refine h1 A hA _ g' (X.grow G) _ E fun v₁ g₁ h₁ tk₁ G₁ r₁ => ?_
  show wpAny _ A (eval e₂ env) _ _ _
  refine h2 A hA _ g₁ ((X.grow G).grow G₁) _ E fun v₂ g₂ h₂ tk₂ G₂ r₂ => ?_
  rw [evalPart_none]
  refine wpAny_pure ?_
  (first | obtain rfl := r.inv | obtain ⟨_, rfl⟩ := r.inv); (first | obtain rfl := r₁.inv | obtain ⟨_, rfl⟩ := r₁.inv); (first | obtain rfl := r₂.inv | obtain ⟨_, rfl⟩ := r₂.inv)
  refine ⟨PySem.W.typeIs_bytes _ _ _, ?_⟩
  have Gr := Grow.hidden G₂.sub ({ cls := .type "slice", data := .fields #[.int i ‹Tok›, .int j ‹Tok›, .none] } : Obj)
  exact getItem_meets (PySem.W.typeIs_bytes _ _ _) (by decide) PySem.W.FB.slot_bytes_getitem PySem.W.FB.entry_bytes_getitem (PySem.W.FB.args_bytes_getitem_2 _ _) (PySem.W.KBy.meets_slice b _ _ (.int _ _) (.int _ _) hw)
    ⟨Heap.IsSliceOf.new _ _ _ _, by rw [sizeLine_eq]; exact hz, hQ _ g₂ _ _ (((G.trans G₁).trans G₂).trans (Grow.hidden G₂.sub _)) (.byt _ _)⟩
/-- the truth of a number -/
theorem Tr.int {e : Expr} {n : Int} (he : Ev C d env ρ e (.int n)) (hw : isTrue e env (eval e env) = (do let v ← eval e env; standAt e.pos; holding [v] (truthy v)) := by rfl) : Tr C d env ρ e (n != 0) := fun A hA s g X Q E hQ =>
  wpAny_isTrue_value (he A hA s g X _ E fun v g' h' tk G r => by
    (first | obtain rfl := r.inv | obtain ⟨_, rfl⟩ := r.inv); exact P.truthy_int (hQ g' h' tk G)) hw
end
end Mine
end
section
open PySem PySem.Calls PyProof.Rows
set_option maxRecDepth 100000
set_option maxHeartbeats 600000
namespace Mine
noncomputable def AllIn (ρ : Vars) : Vars → Prop
  | [] => True
  | y :: r => ρ.lookup y.1 = some y.2 ∧ AllIn ρ r
theorem AllIn.mem {ρ : Vars} : ∀ {l : Vars}, AllIn ρ l → ∀ y ∈ l, ρ.lookup y.1 = some y.2
  | [], _, _, h => nomatch h
  | _ :: _, h, y, hy => by
    rcases List.mem_cons.mp hy with rfl | hy
    · exact h.1
    · exact h.2.mem y hy
section
variable {C : Cx} {d : Nat} {env : Env} {σ : PSt} {Post : Option PV → PSt → Prop}
theorem Ex.canon (ρ₂ : Vars) {ρ : Vars} {gr ss} (k : Ex C d env ⟨ρ₂, gr⟩ ss Post) (h : AllIn ρ ρ₂) : Ex C d env ⟨ρ, gr⟩ ss Post :=
  Ex.sub k (fun y q e => h.mem (y, q) (mem_of_lookup e)) rfl
end
noncomputable def apC (k : Nat) : UInt8 := (65 + k).toUInt8
noncomputable def apOf (n : Nat) (acc : List UInt8) : List UInt8 := if h : n = 0 then acc else apOf (n / 16) (apC (n % 16) :: acc)
termination_by n
decreasing_by omega
noncomputable def apS : Array UInt8 := #[65, 66, 67, 68, 69, 70, 71, 72, 73, 74, 75, 76, 77, 78, 79, 80]
theorem ap_pick : ∀ k : Fin 16, PySem.W.KBy.whole apS (some (k.val : Int)) (some ((k.val : Int) + 1)) = false ∧ PySem.W.KBy.picked apS (some (k.val : Int)) (some ((k.val : Int) + 1)) = #[apC k.val] := by decide +kernel
theorem ap_ok {w : World} {d : Nat} {n : Int} (hn : ∀ k, apOf n.natAbs [] = k → k.length ≤ 1000) : CallOk (CC w) (d + 1) (rw_ 9) [.int n] (.byt (apOf n.natAbs []).toArray) := by
  refine CallOk.of (ns := ["num"]) ?_ (by decide +kernel) rfl (by decide +kernel) (by decide +kernel) (by decide +kernel) (by decide +kernel) (by decide +kernel) ?_
  · intro vs hv pm cd doc
    obtain ⟨a, rfl⟩ := ofLen1 hv
    with_unfolding_all rfl
  intro L f cd
  have fe : FEnv (fenv (rw_ 9) L f cd) := ⟨(by with_unfolding_all rfl), rfl, rfl⟩
  with_unfolding_all refine Ex.assign (p := .byt #[]) fe (.inl (by with_unfolding_all rfl)) Ev.byt ?_
  with_unfolding_all refine Ex.assign (p := .byt apS) fe (.inl (by with_unfolding_all rfl)) Ev.byt ?_
  with_unfolding_all refine Ex.assign (p := .int (if n < 0 then -n else n)) fe (.inl (by with_unfolding_all rfl)) (Ev.callT fe (by with_unfolding_all rfl) bl b_int (Evs.cons (Ev.callB fe (by with_unfolding_all rfl) bl b_abs (Evs.cons (Ev.nm (by assumption) (by with_unfolding_all rfl) (by with_unfolding_all rfl)) Evs.nil) fn_absI) Evs.nil) fn_intI) ?_
  have e1 : (if n < 0 then -n else n) = (n.natAbs : Int) := by split <;> omega
  rw [e1]
  refine Ex.canon [("num", .int (n.natAbs : Int)), ("val", .byt ([] : List UInt8).toArray), ("AP", .byt apS)] ?_ (by with_unfolding_all exact ⟨rfl, rfl, rfl, trivial⟩)
  generalize hR : apOf n.natAbs [] = R
  have hRl := hn R hR
  refine Ex.while (fun k σ' => ∃ acc, σ' = ⟨[("num", .int (k : Int)), ("val", .byt acc.toArray), ("AP", .byt apS)], none⟩ ∧ apOf k acc = R ∧ acc.length ≤ 1000) (fun σ' => match σ'.vars with | (_, .int n) :: _ => n != 0 | _ => false) n.natAbs ⟨[], rfl, hR, by simp⟩ ?_ ?_ ?_
  · rintro k σ' ⟨acc, rfl, h1, h2⟩
    with_unfolding_all exact Tr.int (Ev.nm (by assumption) (by with_unfolding_all rfl) (by with_unfolding_all rfl))
  · rintro k σ' ⟨acc, rfl, h1, h2⟩ hb
    have hk : k ≠ 0 := by simpa using hb
    with_unfolding_all refine Ex.assignTup (xs := ["num", "mod"]) fe ?_ (Ev.callB fe (by with_unfolding_all rfl) bl b_divmod (Evs.cons (Ev.nm (by assumption) (by with_unfolding_all rfl) (by with_unfolding_all rfl)) (Evs.cons Ev.int Evs.nil)) (fn_divmodI (by decide) (by decide))) rfl ?_ ⟨fun x => if x = "num" then ⟨54, 8, 54, 11⟩ else ⟨54, 13, 54, 16⟩, (by with_unfolding_all rfl)⟩
    · intro x hx
      simp only [List.mem_cons, List.not_mem_nil, or_false] at hx
      rcases hx with rfl | rfl <;> exact .inl (by with_unfolding_all rfl)
    have e2 : (k : Int).fdiv 16 = ((k / 16 : Nat) : Int) := by rw [Int.fdiv_eq_ediv_of_nonneg _ (by decide)]; (clear hn fe e1 hR hRl h1 h2 hb hk; omega)
    have e3 : (k : Int).fmod 16 = ((k % 16 : Nat) : Int) := by rw [Int.fmod_eq_emod_of_nonneg _ (by decide)]; (clear hn fe e1 hR hRl h1 h2 hb hk e2; omega)
    rw [e2, e3]
    obtain ⟨w1, w2⟩ := ap_pick ⟨k % 16, Nat.mod_lt _ (by decide)⟩
    dsimp only at w1 w2
    have h3 : apOf (k / 16) (apC (k % 16) :: acc) = R := by rw [← h1, apOf.eq_def k acc, dif_neg hk]
    have h4 : acc.length + 1 ≤ 1000 := by
      have : ∀ m (a : List UInt8), a.length ≤ (apOf m a).length := by
        intro m
        induction m using Nat.strongRecOn with
        | ind m ih =>
          intro a
          unfold apOf
          split
          · exact Nat.le_refl _
          · have := ih (m / 16) (by (clear hn fe e1 hR hRl h1 h2 hb hk e2 e3 w1 w2 h3 ih; omega)) (apC (m % 16) :: a)
            simp only [List.length_cons] at this
            (clear hn fe e1 hR hRl h1 h2 hb hk e2 e3 w1 w2 h3 ih; omega)
      have h5 := this (k / 16) (apC (k % 16) :: acc)
      rw [h3] at h5
      simp only [List.length_cons] at h5
      (clear hn fe e1 hR h1 hb hk e2 e3 w1 w2 h3 this; omega)
    with_unfolding_all refine Ex.assign (p := .byt (apC (k % 16) :: acc).toArray) fe (.inl (by with_unfolding_all rfl)) (Ev.to (Ev.bin (Ev.sliceB (q := .byt #[apC (k % 16)]) (Ev.nm (by assumption) (by with_unfolding_all rfl) (by with_unfolding_all rfl)) (Ev.nm (by assumption) (by with_unfolding_all rfl) (by with_unfolding_all rfl)) (Ev.bin (Ev.nm (by assumption) (by with_unfolding_all rfl) (by with_unfolding_all rfl)) Ev.int op_add) w1 (by rw [w2]; simp) (by rw [w2])) (Ev.nm (by assumption) (by with_unfolding_all rfl) (by with_unfolding_all rfl)) (op_addB ?_)) ?_) (Ex.canon [("num", .int ((k / 16 : Nat) : Int)), ("val", .byt (apC (k % 16) :: acc).toArray), ("AP", .byt apS)] (Ex.nil ⟨rfl, k / 16, by (clear hn fe e1 hR hRl h1 h2 hb e2 w1 w2 h3 h4; omega), apC (k % 16) :: acc, rfl, h3, by simp; (clear hn fe e1 hR hRl h1 hb hk e2 e3 w1 w2 h3; omega)⟩) (by with_unfolding_all exact ⟨rfl, rfl, rfl, trivial⟩))
    · simp; (clear hn fe e1 hR hRl h1 hb hk e2 e3 w1 w2 h3; omega)
    · simp
  · rintro σ' k hb ⟨acc, rfl, h1, h2⟩
    have hk : k = 0 := by simpa using hb
    subst hk
    have : acc = R := by rw [← h1]; unfold apOf; rfl
    subst this
    with_unfolding_all refine Ex.ret (Ev.nm (by assumption) (by with_unfolding_all rfl) (by with_unfolding_all rfl)) rfl
end Mine
end
section
open PySem PySem.Calls PyProof.Rows
set_option maxRecDepth 100000
set_option maxHeartbeats 600000
namespace Mine
theorem apOf_app (n : Nat) (acc : List UInt8) : apOf n acc = apOf n [] ++ acc := by
  induction n using Nat.strongRecOn generalizing acc with
  | ind n ih =>
    rw [apOf.eq_def n acc, apOf.eq_def n []]
    split
    · rfl
    · rw [ih (n / 16) (by omega), ih (n / 16) (by omega) [_], List.append_assoc]; rfl
noncomputable def dg : Nat → Nat → List UInt8
  | 0, _ => []
  | L + 1, N => dg L (N / 16) ++ [apC (N % 16)]
theorem dg_len : ∀ L N, (dg L N).length = L
  | 0, _ => rfl
  | L + 1, N => by unfold dg; rw [List.length_append, dg_len L]; rfl
theorem dg_zero : ∀ L, dg L 0 = List.replicate L 65
  | 0 => rfl
  | L + 1 => by
    unfold dg
    rw [Nat.zero_div, dg_zero L, List.replicate_succ']; rfl
theorem apOf_dg : ∀ L N, N < 16 ^ L → (apOf N []).length ≤ L ∧ List.replicate (L - (apOf N []).length) 65 ++ apOf N [] = dg L N
  | 0, N, h => by
    have : N = 0 := by simpa using h
    subst this
    rw [apOf.eq_def]; simp [dg]
  | L + 1, N, h => by
    by_cases hz : N = 0
    · subst hz
      rw [apOf.eq_def, dg_zero]; simp
    · obtain ⟨h1, h2⟩ := apOf_dg L (N / 16) (by rw [Nat.pow_succ] at h; omega)
      rw [apOf.eq_def, dif_neg hz, apOf_app]
      refine ⟨by simp; omega, ?_⟩
      unfold dg
      rw [← h2]
      simp
theorem dg_get : ∀ L N i, i < L → (dg L N).getD i 0 = apC (N / 16 ^ (L - 1 - i) % 16)
  | 0, _, i, h => by omega
  | L + 1, N, i, h => by
    unfold dg
    rw [List.getD_eq_getElem?_getD]
    by_cases hi : i < L
    · rw [List.getElem?_append_left (by rw [dg_len]; exact hi), ← List.getD_eq_getElem?_getD, dg_get L (N / 16) i hi]
      congr 2
      rw [Nat.div_div_eq_div_mul]
      have : L + 1 - 1 - i = (L - 1 - i) + 1 := by omega
      rw [this, Nat.pow_succ, Nat.mul_comm]
    · have : i = L := by omega
      subst this
      rw [List.getElem?_append_right (by rw [dg_len]; exact Nat.le_refl _), dg_len]
      simp
noncomputable def numL (rd : List Int) : List Int := (List.range (rd.length + 2)).map fun (s : Nat) => at_ rd ((s : Int) - 1) * 16 ^ s
noncomputable def spW (N : Nat) (s : Nat) : Int := if (#[68, 69, 70, 72] : Array UInt8).contains (apC (N / 16 ^ (s + 2) % 16)) then 1 else 0
theorem rep_flat (n : Nat) : (List.replicate n [(65 : UInt8)]).flatten = List.replicate n 65 := by
  induction n with
  | zero => rfl
  | succ n ih => rw [List.replicate_succ, List.flatten_cons, ih, List.replicate_succ]; rfl
theorem apC_toNat (k : Nat) : apC k = apC k := rfl
theorem spelt_ok {w : World} {d : Nat} {rd : List Int} {sg : Int} (hn : 0 < rd.length) (hn2 : rd.length ≤ 100) (hs : sg = 1 ∨ sg = -1) (hat : ∀ i, (at_ rd i).natAbs ≤ 1) (hN : (1057 * (numL rd).sum).natAbs < 16 ^ (rd.length + 4)) :
    CallOk (CC w) (d + 1 + 1) (rw_ 16) [.lst (iL rd), .int sg] (.lst (iL ((List.range rd.length).map (spW (1057 * (numL rd).sum).natAbs)))) := by
  refine CallOk.of (ns := ["road", "sign"]) ?_ (by decide +kernel) rfl (by decide +kernel) (by decide +kernel) (by decide +kernel) (by decide +kernel) (by decide +kernel) ?_
  · intro vs hv pm cd doc
    obtain ⟨a, b, rfl⟩ := ofLen2 hv
    with_unfolding_all rfl
  intro L f cd
  have fe : FEnv (fenv (rw_ 16) L f cd) := ⟨(by with_unfolding_all rfl), rfl, rfl⟩
  with_unfolding_all refine Ex.assign (p := .int rd.length) fe (.inr ⟨by with_unfolding_all rfl, by with_unfolding_all rfl⟩) (Ev.callB fe (by with_unfolding_all rfl) bl b_len (Evs.cons (Ev.nm (by assumption) (by with_unfolding_all rfl) (by with_unfolding_all rfl)) Evs.nil) (fn_lenI (by (clear hs hat hN fe; omega)))) ?_
  with_unfolding_all refine Ex.assign (p := .int (numL rd).sum) fe (.inl (by with_unfolding_all rfl)) (Ev.callB fe (by with_unfolding_all rfl) bl b_sum (Evs.cons (Ev.comp (cel := false) (items := rng 0 (rd.length + 2) 1) (qs := iL (numL rd)) fe (CSc.of (by with_unfolding_all rfl) (by decide +kernel) (by with_unfolding_all rfl) (by with_unfolding_all rfl) (by intro _ _; with_unfolding_all rfl) (by intro _; with_unfolding_all rfl)) (Itb.range1 fe (by with_unfolding_all rfl) bl b_range (Ev.bin (Ev.nm (by assumption) (by with_unfolding_all rfl) (by with_unfolding_all rfl)) Ev.int op_add) (by first | exact small0 (Nat.le_trans hn2 (by decide)) | exact small0 (by omega) | exact small1 (by (clear hn hn2 hs hat hN fe; omega)) (by (clear hs hat hN fe; omega))) (by first | exact rangeSize0 _ | exact rangeSize1 _ _ _ (by omega))) (by simp [rng_length, iL, numL]) (by rw [rng_length]; (clear hs hat hN fe; omega)) ?_) Evs.nil) fn_sumL) ?_
  · refine rng_turn (f := fun e => at_ rd ((e : Int) - 1) * 16 ^ e) fun e he => ⟨rfl, fun F fe2 => ?_⟩
    have h1 := hat ((e : Int) - 1)
    with_unfolding_all refine Ev.to (Ev.bin (at_get' (i := (e : Int) - 1) hn (Ev.nm (by assumption) (by with_unfolding_all rfl) (by with_unfolding_all rfl)) (Ev.bin (Ev.bin (Ev.nm (by assumption) (by with_unfolding_all rfl) (by with_unfolding_all rfl)) Ev.int op_sub) (Ev.nm (by assumption) (by with_unfolding_all rfl) (by with_unfolding_all rfl)) (op_mod (by (clear hs hat hN fe he fe2 h1; omega)))) ?_ (by (clear hs hat hN fe he fe2 h1; omega))) (Ev.bin Ev.int (Ev.nm (by assumption) (by with_unfolding_all rfl) (by with_unfolding_all rfl)) (op_pow (by (clear hn hn2 hs hat hN fe he fe2 h1; omega)) (by (clear hs hat hN fe fe2 h1; omega)) (by decide))) (op_mul (.inl (by (clear hn hn2 hs hat hN fe he fe2; omega))))) ?_
    · congr 1; (clear hn hn2 hs hat hN fe he fe2 h1; omega)
    · have : ((0 : Int) + (e : Int) * 1).toNat = e := by omega
      rw [this]
  generalize hNum : (numL rd).sum = N at hN
  obtain ⟨k1, k2⟩ := apOf_dg (rd.length + 4) (1057 * N).natAbs hN
  have hab : (sg * 1057 * N).natAbs = (1057 * N).natAbs := by
    rcases hs with rfl | rfl <;> simp [Int.natAbs_mul]
  with_unfolding_all refine Ex.assign (p := .byt (apOf (1057 * N).natAbs []).toArray) fe (.inr ⟨by with_unfolding_all rfl, by with_unfolding_all rfl⟩) (Ev.to (Ev.callF (r := rw_ 9) fe (by with_unfolding_all rfl) m_9 (Evs.cons (Ev.bin (Ev.bin (Ev.nm (by assumption) (by with_unfolding_all rfl) (by with_unfolding_all rfl)) Ev.int (op_mul (.inr (by decide)))) (Ev.nm (by assumption) (by with_unfolding_all rfl) (by with_unfolding_all rfl)) (op_mul (.inl ?_))) Evs.nil) (ap_ok ?_) (by decide +kernel)) ?_) ?_
  · rcases hs with rfl | rfl <;> decide
  · intro k hk
    rw [hab] at hk; rw [← hk]; (clear hs hat fe hNum hN k2 hab hk; omega)
  · rw [hab]
  with_unfolding_all refine Ex.assign (p := .byt (dg (rd.length + 4) (1057 * N).natAbs).toArray) fe (.inr ⟨by with_unfolding_all rfl, by with_unfolding_all rfl⟩) (Ev.to (Ev.bin (Ev.bin Ev.byt (Ev.bin (Ev.bin (Ev.nm (by assumption) (by with_unfolding_all rfl) (by with_unfolding_all rfl)) Ev.int op_add) (Ev.callB fe (by with_unfolding_all rfl) bl b_len (Evs.cons (Ev.nm (by assumption) (by with_unfolding_all rfl) (by with_unfolding_all rfl)) Evs.nil) (fn_lenB (by simp; (clear hs hat fe hNum hN k2 hab; omega)))) op_sub) (op_mulB (by decide) ?_ ?_ (by decide))) (Ev.nm (by assumption) (by with_unfolding_all rfl) (by with_unfolding_all rfl)) (op_addB ?_)) ?_) ?_
  · simp; (clear hn hn2 hs hat fe hNum hN k2 hab; omega)
  · simp; (clear hs hat fe hNum hN k1 k2 hab; omega)
  · simp; (clear hs hat fe hNum hN k2 hab; omega)
  · rw [rep_flat, List.append_toArray, ← k2]
    congr 4
    simp; (clear hs hat fe hNum hN k2 hab; omega)
  with_unfolding_all refine Ex.ret (Ev.comp (cel := false) (items := rng 0 rd.length 1) (qs := iL ((List.range rd.length).map (spW (1057 * N).natAbs))) fe (CSc.of (by with_unfolding_all rfl) (by decide +kernel) (by with_unfolding_all rfl) (by with_unfolding_all rfl) (by intro _ _; with_unfolding_all rfl) (by intro _; with_unfolding_all rfl)) (Itb.range1 fe (by with_unfolding_all rfl) bl b_range (Ev.nm (by assumption) (by with_unfolding_all rfl) (by with_unfolding_all rfl)) (by first | exact small0 (Nat.le_trans hn2 (by decide)) | exact small0 (by omega) | exact small1 (by omega) (by omega)) (by first | exact rangeSize0 _ | exact rangeSize1 _ _ _ (by omega))) (by simp [rng_length, iL]) (by rw [rng_length]; (clear hs hat fe hNum hN k1 k2 hab; omega)) ?_) rfl
  refine rng_turn (f := fun e => spW (1057 * N).natAbs e) fun e he => ⟨rfl, fun F fe2 => ?_⟩
  have e1 : ((rd.length : Int) + 1 - (0 + (e : Int) * 1)).toNat = rd.length + 1 - e := by clear hN hab k1 k2 hs hat; (clear hn hn2 fe hNum fe2; omega)
  have e2 : (dg (rd.length + 4) (1057 * N).natAbs).getD ((rd.length : Int) + 1 - (0 + (e : Int) * 1)).toNat 0 = apC ((1057 * N).natAbs / 16 ^ (e + 2) % 16) := by
    rw [e1, dg_get _ _ _ (by (clear hn hn2 hs hat fe hNum hN k1 k2 hab fe2 e1; omega))]
    have : rd.length + 4 - 1 - (rd.length + 1 - e) = e + 2 := by (clear hn hn2 hs hat fe hNum hN k1 k2 hab fe2 e1; omega)
    rw [this]
  generalize hx : apC ((1057 * N).natAbs / 16 ^ (e + 2) % 16) = x at e2
  have e3 : spW (1057 * N).natAbs e = if (#[68, 69, 70, 72] : Array UInt8).contains x then 1 else 0 := by unfold spW; rw [hx]
  rw [e3]
  have e4 : (((dg (rd.length + 4) (1057 * N).natAbs).getD ((rd.length : Int) + 1 - (0 + (e : Int) * 1)).toNat 0).toNat : Int).toNat.toUInt8 = x := by
    rw [e2]; simp
  generalize hb : (#[68, 69, 70, 72] : Array UInt8).contains x = b
  have e5 : (#[68, 69, 70, 72] : Array UInt8).contains (((dg (rd.length + 4) (1057 * N).natAbs).getD ((rd.length : Int) + 1 - (0 + (e : Int) * 1)).toNat 0).toNat : Int).toNat.toUInt8 = b := by rw [e4]; exact hb
  subst e5
  with_unfolding_all refine Ev.ite (Tr.cmp (Ev.itemB (l := dg (rd.length + 4) (1057 * N).natAbs) (Ev.nm (by assumption) (by with_unfolding_all rfl) (by with_unfolding_all rfl)) (Ev.bin (Ev.bin (Ev.nm (by assumption) (by with_unfolding_all rfl) (by with_unfolding_all rfl)) Ev.int op_add) (Ev.nm (by assumption) (by with_unfolding_all rfl) (by with_unfolding_all rfl)) op_sub) (by (clear hn hn2 hs hat fe hNum hN k1 k2 hab fe2 e1 hx e2 e3 e4 hb; omega)) (by rw [dg_len]; (clear hn hn2 hs hat fe hNum hN k1 k2 hab he fe2 e1 hx e2 e3 e4 hb; omega)) (by rw [dg_len]; (clear hs hat fe hNum hN k1 k2 hab he fe2 e1 hx e2 e3 e4 hb; omega))) Ev.byt (op_inB ?_ ?_)) ?_
  · (clear hn hn2 hs hat fe hNum hN k1 k2 hab he fe2 e1 hx e2 e3 e4 hb; omega)
  · have := UInt8.toNat_lt ((dg (rd.length + 4) (1057 * N).natAbs).getD ((rd.length : Int) + 1 - (0 + (e : Int) * 1)).toNat 0)
    (clear hn hn2 hs hat fe hNum hN k1 k2 hab he fe2 e1 hx e2 e3 e4 hb; omega)
  · generalize (#[68, 69, 70, 72] : Array UInt8).contains (((dg (rd.length + 4) (1057 * N).natAbs).getD ((rd.length : Int) + 1 - (0 + (e : Int) * 1)).toNat 0).toNat : Int).toNat.toUInt8 = b
    (first | obtain rfl := Option.some.inj b | cases b)
    · with_unfolding_all exact Ev.int
    · with_unfolding_all exact Ev.int
end Mine
end
section
open PySem PySem.Calls PyProof.Rows
set_option maxRecDepth 100000
namespace Mine
section
variable {C : Cx} {d : Nat} {env : Env} {ρ : Vars}
/-! lists of numbers and of pairs, held one against the other -/
theorem tup_same {A : Around} {s : Shared} {g : Ghost} (hs : GSub g s.heap) (hu : A.units + 2 < cLine) {v v' : Value} {l : List PV} (r : Rep g v (.tup l)) (r' : Rep g v' (.tup l)) (he : ∀ (p : PV) (x y : Value), p ∈ l → Rep g x p → Rep g y p → SeqAt.EqAt A.in1 s x y true) : SeqAt.EqAt A s v v' true := by
  obtain ⟨a, va, n, rfl, ha, ra⟩ := r.isTup
  obtain ⟨b, vb, m, rfl, hb, rb⟩ := r'.isTup
  by_cases hab : a = b
  · subst hab; exact SeqAt.EqAt.same _
  · refine SeqAt.EqAt.of_refs hab ?_
    have hl1 : va.toArray.size = l.length := by rw [List.size_toArray, ra.length]
    have hl2 : vb.toArray.size = l.length := by rw [List.size_toArray, rb.length]
    have key := SeqAt.RcAt.tuples (A := A) (s := s) (l := a) (b := b) (items := va.toArray) (items2 := vb.toArray) (e := fun _ => true) ⟨_, hs _ _ ha, rfl, n, rfl⟩ ⟨_, hs _ _ hb, rfl, m, rfl⟩ (by (clear hs he r ha ra r' hb rb hab hl1 hl2; omega)) (fun j h1 h2 => ?_)
    · have e : ((List.range (min va.toArray.size vb.toArray.size)).all (fun _ => true) && va.toArray.size == vb.toArray.size) = true := by rw [hl1, hl2]; simp
      rw [e] at key; exact key
    · have hj : j < l.length := by omega
      obtain ⟨p, hp⟩ : ∃ p, l[j]? = some p := ⟨l[j], by simp [hj]⟩
      obtain ⟨x, e1, e2⟩ := ra.get hp
      obtain ⟨y, e3, e4⟩ := rb.get hp
      have e5 : va.toArray[j] = x := by simpa [List.getElem?_eq_some_iff] using (List.getElem?_eq_some_iff.mp e1).2
      have e6 : vb.toArray[j] = y := by simpa [List.getElem?_eq_some_iff] using (List.getElem?_eq_some_iff.mp e3).2
      rw [e5, e6]
      exact he p x y (List.mem_of_getElem? hp) e2 e4
theorem int_same {A : Around} {s : Shared} {g : Ghost} {x y : Value} {i : Int} (r : Rep g x (.int i)) (r' : Rep g y (.int i)) : SeqAt.EqAt A s x y true := by
  obtain ⟨t, rfl⟩ := r.inv
  obtain ⟨u, rfl⟩ := r'.inv
  have := SeqAt.EqAt.int_int (A := A) (s := s) i t i u
  rw [beq_self_eq_true] at this; exact this
theorem none_same {A : Around} {s : Shared} {g : Ghost} {x y : Value} (r : Rep g x .none) (r' : Rep g y .none) : SeqAt.EqAt A s x y true := by
  obtain rfl := r.inv
  obtain rfl := r'.inv
  exact SeqAt.EqAt.same _
/-- pairs of numbers, or numbers: the same -/
noncomputable def PV.lev2 (p : PV) : Bool := match p with
  | .int _ => true
  | .none => true
  | .tup l => l.all fun q => match q with | .int _ => true | .none => true | _ => false
  | _ => false
theorem lev2_same {A : Around} {s : Shared} {g : Ghost} (hs : GSub g s.heap) (hu : A.units + 2 < cLine) {x y : Value} {p : PV} (h : p.lev2 = true) (r : Rep g x p) (r' : Rep g y p) : SeqAt.EqAt A s x y true := by
  cases p with
  | int i => exact int_same r r'
  | none => exact none_same r r'
  | tup l =>
    refine tup_same hs hu r r' fun q x y hq rx ry => ?_
    have := List.all_eq_true.mp h q hq
    cases q with
    | int i => exact int_same rx ry
    | none => exact none_same rx ry
    | _ => exact nomatch this
  | _ => exact nomatch h
theorem op_neSame {ps : List PV} (h : ∀ p ∈ ps, p.lev2 = true) : OpOk C d [.lst ps, .lst ps] (cop .NotEq) (.bool false) := .of2 fun A hA s g hs _ v v' r r' Q E hQ => by
  obtain ⟨a, va, n, rfl, ha, ra⟩ := r.isList
  obtain ⟨b, vb, m, rfl, hb, rb⟩ := r'.isList
  have hl1 : va.toArray.size = ps.length := by rw [List.size_toArray, ra.length]
  have hl2 : vb.toArray.size = ps.length := by rw [List.size_toArray, rb.length]
  have hu := hA.units
  have key := SeqAt.RcNeAt.lists (A := A) (s := s) (l := a) (b := b) (items := va.toArray) (items2 := vb.toArray) (e := fun _ => true) (isList_lobj (hs _ _ ha)) (isList_lobj (hs _ _ hb)) (by rw [hl1, hl2]) (by (clear h hA hs hQ r ha ra r' hb rb hl1 hl2; omega)) (fun j h1 h2 => by
    have hj : j < ps.length := by omega
    obtain ⟨p, hp⟩ : ∃ p, ps[j]? = some p := ⟨ps[j], by simp [hj]⟩
    obtain ⟨x, e1, e2⟩ := ra.get hp
    obtain ⟨y, e3, e4⟩ := rb.get hp
    have e5 : va.toArray[j] = x := by simpa [List.getElem?_eq_some_iff] using (List.getElem?_eq_some_iff.mp e1).2
    have e6 : vb.toArray[j] = y := by simpa [List.getElem?_eq_some_iff] using (List.getElem?_eq_some_iff.mp e3).2
    rw [e5, e6]
    exact lev2_same hs (by show A.units + 1 + 2 < cLine; (clear h hA hs hQ r ha ra r' hb rb hl1 hl2 h1 h2 hj hp e1 e2 e3 e4 e5 e6; omega)) (h p (List.mem_of_getElem? hp)) e2 e4)
  have e : (!(List.range va.toArray.size).all fun _ => true) = false := by simp
  rw [e] at key
  exact key _ _ E Q (hQ _ g s.heap s.toks (Grow.refl hs) (.bool _))
theorem iL_lev2 (ns : List Int) : ∀ p ∈ iL ns, p.lev2 = true := fun p hp => by
  obtain ⟨n, _, rfl⟩ := List.mem_map.mp hp; rfl
/-! lists put together -/
theorem op_addL {ps qs : List PV} (hsz : ps.length + qs.length ≤ 1000000) : OpOk C d [.lst ps, .lst qs] (bop .Add) (.lst (ps ++ qs)) := .of2 fun A hA s g hs _ v v' r r' Q E hQ => by
  obtain ⟨a, va, n, rfl, ha, ra⟩ := r.isList
  obtain ⟨b, vb, m, rfl, hb, rb⟩ := r'.isList
  have e : va.toArray ++ vb.toArray = (va ++ vb).toArray := by simp
  refine concat_meets ⟨_, hs _ _ ha, rfl⟩ ⟨_, hs _ _ hb, rfl⟩ noFill_list_add seq_list_add PySem.F.slot_list_add PySem.F.entry_list_add (PySem.F.args_list_add_2 _ _) (list_addW a b va.toArray vb.toArray n m Option.none Option.none #[] #[] (by rw [List.size_toArray, List.size_toArray, ra.length, rb.length, sizeLine_eq]; omega)) ⟨hs _ _ ha, hs _ _ hb, ?_⟩
  rw [e]
  have Gr := Grow.alloc hs (o := { cls := .type "list", data := .seq (va ++ vb).toArray }) rfl
  exact hQ _ _ _ _ Gr (.lst _ (va ++ vb) 0 _ (gAdd_self ..) ((ra.mono Gr.le).append (rb.mono Gr.le)))
theorem Reps.repl {g : Ghost} {vs : List Value} {ps : List PV} (r : Reps g vs ps) : ∀ n, Reps g (List.replicate n vs).flatten (List.replicate n ps).flatten
  | 0 => .nil
  | n + 1 => by rw [List.replicate_succ, List.replicate_succ, List.flatten_cons, List.flatten_cons]; exact r.append (Reps.repl r n)
theorem op_mulL {ps : List PV} {x : Int} (hlo : -1000000 ≤ x) (hhi : x ≤ 1000) (hsz : ps.length ≤ 1000) : OpOk C d [.lst ps, .int x] (bop .Mult) (.lst (List.replicate x.toNat ps).flatten) := .of2 fun A hA s g hs _ v v' r r' Q E hQ => by
  obtain ⟨a, va, n, rfl, ha, ra⟩ := r.isList
  (first | obtain rfl := r'.inv | obtain ⟨_, rfl⟩ := r'.inv)
  have hz : va.toArray.size * x.toNat ≤ 1000 * 1000 := Nat.mul_le_mul (by rw [List.size_toArray, ra.length]; exact hsz) (by omega)
  have hz2 : va.length * x.toNat ≤ 1000 * 1000 := by simpa using hz
  refine wpAny_binaryOp_repeat_ref (T := "list") (U := "int") (by decide) ⟨_, hs _ _ ha, rfl⟩ (fun s' => typeIs_int s' x _) noFill_list_mul F.fills_int_mul F.slot_int_rmul repeat_list F.slot_int_index.lookup
    (call_meets F.slot_int_rmul (typeIs_int s x _) F.entry_int_rmul (F.args_int_rmul_2 _ _) (int___rmul___int_list x _ a va.toArray n)
      ⟨hs _ _ ha, rfl, ⟨_, hs _ _ ha, rfl⟩, call_meets F.slot_list_mul ⟨_, hs _ _ ha, rfl⟩ F.entry_list_mul (F.args_list_mul_2 _ _)
        (AutoListH.list___mul___list_int_3 a va.toArray n x _ (by simp [Builtin.List.listFitsIndex]; (clear hsz hA hs hQ r ha ra r' hz hz2; omega)) (by omega) (by simp [Builtin.List.listTooLong, sizeLine]; omega))
        ⟨hs _ _ ha, ?_⟩⟩)
  rw [listMul_foldl_if]
  have Gr := Grow.alloc hs (o := { cls := .type "list", data := .seq (List.replicate x.toNat va.toArray.toList).flatten.toArray }) rfl
  exact hQ _ _ _ _ Gr (.lst _ _ 0 _ (gAdd_self ..) (Reps.repl (ra.mono Gr.le) x.toNat))
/-! or, and -/
theorem Ev.orN {x y : Expr} {pos p} (hx : Ev C d env ρ x .none) (hy : Ev C d env ρ y p) : Ev C d env ρ (.BoolOp .Or [x, y] pos) p := fun A hA s g X Q E hQ =>
  wpAny_Or2 (hx A hA s g X _ E fun v g' h' tk G r => by
    (first | obtain rfl := r.inv | obtain ⟨_, rfl⟩ := r.inv)
    exact wpAny_pure (hy A hA _ g' (X.grow G) Q E fun v g'' h'' tk' G' r' => hQ v g'' h'' tk' (G.trans G') r'))
theorem Ev.orI {x y : Expr} {pos} {n m : Int} (hx : Ev C d env ρ x (.int n)) (hy : Ev C d env ρ y (.int m)) : Ev C d env ρ (.BoolOp .Or [x, y] pos) (.int (if n != 0 then n else m)) := fun A hA s g X Q E hQ =>
  wpAny_Or2 (hx A hA s g X _ E fun v g' h' tk G r => by
    (first | obtain rfl := r.inv | obtain ⟨_, rfl⟩ := r.inv)
    refine P.truthy_int ?_
    cases h : n != 0 with
    | true =>
      rw [h] at hQ
      exact hQ _ g' h' tk G (.int _ _)
    | false =>
      rw [h] at hQ
      exact hy A hA _ g' (X.grow G) Q E fun v g'' h'' tk' G' r' => hQ v g'' h'' tk' (G.trans G') r')
theorem Tr.andF {x : Expr} {r : List Expr} {pos} (hx : Tr C d env ρ x false) : Tr C d env ρ (.BoolOp .And (x :: r) pos) false := fun A hA s g X Q E hQ =>
  wpAny_isTrue_BoolOp (wpAny_allTrue_And_cons (hx A hA s g X _ E fun g' h' tk G => hQ g' h' tk G))
theorem Tr.and2 {x y : Expr} {pos} {b : Bool} (hx : Tr C d env ρ x true) (hy : Tr C d env ρ y b) : Tr C d env ρ (.BoolOp .And [x, y] pos) b := fun A hA s g X Q E hQ =>
  wpAny_isTrue_BoolOp (wpAny_allTrue_And_cons (hx A hA s g X _ E fun g' h' tk G => wpAny_allTrue_And_cons (hy A hA _ g' (X.grow G) _ E fun g'' h'' tk' G' => by
    cases b with
    | true => exact wpAny_allTrue_And_nil (hQ g'' h'' tk' (G.trans G'))
    | false => exact hQ g'' h'' tk' (G.trans G'))))
theorem Tr.or2 {x y : Expr} {pos} {b : Bool} (hx : Tr C d env ρ x false) (hy : Tr C d env ρ y b) : Tr C d env ρ (.BoolOp .Or [x, y] pos) b := fun A hA s g X Q E hQ =>
  wpAny_isTrue_BoolOp (wpAny_allTrue_Or_cons (hx A hA s g X _ E fun g' h' tk G => wpAny_allTrue_Or_cons (hy A hA _ g' (X.grow G) _ E fun g'' h'' tk' G' => by
    cases b with
    | true => exact hQ g'' h'' tk' (G.trans G')
    | false => exact wpAny_allTrue_Or_nil (hQ g'' h'' tk' (G.trans G')))))
theorem fn_typeI {n : Int} : OpOk C d [.int n] (fop (.type "type")) (.typ "int") := .of1 fun _ _ s g hs _ _ h1 Q E hQ => by
  (first | obtain rfl := h1.inv | obtain ⟨_, rfl⟩ := h1.inv); exact call_type_of (typeIs_int s _ _) (by decide) (hQ _ g s.heap s.toks (Grow.refl hs) (.typ _))
theorem op_isNotT {X : String} : OpOk C d [.typ X, .typ X] (cop .IsNot) (.bool false) := .of2 fun _ _ s g hs _ _ _ h1 h2 Q E hQ => by
  (first | obtain rfl := h1.inv | obtain ⟨_, rfl⟩ := h1.inv); (first | obtain rfl := h2.inv | obtain ⟨_, rfl⟩ := h2.inv); exact isnot_type_same (hQ _ g s.heap s.toks (Grow.refl hs) (.bool _))
theorem Ev.count {value e : Expr} {apos pos : Pos} {ns : List Int} {k : Int} (hv : Ev C d env ρ value (.lst (iL ns))) (he : Ev C d env ρ e (.int k))
    (hb : attributeBase value "count" env (eval value env) = eval value env := by rfl) (hline : (apos.endLine == pos.line) = true := by rfl) (htrees : backTo pos (starEach [e] env) = [(false, eval e env)] := by rfl) :
    Ev C d env ρ (.Call (.Attribute value "count" apos) [e] [] pos) (.int (ns.count k)) := fun A hA s g X Q E hQ =>
  wpAny_Call_method1_late hb hline htrees (hv A hA s g X _ E fun v g' h' tk G r => by
    obtain ⟨a, its, n, rfl, ha, rs⟩ := r.isList
    have hi := rs.iL
    refine ⟨"list", "list.count", PySem.F.plainAttrs_list, PySem.F.slot_list_count, PySem.F.type_list_count, ⟨_, G.sub _ _ ha, rfl⟩, fun b hb' => by cases hb'; exact ⟨_, G.sub _ _ ha, rfl⟩, ?_⟩
    refine PySem.P.count_list (he A hA _ g' (X.grow G) _ E fun v' g'' h'' tk' G' r' => ?_)
    (first | obtain rfl := r'.inv | obtain ⟨_, rfl⟩ := r'.inv)
    refine ⟨its.toArray, n, isInt k, G'.sub _ _ (G'.le _ _ ha), fun y hy => ?_, ?_⟩
    · have : ∀ {vs : List Value} {ns : List Int}, IntsAre vs ns → ∀ y ∈ vs, ∃ i t, y = .int i t := by
        intro vs ns h
        induction h with
        | nil => intro y hy; cases hy
        | cons n t _ ih =>
          intro y hy
          rcases List.mem_cons.mp hy with rfl | hy
          · exact ⟨n, t, rfl⟩
          · exact ih y hy
      obtain ⟨i, t, rfl⟩ := this hi y (by simpa using hy)
      exact MeetsSeq.EqGives.int i k t _
    · have e : its.toArray.toList.countP (isInt k) = ns.count k := by rw [List.toList_toArray]; exact countP_isInt k hi
      rw [e]
      exact hQ _ g'' h'' _ (G.trans G') (.int _ _))
end
end Mine
end
section
open PySem PySem.Calls PyProof.Rows
set_option maxRecDepth 100000
set_option maxHeartbeats 600000
namespace Mine
theorem fmod_add {n : Nat} (a b : Int) : (a.fmod n + b).fmod n = (a + b).fmod n := by
  rw [Int.fmod_eq_emod_of_nonneg _ (Int.natCast_nonneg n), Int.fmod_eq_emod_of_nonneg _ (Int.natCast_nonneg n), Int.fmod_eq_emod_of_nonneg _ (Int.natCast_nonneg n)]
  rw [Int.add_emod, Int.emod_emod, ← Int.add_emod]
noncomputable def nmb (st : List Int) (s : Int) : Nat → Option Int
  | 0 => none
  | k + 1 => some (10 * (nmb st s k).getD 0 + at_ st (s + 1 + k))
noncomputable def ovl : Option Int → PV
  | none => .none
  | some n => .int n
noncomputable def gap (rd : List Int) (s : Int) : Nat := (List.range rd.length).findIdx fun k => at_ rd (s + 1 + (k : Nat)) == 1
noncomputable def wayL (rd st : List Int) : Nat → List (PV × PV)
  | 0 => []
  | i + 1 => wayL rd st i ++ if at_ rd i = 1 then [(.int i, ovl (nmb st i (gap rd i)))] else []
theorem pairs_app (a b : List (PV × PV)) : pairs (a ++ b) = pairs a ++ pairs b := List.map_append
theorem wayL_len (rd st : List Int) : ∀ i, (wayL rd st i).length ≤ i
  | 0 => Nat.le_refl _
  | i + 1 => by
    unfold wayL; rw [List.length_append]
    have := wayL_len rd st i
    split <;> simp <;> omega
theorem gap_lt {rd : List Int} {s : Int} (hn : 0 < rd.length) (hs : at_ rd s = 1) : gap rd s < rd.length ∧ at_ rd (s + 1 + (gap rd s : Nat)) = 1 ∧ ∀ k, k < gap rd s → at_ rd (s + 1 + (k : Nat)) ≠ 1 := by
  have h1 : (List.range rd.length).findIdx (fun k => at_ rd (s + 1 + (k : Nat)) == 1) < (List.range rd.length).length := by
    refine List.findIdx_lt_length_of_exists ⟨rd.length - 1, List.mem_range.mpr (by omega), ?_⟩
    have e : s + 1 + ((rd.length - 1 : Nat) : Int) = s + rd.length := by omega
    rw [e, beq_iff_eq, ← hs]
    unfold at_
    rw [Int.add_fmod_right]
  refine ⟨by simpa [gap] using h1, ?_, fun k hk => ?_⟩
  · have := List.findIdx_getElem (w := h1)
    rw [List.getElem_range, beq_iff_eq] at this
    exact this
  · have := List.not_of_lt_findIdx hk
    rw [List.getElem_range] at this
    simpa using this
theorem ways_ok {w : World} {d : Nat} {rd st : List Int} (hn : 0 < rd.length) (hn2 : rd.length ≤ 100) (hst : st.length = rd.length) (h01 : ∀ i, at_ rd i = 0 ∨ at_ rd i = 1) :
    CallOk (CC w) (d + 1) (rw_ 14) [.lst (iL rd), .lst (iL st)] (.lst (pairs (wayL rd st rd.length))) := by
  refine CallOk.of (ns := ["road", "stones"]) ?_ (by decide +kernel) rfl (by decide +kernel) (by decide +kernel) (by decide +kernel) (by decide +kernel) (by decide +kernel) ?_
  · intro vs hv pm cd doc
    obtain ⟨a, b, rfl⟩ := ofLen2 hv
    with_unfolding_all rfl
  intro L f cd
  have fe : FEnv (fenv (rw_ 14) L f cd) := ⟨(by with_unfolding_all rfl), rfl, rfl⟩
  with_unfolding_all refine Ex.assign (p := .int rd.length) fe (.inl (by with_unfolding_all rfl)) (Ev.callB fe (by with_unfolding_all rfl) bl b_len (Evs.cons (Ev.nm (by assumption) (by with_unfolding_all rfl) (by with_unfolding_all rfl)) Evs.nil) (fn_lenI (by omega))) ?_
  with_unfolding_all refine Ex.newList (ps := []) fe (.inl (by with_unfolding_all rfl)) Evs.nil (by decide) ?_
  with_unfolding_all refine Ex.for (items := rng 0 rd.length 1) fe (.inl (by with_unfolding_all rfl)) (Itb.range1 fe (by with_unfolding_all rfl) bl b_range (Ev.nm (by assumption) (by with_unfolding_all rfl) (by with_unfolding_all rfl)) (by first | exact small0 (Nat.le_trans hn2 (by decide)) | exact small0 (by omega) | exact small1 (by omega) (by omega)) (by first | exact rangeSize0 _ | exact rangeSize1 _ _ _ (by omega))) (fun i σ' => σ' = ⟨[("size", .int rd.length), ("road", .lst (iL rd)), ("stones", .lst (iL st))], some ("due", pairs (wayL rd st i))⟩) rfl (fun i σ' hi y hy => by subst hi; (first | obtain rfl := Option.some.inj hy | cases hy); exact (by decide : Str.ofString "due" ≠ Str.ofString "spot")) ?_ ?_
  · rintro i σ' p rfl hp
    have hi : i < rd.length := by
      have := (List.getElem?_eq_some_iff.mp hp).1
      rwa [rng_length] at this
    rw [rng_get hi] at hp
    (first | obtain rfl := Option.some.inj hp | cases hp)
    have ei : (0 : Int) + (i : Int) * 1 = i := by omega
    rw [ei]
    have ef : (i : Int).fmod rd.length = i := Int.fmod_eq_of_lt (by omega) (by (clear hn hn2 h01 fe hp ei; omega))
    have hcar : Tr (CC w) d (fenv (rw_ 14) L f cd) [("spot", .int (i : Int)), ("size", .int rd.length), ("road", .lst (iL rd)), ("stones", .lst (iL st))] (.Compare (.Subscript (.Name "road" ⟨92, 11, 92, 15⟩) (.Name "spot" ⟨92, 16, 92, 20⟩) ⟨92, 11, 92, 21⟩) [.Eq] [.Constant (.int 1) 0 ⟨92, 25, 92, 26⟩] ⟨92, 11, 92, 26⟩) (at_ rd i == 1) := by
      with_unfolding_all refine Tr.cmp (at_get' (i := (i : Int)) hn (Ev.nm (by assumption) (by with_unfolding_all rfl) (by with_unfolding_all rfl)) (Ev.nm (by assumption) (by with_unfolding_all rfl) (by with_unfolding_all rfl)) ef.symm (by omega)) Ev.int op_eq
    with_unfolding_all refine Ex.cons (Xs.ifs (Post := fun o σ'' => o = Option.none ∧ σ'' = ⟨[("size", .int rd.length), ("road", .lst (iL rd)), ("stones", .lst (iL st))], some ("due", pairs (wayL rd st (i + 1)))⟩) hcar ?_) (fun σ' h => Ex.nil h) fun _ _ h => nomatch h.1
    by_cases hc : at_ rd i = 1
    · have hcb : (at_ rd i == 1) = true := by rw [hc]; rfl
      rw [hcb]
      simp only [if_true]
      obtain ⟨g1, g2, g3⟩ := gap_lt hn hc
      have hdue : ∀ x : Str, Str.ofString "due" ≠ x → ∀ y : Str × List PV, some (Str.ofString "due", pairs (wayL rd st i)) = some y → y.1 ≠ x := fun x hx y hy => by (first | obtain rfl := Option.some.inj hy | cases hy); exact hx
      with_unfolding_all refine Ex.assign (p := .none) fe (.inl (by with_unfolding_all rfl)) Ev.none ?_ (hdue "number" (by decide))
      with_unfolding_all refine Ex.assign (p := .int (((i : Int) + 1).fmod rd.length)) fe (.inl (by with_unfolding_all rfl)) (Ev.bin (Ev.bin (Ev.nm (by assumption) (by with_unfolding_all rfl) (by with_unfolding_all rfl)) Ev.int op_add) (Ev.nm (by assumption) (by with_unfolding_all rfl) (by with_unfolding_all rfl)) (op_mod (by omega))) ?_ (hdue "place" (by decide))
      with_unfolding_all refine Ex.while (fun m σ' => ∃ k, k ≤ gap rd i ∧ m = gap rd i - k ∧ σ' = ⟨[("place", .int (((i : Int) + 1 + (k : Nat)).fmod rd.length)), ("number", ovl (nmb st i k)), ("spot", .int (i : Int)), ("size", .int rd.length), ("road", .lst (iL rd)), ("stones", .lst (iL st))], some ("due", pairs (wayL rd st i))⟩) (fun σ' => match σ'.vars with | (_, .int pl) :: _ => rd.getD pl.toNat 0 == 0 | _ => false) (gap rd i) ⟨0, Nat.zero_le _, rfl, ?_⟩ ?_ ?_ ?_
      · have : (i : Int) + 1 + ((0 : Nat) : Int) = i + 1 := by (clear hn hn2 hst h01 fe hi hp ei ef hcar hc hcb g1 g2 g3 hdue; omega)
        rw [this]; rfl
      · rintro m σ' ⟨k, hk, rfl, rfl⟩
        with_unfolding_all exact Tr.cmp (at_get' (i := (i : Int) + 1 + (k : Nat)) hn (Ev.nm (by assumption) (by with_unfolding_all rfl) (by with_unfolding_all rfl)) (Ev.nm (by assumption) (by with_unfolding_all rfl) (by with_unfolding_all rfl)) rfl (by omega)) Ev.int op_eq
      · rintro m σ' ⟨k, hk, rfl, rfl⟩ hb
        have hk0 : at_ rd ((i : Int) + 1 + (k : Nat)) = 0 := by simpa [at_] using hb
        have hkl : k < gap rd i := by
          rcases Nat.lt_or_ge k (gap rd i) with h | h
          · exact h
          · have : k = gap rd i := by (clear hn hn2 hst h01 fe hi hp ei ef hcar hc hcb g1 g2 g3 hdue hb hk0; omega)
            subst this; rw [g2] at hk0; (first | obtain rfl := Option.some.inj hk0 | cases hk0)
        have hsn : (10 : Int).natAbs < 2 ^ 62 := by decide
        have hnum : Ev (CC w) d (fenv (rw_ 14) L f cd) [("place", .int (((i : Int) + 1 + (k : Nat)).fmod rd.length)), ("number", ovl (nmb st i k)), ("spot", .int (i : Int)), ("size", .int rd.length), ("road", .lst (iL rd)), ("stones", .lst (iL st))] (.BoolOp .Or [.Name "number" ⟨96, 31, 96, 37⟩, .Constant (.int 0) 0 ⟨96, 41, 96, 42⟩] ⟨96, 31, 96, 42⟩) (.int ((nmb st i k).getD 0)) := by
          cases hq : nmb st i k with
          | none => with_unfolding_all exact Ev.orN (Ev.nm (by assumption) rfl rfl) Ev.int
          | some v =>
            with_unfolding_all refine Ev.to (Ev.orI (n := v) (Ev.nm (by assumption) rfl rfl) Ev.int) ?_
            by_cases hv : v = 0
            · subst hv; rfl
            · have : (v != 0) = true := by simpa using hv
              rw [this]; rfl
        with_unfolding_all refine Ex.assign (p := ovl (nmb st i (k + 1))) fe (.inl (by with_unfolding_all rfl)) (Ev.to (Ev.bin (Ev.bin Ev.int hnum (op_mul (.inl hsn))) (at_get' (rd := st) (i := (i : Int) + 1 + (k : Nat)) (by (clear h01 fe hi hp ei ef hcar hc hcb g1 g2 g3 hdue hk hb hk0 hkl hsn hnum; omega)) (Ev.nm (by assumption) (by with_unfolding_all rfl) (by with_unfolding_all rfl)) (Ev.nm (by assumption) (by with_unfolding_all rfl) (by with_unfolding_all rfl)) (by rw [hst]) (by (clear h01 fe hi hp ei ef hcar hc hcb g1 g2 g3 hdue hk hb hk0 hkl hsn hnum; omega))) op_add) rfl) ?_ (hdue "number" (by decide))
        with_unfolding_all refine Ex.assign (p := .int (((i : Int) + 1 + ((k + 1 : Nat) : Int)).fmod rd.length)) fe (.inl (by with_unfolding_all rfl)) (Ev.to (Ev.bin (Ev.bin (Ev.nm (by assumption) (by with_unfolding_all rfl) (by with_unfolding_all rfl)) Ev.int op_add) (Ev.nm (by assumption) (by with_unfolding_all rfl) (by with_unfolding_all rfl)) (op_mod (by (clear h01 fe hi hp ei ef hcar hc hcb g1 g2 g3 hdue hk hb hk0 hkl hsn hnum; omega)))) ?_) (Ex.canon [("place", .int (((i : Int) + 1 + ((k + 1 : Nat) : Int)).fmod rd.length)), ("number", ovl (nmb st i (k + 1))), ("spot", .int (i : Int)), ("size", .int rd.length), ("road", .lst (iL rd)), ("stones", .lst (iL st))] (Ex.nil ⟨rfl, gap rd i - (k + 1), by (clear hn hn2 hst h01 fe hi hp ei ef hcar hc hcb g1 g2 g3 hdue hk hb hk0 hsn hnum; omega), k + 1, hkl, rfl, rfl⟩) (by with_unfolding_all exact ⟨rfl, rfl, rfl, rfl, rfl, rfl, trivial⟩)) (hdue "place" (by decide))
        rw [fmod_add]; congr 2
      · rintro σ' m hb ⟨k, hk, rfl, rfl⟩
        have hk1 : at_ rd ((i : Int) + 1 + (k : Nat)) ≠ 0 := by simpa [at_] using hb
        have hkg : k = gap rd i := by
          rcases Nat.lt_or_ge k (gap rd i) with h | h
          · rcases h01 ((i : Int) + 1 + (k : Nat)) with q | q
            · exact absurd q hk1
            · exact absurd q (g3 k h)
          · (clear hn hn2 hst h01 fe hi hp ei ef hcar hc hcb g1 g2 g3 hdue hb hk1; omega)
        subst hkg
        have hfl : (PV.tup [.int (i : Int), ovl (nmb st i (gap rd i))]).flat = true := by cases nmb st i (gap rd i) <;> rfl
        have hlen : (pairs (wayL rd st i)).length ≤ 1000000 := by simp only [pairs, List.length_map]; have := wayL_len rd st i; omega
        with_unfolding_all refine Ex.append (l := pairs (wayL rd st i)) (p := .tup [.int (i : Int), ovl (nmb st i (gap rd i))]) fe (.inl (by with_unfolding_all rfl)) (Ev.tuple (Evs.cons (Ev.nm (by assumption) (by with_unfolding_all rfl) (by with_unfolding_all rfl)) (Evs.cons (Ev.nm (by assumption) (by with_unfolding_all rfl) (by with_unfolding_all rfl)) Evs.nil)) (by rw [sizeLine_eq]; simp)) hfl hlen (Ex.drops [("place", _), ("number", _), ("spot", _)] (Ex.nil ⟨rfl, ?_⟩) (by with_unfolding_all rfl))
        have : wayL rd st (i + 1) = wayL rd st i ++ [(.int i, ovl (nmb st i (gap rd i)))] := by
          show wayL rd st i ++ _ = _
          rw [if_pos hc]
        rw [this, pairs_app]; rfl
    · have hcb : (at_ rd i == 1) = false := by simpa using hc
      rw [hcb]
      simp only [Bool.false_eq_true, if_false]
      with_unfolding_all refine Ex.drop (x := "spot") (Ex.nil ⟨rfl, ?_⟩) (by with_unfolding_all rfl)
      have : wayL rd st (i + 1) = wayL rd st i := by
        show wayL rd st i ++ _ = _
        rw [if_neg hc, List.append_nil]
      rw [this]
  · rintro σ' rfl
    rw [rng_length]
    refine Ex.freeze ?_
    with_unfolding_all refine Ex.ret (Ev.nm (by assumption) (by with_unfolding_all rfl) (by with_unfolding_all rfl)) rfl
end Mine
end
section
open PySem PySem.Calls PyProof.Rows
set_option maxRecDepth 100000
set_option maxHeartbeats 600000
namespace Mine
noncomputable def toP (l : List (Int × Option Int)) : List (PV × PV) := l.map fun x => (.int x.1, ovl x.2)
noncomputable def wayI (rd st : List Int) : Nat → List (Int × Option Int)
  | 0 => []
  | i + 1 => wayI rd st i ++ if at_ rd i = 1 then [((i : Int), nmb st i (gap rd i))] else []
theorem wayL_eq (rd st : List Int) : ∀ i, wayL rd st i = toP (wayI rd st i)
  | 0 => rfl
  | i + 1 => by
    unfold wayL wayI
    rw [wayL_eq rd st i, toP, toP, List.map_append]
    split <;> rfl
noncomputable def plc (n : Nat) (x : Int × Option Int) : Int := if x.2.isNone then x.1 else (x.1 + 1).fmod n
noncomputable def ledL (l : List (Int × Option Int)) (n : Nat) : List Int := (List.range n).map fun (s : Nat) => (((l.map (plc n)).count (s : Int) : Nat) : Int)
theorem led_ok {w : World} {d : Nat} {l : List (Int × Option Int)} {n : Nat} (hn : 0 < n) (hn2 : n ≤ 100) (hl : l.length ≤ 1000) :
    CallOk (CC w) (d + 1) (rw_ 15) [.lst (pairs (toP l)), .int n] (.lst (iL (ledL l n))) := by
  refine CallOk.of (ns := ["told", "size"]) ?_ (by decide +kernel) rfl (by decide +kernel) (by decide +kernel) (by decide +kernel) (by decide +kernel) (by decide +kernel) ?_
  · intro vs hv pm cd doc
    obtain ⟨a, b, rfl⟩ := ofLen2 hv
    with_unfolding_all rfl
  intro L f cd
  have fe : FEnv (fenv (rw_ 15) L f cd) := ⟨(by with_unfolding_all rfl), rfl, rfl⟩
  with_unfolding_all refine Ex.assign (p := .lst (iL (l.map (plc n)))) fe (.inr ⟨by with_unfolding_all rfl, by with_unfolding_all rfl⟩) (Ev.compP true (qs := iL (l.map (plc n))) fe (CSc.of (by with_unfolding_all rfl) (by decide +kernel) (by with_unfolding_all rfl) (by with_unfolding_all rfl) (by intro _ _; with_unfolding_all rfl) (by intro _; with_unfolding_all rfl)) (by with_unfolding_all rfl) (by decide) (Itp.list (l := toP l) (Ev.nm (by assumption) (by with_unfolding_all rfl) (by with_unfolding_all rfl))) (by simp [iL, toP]) (by simp [toP]; omega) ?_) ?_
  · intro i p p' q hp hq
    obtain ⟨x, hx, e1, e2⟩ : ∃ x, l[i]? = some x ∧ p = .int x.1 ∧ p' = ovl x.2 := by
      rw [toP, List.getElem?_map] at hp
      cases h : l[i]? with
      | none => rw [h] at hp; (first | obtain rfl := Option.some.inj hp | cases hp)
      | some x => rw [h] at hp; (first | obtain rfl := Option.some.inj hp | cases hp); exact ⟨x, rfl, rfl, rfl⟩
    subst e1 e2
    have hq' : q = .int (plc n x) := by
      rw [iL, List.getElem?_map, List.getElem?_map, hx] at hq
      (first | obtain rfl := Option.some.inj hq | cases hq); rfl
    subst hq'
    refine ⟨rfl, fun F fe2 => ?_⟩
    show _ ∧ _
    refine ⟨rfl, ?_⟩
    obtain ⟨x1, x2⟩ := x
    cases x2 with
    | none => with_unfolding_all refine Ev.to (Ev.ite (b := true) (Tr.cmp (Ev.nm (p := .none) (by assumption) rfl rfl) Ev.none op_isNone) (show Ev _ _ _ _ _ (.int x1) from (Ev.nm (by assumption) (by with_unfolding_all rfl) (by with_unfolding_all rfl)))) rfl
    | some v => with_unfolding_all refine Ev.to (Ev.ite (b := false) (Tr.cmp (Ev.nm (p := .int v) (by assumption) rfl rfl) Ev.none op_isNoneI) (show Ev _ _ _ _ _ (.int ((x1 + 1).fmod n)) from Ev.bin (Ev.bin (Ev.nm (by assumption) (by with_unfolding_all rfl) (by with_unfolding_all rfl)) Ev.int op_add) (Ev.nm (by assumption) (by with_unfolding_all rfl) (by with_unfolding_all rfl)) (op_mod (by omega)))) rfl
  with_unfolding_all refine Ex.ret (Ev.comp (cel := false) (items := rng 0 n 1) (qs := iL (ledL l n)) fe (CSc.of (by with_unfolding_all rfl) (by decide +kernel) (by with_unfolding_all rfl) (by with_unfolding_all rfl) (by intro _ _; with_unfolding_all rfl) (by intro _; with_unfolding_all rfl)) (Itb.range1 fe (by with_unfolding_all rfl) bl b_range (Ev.nm (by assumption) (by with_unfolding_all rfl) (by with_unfolding_all rfl)) (by first | exact small0 (Nat.le_trans hn2 (by decide)) | exact small0 (by omega) | exact small1 (by omega) (by omega)) (by first | exact rangeSize0 _ | exact rangeSize1 _ _ _ (by omega))) (by simp [rng_length, iL, ledL]) (by rw [rng_length]; omega) ?_) rfl
  refine rng_turn (f := fun e => (((l.map (plc n)).count (e : Int) : Nat) : Int)) fun e he => ⟨rfl, fun F fe2 => ?_⟩
  have ee : (0 : Int) + (e : Int) * 1 = e := by (clear hn hn2 hl fe he fe2; omega)
  rw [ee]
  with_unfolding_all refine Ev.count (ns := l.map (plc n)) (Ev.nm (by assumption) (by with_unfolding_all rfl) (by with_unfolding_all rfl)) (Ev.nm (by assumption) (by with_unfolding_all rfl) (by with_unfolding_all rfl))
end Mine
end
section
open PySem PySem.Calls PyProof.Rows
set_option maxRecDepth 100000
namespace Mine
/-! the logic under the claim's caller: as wpAny, of those contexts alone whose stack holds the caller -/
noncomputable def CIn (Γ : Ctx) : Prop := Γ.code.isCaller = true ∨ Γ.below.any (fun x => x.1.isCaller) = true
noncomputable def wpC {α : Type} (M : Model) (A : Around) (t : Sem α) (Q : α → Shared → Prop) (E : Value → Shared → Prop) (s : Shared) : Prop :=
  ∀ Γ p, Γ.In A → CIn Γ → Sem.wp M Γ t (fun a _ s' => Q a s') (fun e _ s' => E e s') p s
noncomputable def codeC (M : Model) (A : Around) (c : Code) (R : Result → Shared → Prop) (s : Shared) : Prop :=
  ∀ Γ p, Γ.code = c → Γ.Below A → Γ.below.any (fun x => x.1.isCaller) = true → wpCode M Γ R p s
section
variable {α β : Type} {M : Model} {A : Around} {E : Value → Shared → Prop} {s : Shared}
theorem C.of {t : Sem α} {Q : α → Shared → Prop} (h : wpAny M A t Q E s) : wpC M A t Q E s := fun Γ p hΓ _ => h Γ p hΓ
theorem K.of {c : Code} {R : Result → Shared → Prop} (h : codeAny M A c R s) : codeC M A c R s := fun Γ p hc hΓ _ => h Γ p hc hΓ
theorem C.mono {t : Sem α} {Q Q' : α → Shared → Prop} {E' : Value → Shared → Prop} (h : wpC M A t Q E s) (hQ : ∀ a s, Q a s → Q' a s) (hE : ∀ e s, E e s → E' e s) : wpC M A t Q' E' s :=
  fun Γ p hΓ hc => Sem.wp_mono M Γ t (fun a _ s => hQ a s) (fun e _ s => hE e s) p s (h Γ p hΓ hc)
theorem C.bind {m : Sem α} {f : α → Sem β} {Q : β → Shared → Prop} (h : wpC M A m (fun a s' => wpC M A (f a) Q E s') E s) : wpC M A (m >>= f) Q E s := fun Γ p hΓ hc => by
  rw [Sem.wp_bind']
  exact Sem.wp_mono M Γ m (fun a p' s' h' => h' Γ p' hΓ hc) (fun _ _ _ h' => h') p s (h Γ p hΓ hc)
/-- the first part walks anywhere -/
theorem C.bindA {m : Sem α} {f : α → Sem β} {Q : β → Shared → Prop} (h : wpAny M A m (fun a s' => wpC M A (f a) Q E s') E s) : wpC M A (m >>= f) Q E s := C.bind (C.of h)
theorem C.pure {a : α} {Q : α → Shared → Prop} (h : Q a s) : wpC M A (Pure.pure a) Q E s := C.of (wpAny_pure h)
theorem C.onRaise {m : Sem α} {k : Value → Sem Unit} {Q : α → Shared → Prop} (h : wpC M A m Q (fun e s' => wpAny M A (k e) (fun _ s'' => E e s'') E s') s) : wpC M A (m.onRaise k) Q E s := fun Γ p hΓ hc => by
  rw [Sem.wp_onRaise]
  exact Sem.wp_mono M Γ m (fun _ _ _ h' => h') (fun e p' s' h' => h' Γ p' hΓ) p s (h Γ p hΓ hc)
theorem C.attempt {m : Sem α} {Q : Except Value α → Shared → Prop} (h : wpC M A m (fun a => Q (.ok a)) (fun e => Q (.error e)) s) : wpC M A m.attempt Q E s := fun Γ p hΓ hc => by
  rw [Sem.wp_attempt]; exact h Γ p hΓ hc
theorem C.holding {vs : List Value} {m : Sem α} {Q : α → Shared → Prop} (h : wpC M A m Q E s) : wpC M A (holding vs m) Q E s :=
  fun Γ p hΓ hc => by rw [Sem.wp_holding]; exact h Γ p hΓ hc
theorem C.keep {vs : List Value} {m : Sem α} {Q : α → Shared → Prop} (h : wpC M A m Q E s) : wpC M A (m.keep vs) Q E s :=
  fun Γ p hΓ hc => by rw [Sem.wp_keep]; exact h Γ p hΓ hc
theorem CIn.enter {Γ : Ctx} (hc : CIn Γ) (c : Code) (h : Option Value) (p : Pos) : (Γ.enter c h p).below.any (fun x => x.1.isCaller) = true := by
  show (((Γ.code, p) :: Γ.below).any fun x => x.1.isCaller) = true
  rw [List.any_cons]
  rcases hc with h | h
  · rw [h]; rfl
  · rw [h, Bool.or_true]
theorem C.run {c : Code} {h : Option Value} {Q : Flow → Shared → Prop}
    (hk : codeC M (A.mark h) c (fun r s' => match r with | .ok f => Q f s' | .error e => E e s') s) (hnb : h ≠ some byPass := by intro x; cases x) : wpC M A (run c h) Q E s :=
  fun Γ p hΓ hc => by rw [Sem.wp_run]; exact hk _ p rfl (hΓ.enter c h p hnb) (hc.enter c h p)
theorem C.runValue {c : Code} {Q : Value → Shared → Prop}
    (hk : codeC M A c (fun r s' => match r with | .ok (.ret v) => Q v s' | .ok _ => False | .error e => E e s') s) : wpC M A (runValue c) Q E s :=
  fun Γ p hΓ hc => by rw [Sem.wp_runValue]; exact hk _ p rfl (hΓ.enter c none p (by intro x; cases x)) (hc.enter c none p)
theorem C.call {f : Value} {pos : List Value} {kw : List (Str × Value)} {Q : Value → Shared → Prop}
    (hk : codeC M A (.call f ⟨pos, kw⟩) (fun r s' => match r with | .ok (.ret v) => Q v s' | .ok _ => False | .error e => E e s') s) : wpC M A (call f pos kw) Q E s := C.runValue hk
theorem C.runOwn {c : Code} {env : Env} {h : Option Value} {Q : Flow → Shared → Prop}
    (hk : codeC M (A.mark h) c (fun r s' => match r with | .ok f => Q f s' | .error e => cameBackBy M A env E e s') s) (hnb : h ≠ some byPass := by intro x; cases x) : wpC M A (runOwn c env h) Q E s := by
  unfold PySem.runOwn
  exact C.onRaise (C.run hk hnb)
theorem K.tree {c : Code} {R : Result → Shared → Prop}
    (h : wpC M (A.under c) (M.den c) (fun fin s' => match fin with | .done f => R (.ok f) s' | .again c' => c'.quiet = true ∧ codeC M A c' R s') (fun e s' => R (.error e) s') s) : codeC M A c R s := fun Γ p hc hΓ hk => by
  rw [wpCode_iff_wp, hc]
  refine Sem.wp_mono M Γ _ (fun fin p' s' h' => ?_) (fun _ _ _ h' => h') p s (h Γ p (hc ▸ hΓ.in) (.inr hk))
  cases fin with
  | done f => exact h'
  | again c' => exact ⟨h'.1, h'.2 (Γ.goto c') p' rfl (hΓ.goto c') hk⟩
theorem K.loop' {c : Code} {R : Result → Shared → Prop} (hq : c.quiet = true) (I : Nat → Shared → Prop)
    (turn : ∀ n s, I n s → wpC M (A.under c) (M.den c) (fun fin s' => match fin with
      | .done f => R (.ok f) s'
      | .again c' => (c' = c ∧ ∃ m, m < n ∧ I m s') ∨ (c'.quiet = true ∧ codeC M A c' R s')) (fun e s' => R (.error e) s') s)
    (n : Nat) (h : I n s) : codeC M A c R s := by
  induction n using Nat.strongRecOn generalizing s with
  | ind n ih =>
    refine K.tree (C.mono (turn n s h) (fun fin s' hf => ?_) fun _ _ h' => h')
    cases fin with
    | done f => exact hf
    | again c' =>
      rcases hf with ⟨rfl, m, hm, hI⟩ | hf
      · exact ⟨hq, ih m hm hI⟩
      · exact hf
/-- what the stack tells: the caller is there -/
theorem C.stack {Q : List (Code × Pos) → Shared → Prop} (h : ∀ st : List (Code × Pos), st.any (fun x => x.1.isCaller) = true → Q st s) : wpC M A PySem.stack Q E s := fun Γ p _ hc => by
  show Q ((Γ.code, p) :: Γ.below) s
  refine h _ ?_
  rw [List.any_cons]
  rcases hc with h | h
  · rw [h]; rfl
  · rw [h, Bool.or_true]
theorem C.noted {env : Env} {m : Sem α} {Q : α → Shared → Prop} (h : wpC M A m Q (notedBy M A env E) s) : wpC M A (m.onRaise fun x => do noteFrame x env; theTreesLotGoes x) Q E s :=
  C.onRaise (C.mono h (fun _ _ q => q) fun _ _ hx => wpAny_bind (wpAny_mono hx (fun _ _ e => wpAny_theTreesLotGoes e) fun _ _ e => e))
end
section
variable {M : Model} {A : Around} {E : Value → Shared → Prop} {s : Shared} {env : Env}
theorem C.execs_cons {st rest} {Q : Flow → Shared → Prop} (h : wpC M A (exec st env) (fun f s' => match f with | .next => wpC M A (execs rest env) Q E s' | f => Q f s') E s) : wpC M A (execs (st :: rest) env) Q E s := by
  rw [PySem.execs_cons]
  refine C.bind (C.mono h (fun f s' h' => ?_) fun _ _ x => x)
  cases f <;> first | exact h' | exact C.pure h'
theorem C.Assign_Name {x px value pos} {Q : Flow → Shared → Prop} (h : wpC M A (eval value env) (fun v s₁ => wpAny M A (storeName env x v) (fun _ => Q .next) E s₁) E s)
    (hs : swapsWith value (some (.Name x px)) pos.line env = Pure.pure false) : wpC M A (exec (.Assign [.Name x px] value pos) env) Q E s := by
  rw [exec_Assign_Name env x px value pos hs]
  refine C.bindA (wpAny_standAt (C.bind (C.mono h (fun v s₁ h₁ => ?_) fun _ _ x => x)))
  exact C.of (wpAny_bind (wpAny_standAt (wpAny_bind (wpAny_bindName (wpAny_mono h₁ (fun _ _ q => wpAny_pure q) fun _ _ x => x)))))
theorem C.If {test body orelse pos} {Q : Flow → Shared → Prop} (h : wpAny M A (isTrue test env (eval test env)) (fun b s₂ => if b then wpC M A (execs body env) Q E s₂ else wpC M A (execs orelse env) Q E s₂) E s) :
    wpC M A (exec (.If test body orelse pos) env) Q E s := by
  rw [exec_If]
  refine C.bindA (wpAny_standAt (C.bindA (wpAny_mono h (fun b s₂ h₂ => ?_) fun _ _ x => x)))
  cases b <;> exact h₂
theorem C.ExprS {e pos} {Q : Flow → Shared → Prop} (h : wpC M A (eval e env) (fun v s' => match v with | .ref _ => False | _ => Q .next s') E s)
    (hi : interactive env = false) (hs : swapsWith e none pos.line env = Pure.pure false) : wpC M A (exec (.Expr e pos) env) Q E s := by
  rw [exec_Expr env e pos hi hs]
  refine C.bindA (wpAny_standAt (C.bind (C.mono h (fun v s' h' => ?_) fun _ _ x => x)))
  have hv : ∀ a, v ≠ .ref a := fun a hva => by subst hva; exact h'
  rw [dropValue_plain hv]
  refine C.pure ?_
  cases v <;> first | exact h' | exact (hv _ rfl).elim
theorem C.Call_Name {id : Str} {p pos : Pos} {args : List Expr} {Q : Value → Shared → Prop}
    (h : wpAny M A (eval (.Name id p) env) (fun f s₁ => wpC M A (callWith pos f [] (backTo pos (starEach args env)) []) Q E s₁) E s) : wpC M A (eval (.Call (.Name id p) args [] pos) env) Q E s := by
  show wpC M A (do callWith pos (← eval (.Name id p) env) [] (backTo pos (starEach args env)) (backToKw pos (keywordEach [] env))) Q E s
  exact C.bindA h
theorem C.For {target iter body orelse pos} {Q : Flow → Shared → Prop}
    (h : wpAny M A (eval iter env) (fun x s₁ => wpAny M A (pyIter x) (fun it s₂ => codeC M A (.forLoop target it body orelse env) (fun r s' => match r with | .ok f => Q f s' | .error e => cameBackBy M A env E e s') s₂) E s₁) E s)
    (hs : ∀ x, foldedSetIterable iter env x = Pure.pure x) : wpC M A (exec (.For target iter body orelse pos) env) Q E s := by
  rw [exec_For]
  exact C.bindA (wpAny_standAt (C.bindA (wpAny_mono h (fun x s₁ h₁ => C.bindA (wpAny_of_eq (hs x) (C.bindA (wpAny_standAt (C.bindA (wpAny_holding (wpAny_mono h₁ (fun it s₂ h₂ => C.runOwn h₂) fun _ _ h' => h'))))))) fun _ _ h' => h')))
theorem C.Try {prog : Program} {w : World} {body orelse : List Stmt} {h₀ : ExceptHandler} {hs : List ExceptHandler} {pos : Pos} {Q : Flow → Shared → Prop}
    (h : wpC (model prog w) A (execs body env) (fun f s₁ => match f with | .next => wpAny (model prog w) A (execs orelse env) Q E s₁ | f => Q f s₁)
      (fun e s₁ => wpAny (model prog w) A (noteFrame e env) (fun _ s₂ => wpAny (model prog w) A (setFlight e none) (fun _ s₃ => wpAny (model prog w) A (handleBy e env (h₀ :: hs)) Q E s₃) E s₂) E s₁) s) :
    wpC (model prog w) A (exec (.Try body (h₀ :: hs) orelse [] pos) env) Q E s := by
  rw [arm_exec_Try]
  refine C.bindA (wpAny_standAt ?_)
  unfold tryStmt
  rw [if_pos (show List.isEmpty ([] : List Stmt) = true from rfl)]
  refine C.bind (C.attempt (C.mono h (fun f s₁ h₁ => ?_) fun e s₁ h₁ => ?_))
  · cases f <;> first | exact C.of h₁ | exact C.pure h₁
  · refine C.of (wpAny_bind (wpAny_mono h₁ (fun _ _ h₂ => ?_) fun _ _ x => x))
    rw [if_neg (show ¬ List.isEmpty (h₀ :: hs) = true from Bool.false_ne_true)]
    exact wpAny_bind h₂
theorem C.spliced_nil {Q : List Value → Shared → Prop} (h : Q [] s) : wpC M A (spliced []) Q E s := C.pure h
theorem C.spliced_cons {x : Sem Value} {rest : List (Bool × Sem Value)} {Q : List Value → Shared → Prop}
    (h : wpC M A x (fun v s₁ => wpC M A (spliced rest) (fun vs s₂ => Q (v :: vs) s₂) E s₁) E s) : wpC M A (spliced ((false, x) :: rest)) Q E s := by
  rw [spliced]
  refine C.bind (C.mono h (fun v s₁ h₁ => ?_) fun _ _ x => x)
  rw [if_neg Bool.false_ne_true]
  exact C.bind (C.pure (C.bind (C.holding (C.mono h₁ (fun vs s₂ h₂ => C.pure h₂) fun _ _ x => x))))
theorem C.evalArgs {f : Value} {x : Sem Value} {rest : List (Bool × Sem Value)} {Q : Args → Shared → Prop}
    (h : wpC M A (spliced ((false, x) :: rest)) (fun vs s' => Q ⟨vs, []⟩ s') E s) : wpC M A (evalArgs f true ((false, x) :: rest) []) Q E s := by
  unfold PySem.evalArgs
  show wpC M A (spliced ((false, x) :: rest) >>= _) Q E s
  refine C.bind (C.mono h (fun vs s' h' => ?_) fun _ _ x => x)
  refine C.holding ?_
  exact C.bind (C.pure (C.bind (C.pure (C.pure h'))))
theorem C.callWith_builtin {pos : Pos} {id : String} {first : List Value} {args : List (Bool × Sem Value)} {Q : Value → Shared → Prop} (hplain : args.any (·.1) = false)
    (h : wpC M A (PySem.evalArgs (.builtin id) true args []) (fun a s₁ => wpC M A (PySem.call (.builtin id) (first ++ a.pos) a.kw) Q E s₁) E s) : wpC M A (callWith pos (.builtin id) first args []) Q E s := by
  unfold callWith
  refine C.bind (C.holding (C.mono h (fun a s₁ h₁ => C.bindA (wpAny_standAt ?_)) fun _ _ x => x))
  rw [show (args.any (·.1) || ([] : List (Option Str × Sem Value)).any (·.1.isNone)) = false by rw [hplain]; rfl]
  refine C.bind (C.pure ?_)
  exact C.bind (C.mono h₁ (fun r s₂ hr => C.of (wpAny_bind (wpAny_holding (wpAny_point (wpAny_pure hr))))) fun _ _ x => x)
end
section
variable {prog : Program} {w : World} {A : Around} {E : Value → Shared → Prop} {s : Shared} {env : Env} {R : Result → Shared → Prop}
theorem K.forLoop {target it body orelse} (I : Nat → Shared → Prop)
    (turn : ∀ n s, I n s → wpAny (model prog w) A (pyNext it) (fun r s₁ => match r with
      | none => wpAny (model prog w) A (execs orelse env) (fun f s₃ => R (.ok f) s₃) (notedBy (model prog w) A env fun e s' => R (.error e) s') s₁
      | some v => wpAny (model prog w) A (assign target env v) (fun _ s₂ => wpC (model prog w) A (execs body env) (fun f s₃ => match f with
          | .next | .cont => ∃ m, m < n ∧ I m s₃
          | .brk => R (.ok .next) s₃
          | .ret v => R (.ok (.ret v)) s₃) (notedBy (model prog w) A env fun e s' => R (.error e) s') s₂) (notedBy (model prog w) A env fun e s' => R (.error e) s') s₁) (notedBy (model prog w) A env fun e s' => R (.error e) s') s)
    (n : Nat) (h : I n s) (ht : ∀ v, letOwnedTupleGo target it v = Pure.pure ()) : codeC (model prog w) A (.forLoop target it body orelse env) R s := by
  refine K.loop' rfl I (fun n s hI => ?_) n h
  show wpC _ _ ((forTurn target it body orelse env).onRaise (fun x => do noteFrame x env; theTreesLotGoes x)) _ _ s
  refine C.noted ?_
  unfold forTurn
  refine C.bindA (wpAny_standAt (C.bindA (wpAny_onRaise (wpAny_mono (turn n s hI) (fun r s₁ h₁ => ?_) fun _ _ h' => wpAny_standAt h'))))
  cases r with
  | none => exact C.pure (.inr ⟨rfl, K.of (codeAny_block h₁)⟩)
  | some v =>
    refine C.bindA (wpAny_of_eq (ht v) ?_)
    refine C.bindA (wpAny_mono h₁ (fun _ s₂ h₂ => C.bind (C.mono h₂ (fun f s₃ h₃ => ?_) fun _ _ h' => h')) fun _ _ h' => h')
    cases f with
    | next => exact C.pure (.inl ⟨rfl, h₃⟩)
    | cont => exact C.pure (.inl ⟨rfl, h₃⟩)
    | brk => exact C.pure h₃
    | ret v => exact C.pure h₃
theorem K.func {body} (h : wpC (model prog w) (A.deeper env) (execs body env) (fun f s' => R (.ok (.ret (match f with | .ret v => v | _ => .none))) s')
      (fun e s' => wpAny (model prog w) (A.deeper env) (leaving env e) (fun _ s'' => R (.error e) s'') (fun e' s'' => R (.error e') s'') s') s) : codeC (model prog w) A (.func body env) R s := by
  refine K.tree ?_
  show wpC _ (A.deeper env) (do point; match ← (execs body env).onRaise (leaving env) with | .ret v => ret v | _ => ret .none) _ _ s
  refine C.bindA (wpAny_point (C.bind (C.onRaise (C.mono h (fun f s' h' => ?_) fun _ _ h' => h'))))
  cases f <;> exact C.pure h'
theorem K.call_function {a : Addr} {args : Args} {o : Obj} {fd : FuncData} {body : List Stmt} (hroom : A.depth < recursionLimit) (ho : s.heap.get? a = some o)
    (hd' : o.data = .func fd) (hco : fd.scope.isCoroutine = false) (hgen : fd.scope.isGenerator = false) (hbody : fd.body = .stmts body) (hcd : s.heap.CodeRec fd.code fd.qualname)
    (h : wpAny (model prog w) A.in1 (bindArgs fd args) (fun binds s₁ =>
      wpAny (model prog w) A.in1 (newFunctionEnv fd.scope fd.globals fd.closure binds (fd.qualname ++ ".<locals>.") (some a) fd.code none fd.builtins)
        (fun env s₂ => s₂.heap.NoLimit ∧ codeC (model prog w) A (.func body env) R s₂) (fun e s' => R (.error e) s') s₁) (fun e s' => R (.error e) s') s) : codeC (model prog w) A (.call (.ref a) args) R s := by
  refine K.tree ?_
  show wpC _ A.in1 (callAny (.ref a) args) _ _ s
  unfold callAny
  refine C.bindA (m := load a) (wpAny_load ho ?_)
  obtain ⟨c, oc, vs, tq, hc, hoc, hdc, hq⟩ := hcd
  rw [hd']
  show wpC _ _ (callFunction a fd args) _ _ _
  unfold callFunction
  rw [hc, hbody, hgen, hco]
  rw [hc] at h
  refine C.bindA (m := field (.ref c) 1) (wpAny_field hoc hdc hq (C.bind (C.pure ?_)))
  exact C.bindA (wpAny_mono h (fun binds s₁ h₁ => C.bindA (wpAny_mono h₁ (fun env s₂ h₂ => C.bindA (wpAny_enterFrame h₂.1 hroom (C.pure (And.intro rfl h₂.2)))) fun _ _ h' => h')) fun _ _ h' => h')
theorem K.call_cells {name : Str} {params : Arguments} {body : List Stmt} {scope : Scope} {pm cd doc : Value} {a : Addr} {o : Obj} {args : List Value} {binds : List (Str × Value)}
    (hroom : A.depth < recursionLimit) (ho : s.heap.get? a = some o) (hdata : o.data = .func (Calls.docDef name params body scope pm cd doc)) (hlim : s.heap.NoLimit) (hcd : s.heap.CodeRec cd name)
    (hbind : bindArgs (Calls.docDef name params body scope pm cd doc) ⟨args, []⟩ = Pure.pure binds)
    (hkind : ∀ x ∈ binds, scope.names.lookup x.1 = some .local ∨ (scope.names.lookup x.1 = some .cell ∧ ((cellsFrom (s.heap.objs.size + 1) scope.names []).lookup x.1).isSome = true))
    (h : ∀ h₁ tk, Fr s.heap s.heap.objs.size h₁ (bindL (envOfC name scope s.heap.objs.size a cd).kindOf binds fun _ => none) →
      Cl s.heap.objs.size (cellsFrom (s.heap.objs.size + 1) scope.names []) h₁ (bindC (envOfC name scope s.heap.objs.size a cd).kindOf binds fun _ => none) →
      wpC (model prog w) (A.deeper (envOfC name scope s.heap.objs.size a cd)) (execs body (envOfC name scope s.heap.objs.size a cd)) (fun f s' => R (.ok (.ret (match f with | .ret v => v | _ => .none))) s')
        (fun e s' => wpAny (model prog w) (A.deeper (envOfC name scope s.heap.objs.size a cd)) (leaving (envOfC name scope s.heap.objs.size a cd) e) (fun _ s'' => R (.error e) s'') (fun e' s'' => R (.error e') s'') s') { s with heap := h₁, toks := tk })
    (hco : scope.isCoroutine = false) (hgen : scope.isGenerator = false) (hk : scope.kind = .function) : codeC (model prog w) A (.call (.ref a) ⟨args, []⟩) R s := by
  refine K.call_function (fd := Calls.docDef name params body scope pm cd doc) hroom ho hdata hco hgen rfl hcd ?_
  rw [hbind]
  refine wpAny_pure (wpAny_newFunctionEnv_cells hk hkind fun env he s' x => ?_)
  subst he
  refine ⟨hlim.keeps x.toInCall.keep, K.func ?_⟩
  obtain ⟨h₁, tk, rfl, _⟩ := x.done
  exact h h₁ tk ⟨x.toInCall.ns, x.toInCall.keep, x.toInCall.fresh⟩ ⟨x.cell, x.apart, x.above⟩
end
end Mine
end
section
open PySem PySem.Calls PyProof.Rows
set_option maxRecDepth 100000
namespace Mine
section
variable {prog : Program} {w : World} {A : Around} {E : Value → Shared → Prop} {s : Shared} {R : Result → Shared → Prop}
theorem K.builtin {id : String} {args : Args} {b : Builtin} (hb : entryFor table id = some b)
    (h : wpC (model prog w) (A.under (.builtin id args)) (b args) (fun fin s' => match fin with | .done f => R (.ok f) s' | .again c' => c'.quiet = true ∧ codeC (model prog w) A c' R s') (fun e s' => R (.error e) s') s) :
    codeC (model prog w) A (.builtin id args) R s := by
  refine K.tree ?_
  show wpC _ _ (match entryFor table id with | some b => b args | none => unsupported ((withoutEnding? id "#data").getD id)) _ _ s
  rw [hb]; exact h
theorem K.call_builtin {id : String} {args : Args} {b : Builtin} (hq : plainId id = true) (hb : entryFor table id = some b) (hc : checkBuiltinCall id args = Pure.pure ())
    (h : wpC (model prog w) A.in1 (b args) (fun fin s' => match fin with | .done f => R (.ok f) s' | .again c' => c'.quiet = true ∧ codeC (model prog w) A c' R s') (fun e s' => R (.error e) s') s) : codeC (model prog w) A (.call (.builtin id) args) R s := by
  refine K.tree ?_
  show wpC _ A.in1 (do checkBuiltinCall id args; again (.builtin id args)) _ _ s
  refine C.bindA (wpAny_of_eq hc (C.pure (And.intro (plainId_quiet hq args) (K.builtin hb ?_))))
  rw [Around.under_plainId hq args]; exact h
theorem C.ite {α : Type} {M : Model} {c : Prop} [Decidable c] {a b : Sem α} {Q : α → Shared → Prop} (h : if c then wpC M A a Q E s else wpC M A b Q E s) : wpC M A (if c then a else b) Q E s := by split <;> simp_all
theorem isCaller_any {st : List (Code × Pos)} (h : st.any (fun x => x.1.isCaller) = true) (own : List String) : pythonCodeMadeTheCall own (st.map (·.1)) = false := by
  unfold pythonCodeMadeTheCall
  rw [Bool.and_eq_false_iff, Bool.and_eq_false_iff]
  left; left
  rw [Bool.not_eq_false', List.any_map]
  rw [List.any_eq_true] at h ⊢
  obtain ⟨x, hx, hc⟩ := h
  exact ⟨x, hx, hc⟩
theorem C.mark {M : Model} {own : List String} {e : Value} {Q : Unit → Shared → Prop} (h : Q () s) : wpC M A (markTheRefusal own e) Q E s := by
  unfold markTheRefusal
  refine C.bind (C.stack fun st hst => ?_)
  rw [isCaller_any hst own]
  exact C.pure h
theorem C.text_empty {t : Tok} {Q : Value → Shared → Prop} (hh : A.handled = none) (hE : ∀ h' tk e, Heap.NewExc s.heap h' e "ValueError" → E (.ref e) { s with heap := h', toks := tk }) :
    wpC (model prog w) A ((int_private% "intFromText") (.str Str.empty t) [] 10) Q E s := by
  refine C.bindA ?_
  refine wpAny_pure ?_
  have hr : (int_private% "readNumeral") 0 10 (List.takeWhile (fun x => x != 0) []) = (int_private% "Numeral.invalid") := by with_unfolding_all rfl
  dsimp only
  rw [hr]
  refine C.bindA (m := (int_private% "bytesOf?") (.str Str.empty t)) (wpAny_pure ?_)
  rw [if_neg (by simp)]
  refine C.bindA (wpAny_rule ?_)
  refine C.bindA (m := (int_private% "bytesOf?") (.str Str.empty t)) (wpAny_pure ?_)
  refine C.bindA (m := pyRepr (.str Str.empty t)) (wpAny_pyRepr_str ?_ (by rw [sizeLine_eq]; decide +kernel))
  refine C.bindA (wpAny_mkStr ?_ (by rw [sizeLine_eq]; decide +kernel))
  refine C.bindA (wpAny_newExc_plain plainExc_ValueError (fun h' e hm => ?_) (by rw [sizeLine_eq]; simp))
  refine C.bind (C.mark ?_)
  exact C.of (wpAny_raiseNew_none hh (hE h' _ e hm.newExc))
theorem C.int_empty {t : Tok} {Q : Value → Shared → Prop} (hh : A.handled = none) (hE : ∀ h' tk e, Heap.NewExc s.heap h' e "ValueError" → E (.ref e) { s with heap := h', toks := tk }) :
    wpC (model prog w) A (PySem.call (.type "int") [.str Str.empty t]) Q E s := by
  have ft := F.called_int
  obtain ⟨c, tl, hmro⟩ := ft.mro
  have hmade := ft.made
  have hsub := ft.sub
  have hct := F.typeCall_int_1 (.str Str.empty t)
  refine C.call (K.tree ?_)
  show wpC _ _ (callAny (.type "int") _) _ _ _
  refine C.pure ⟨Code.quiet_builtin _ (by decide +kernel), K.builtin F.entry_type_call ?_⟩
  rw [Around.under_plain (weight_type_call_type "int" [.str Str.empty t] []) (units_type_call_type "int" [.str Str.empty t] [])]
  have h1 := ft.notType
  have h2 := ft.canCreate
  unfold Builtin.«type.__call__»
  dsimp only
  rw [if_neg ((Bool.not_eq_true _).mpr h1), if_neg ((Bool.not_eq_true _).mpr h2)]
  refine C.bindA (wpAny_of_eq hct (C.bindA (wpAny_of_eq hmro ?_)))
  rw [if_neg (show ¬ (c :: tl).isEmpty = true from Bool.false_ne_true)]
  refine C.bindA (wpAny_of_eq hmade (C.bindA (wpAny_pure ?_)))
  refine C.bind (C.holding (C.call (K.call_builtin ft.plain F.entry_int_new (F.newCall_int_1 _) ?_)))
  unfold Builtin.«int.__new__»
  have f1 := F.conv_sub_int
  have f2 := F.madeHere_int
  have f0 : isType (.type "int") = Pure.pure true := rfl
  dsimp only
  refine C.bindA (wpAny_of_eq f0 ?_)
  rw [if_neg (show ¬ (!true) = true from Bool.false_ne_true)]
  refine C.bindA (wpAny_of_eq hsub ?_)
  rw [if_neg (show ¬ (!true) = true from Bool.false_ne_true)]
  refine C.bindA (wpAny_of_eq f2 ?_)
  rw [if_neg (by simp), if_neg (by simp), List.forIn_nil]
  refine C.bindA (wpAny_pure ?_)
  refine C.bind (m := (int_private% "intFromObject") (.str Str.empty t)) ?_
  have f3 := PySem.W.KIN.str_int
  have f4 := PySem.W.KIN.str_idx
  have f5 := PySem.W.KIN.str_trunc
  have f6 : typeOf (.str Str.empty t) = Pure.pure (.type "str") := rfl
  refine C.bindA (m := callSpecial? (.str Str.empty t) "__int__") ?_
  repeat (any_goals (first | assumption | wp_step))
  refine C.bindA (m := specialOf (.str Str.empty t) (Str.ofString "__index__")) ?_
  repeat (any_goals (first | assumption | wp_step))
  refine C.ite ?_
  rw [if_neg (by simp)]
  refine C.bindA (m := specialOf (.str Str.empty t) (Str.ofString "__trunc__")) ?_
  repeat (any_goals (first | assumption | wp_step))
  refine C.bindA (m := (int_private% "numeralText?") (.str Str.empty t)) ?_
  repeat (any_goals (first | assumption | wp_step))
  have e0 : (Str.empty.cps.all fun x => decide (x < 128)) = true := by simp [Str.empty]
  rw [if_pos e0]
  exact C.text_empty hh hE
end
end Mine
end
section
open PySem PySem.Calls PyProof.Rows PySem.W
set_option maxRecDepth 100000
namespace Mine
/-- under the caller: the tree; else nothing but True -/
noncomputable def guardT {α : Type} (a : α) (t : Sem α) : Sem α := do
  let st ← stack
  if st.any (fun x => x.1.isCaller) then t else pure a
theorem guard_wp {α : Type} {M : Model} {A : Around} {a : α} {t : Sem α} {Q : α → Shared → Prop} {E : Value → Shared → Prop} {s : Shared} (h : wpC M A t Q E s) (h0 : Q a s) : wpAny M A (guardT a t) Q E s := fun Γ p hΓ => by
  unfold guardT
  rw [Sem.wp_bind']
  show Sem.wp M Γ (if ((Γ.code, p) :: Γ.below).any (fun x => x.1.isCaller) = true then t else pure a) _ _ p s
  by_cases hc : ((Γ.code, p) :: Γ.below).any (fun x => x.1.isCaller) = true
  · rw [if_pos hc]
    refine h Γ p hΓ ?_
    rw [List.any_cons, Bool.or_eq_true] at hc
    exact hc
  · rw [if_neg hc]; exact h0
theorem guard_out {α β : Type} {M : Model} {A : Around} {a : α} {b : β} {t : Sem α} {u : Sem β} {Q : α → Shared → Prop} {R : β → Shared → Prop} {E : Value → Shared → Prop} {s : Shared} (h : wpAny M A (guardT a t) Q E s)
    (ht : ∀ Γ, Γ.In A → (∀ p, Sem.wp M Γ t (fun a _ s' => Q a s') (fun e _ s' => E e s') p s) → ∀ p, Sem.wp M Γ u (fun a _ s' => R a s') (fun e _ s' => E e s') p s) (h0 : Q a s → R b s) : wpAny M A (guardT b u) R E s := fun Γ p hΓ => by
  have h1 := fun p => h Γ p hΓ
  unfold guardT at h1 ⊢
  rw [Sem.wp_bind']
  have h2 : ∀ p, Sem.wp M Γ (if ((Γ.code, p) :: Γ.below).any (fun x => x.1.isCaller) = true then t else pure a) (fun a _ s' => Q a s') (fun e _ s' => E e s') p s := fun p => by
    have z := h1 p
    rw [Sem.wp_bind'] at z
    exact z
  show Sem.wp M Γ (if ((Γ.code, p) :: Γ.below).any (fun x => x.1.isCaller) = true then u else pure b) _ _ p s
  by_cases hc : ((Γ.code, p) :: Γ.below).any (fun x => x.1.isCaller) = true
  · rw [if_pos hc]
    refine ht Γ hΓ (fun p' => ?_) p
    have z := h2 p'
    rw [if_pos (show ((Γ.code, p') :: Γ.below).any (fun x => x.1.isCaller) = true from hc)] at z
    exact z
  · rw [if_neg hc]
    have z := h2 p
    rw [if_neg hc] at z
    exact h0 z
theorem guard_step {prog : Program} {w : World} {s : Shared} {t : Sem PySem.Fin} {b : PySem.Fin} {n : Nat} (hz : s.asleep) : schedN (denote table) prog w (n + 1) (.single s ⟨guardT b t, .builtin "claim.caller" {}, default, []⟩) = schedN (denote table) prog w n (.single s ⟨t, .builtin "claim.caller" {}, default, []⟩) := by
  have e := sstep_single (den := denote table) (prog := prog) (w := w) s ⟨guardT b t, .builtin "claim.caller" {}, default, []⟩ rfl hz
  have e2 : step (denote table) prog w s ⟨guardT b t, .builtin "claim.caller" {}, default, []⟩ = .go s ⟨t, .builtin "claim.caller" {}, default, []⟩ := rfl
  rw [e2] at e
  rcases e with e | e
  · show (match sstep _ _ _ _ with | .go c' => schedN _ _ _ n c' | .halt o s => .halted o s) = _
    rw [e]; rfl
  · cases e
end Mine
end
section
open PySem PySem.Calls PyProof.Rows PySem.W
set_option maxRecDepth 100000
namespace Mine
noncomputable abbrev WalkOC (q : Program) (loose : List Str) (XP : (Str → Option Value) → Heap → Prop) (YP : World → Heap → Prop) (r : RowW) (d : DefRec) (kwd : List (Str × Expr)) : Prop :=
  ∀ (w : World) (s₀ s₁ : Shared) (mg mb : Str → Option Value), Ground q loose r.records XP w s₀ mg mb s₁.heap → YP w s₁.heap → ∀ (a : Addr) (o : Obj) (pm cd doc dV kV : Value), s₁.heap.get? a = some o →
    o.data = .func { docDef d.name d.params d.body d.scope pm cd doc with defaults := dV, kwdefaults := kV } → s₁.heap.CodeRec cd d.name → Dflts mg s₁.heap d.params kwd dV kV → mg d.name = some (.ref a) → s₁.gens = #[] →
    ∀ (args : List WData) (vals : List Value) (as : List Addr), r.claim.pre args = true → WData.layableAll args = true → ReadsAllW r.records (classAt s₀.heap) s₁.heap vals args as → WellAll w.params s₁.heap vals args → (∀ a ∈ as, (a == sysModules) = false) →
      GoodWG r.claim (classAt s₀.heap) (ExcName.means s₀.heap) args s₁ (.ok (.ret (.bool true))) s₁ ∧
      wpC (model r.prog w) callerA (PySem.call (.ref a) vals) (fun v s' => GoodWG r.claim (classAt s₀.heap) (ExcName.means s₀.heap) args s₁ (.ok (.ret v)) s')
        (fun e s' => GoodWG r.claim (classAt s₀.heap) (ExcName.means s₀.heap) args s₁ (.error e) s') s₁
theorem after_asleep {p : Program} {w : World} {s : Shared} (h : AfterRun p w s) : s.asleep :=
  AfterImport.life (show AfterImport p w s from h)
/-- the goal, without its make -/
theorem og {P : Prop} (h : ∀ Q : Prop, (P → Q) → Q) : P := h P id
theorem from_guard {c : ClaimW} {b : PySem.Fin} {tree : List Value → Sem PySem.Fin} {defs kps : List Str} {writes : Bool}
    (H : c.HoldsOpenBy (fun vs => ⟨guardT b (tree vs), .builtin "claim.caller" {}, default, []⟩) defs kps writes) : c.HoldsOpenBy (fun vs => ⟨tree vs, .builtin "claim.caller" {}, default, []⟩) defs kps writes := by
  refine ⟨H.1, H.2.1, fun w => ⟨(H.2.2 w).1, fun s hs => og fun _ k => ?_⟩⟩
  obtain ⟨s₀, hf, hg, s₁, hT, h1, h2, h3, hC⟩ := (H.2.2 w).2 s hs
  refine k ⟨s₀, hf, hg, s₁, hT, h1, h2, h3, fun args hp hl ord ho => og fun _ k => ?_⟩
  obtain ⟨vs, s₂, hlaid, n, o, s', hrun, rest⟩ := hC args hp hl ord ho
  have hz : s₂.asleep := Shared.asleep_of_life ((layAllW_rest _ _ _ hlaid).2.2.2.trans (hT.2.1.trans (fence_lifeW hf))) (after_asleep hs)
  cases n with
  | zero => cases hrun
  | succ n =>
    rw [guard_step hz] at hrun
    exact k ⟨vs, s₂, hlaid, n, o, s', hrun, rest⟩
theorem PySem.W.holds_open {r : OpenRow} {q : Program} {loose : List Str} {Xt : Shared → Bool} {XP : (Str → Option Value) → Heap → Prop} {α : Type} {Yf : Shared → α} {Ya : World → α} {YP : World → Heap → Prop} {d : DefRec} {kwd : List (Str × Expr)} {N : Nat}
    (left : LeftO r.prog q loose Xt Yf Ya N) (hY : ∀ w s, Yf s = Ya w → YP w s.heap) (hYk : ∀ w h h', YP w h → (∀ b o, h.get? b = some o → h'.get? b = some o) → YP w h')
    (hX : ∀ s, Xt s = true → XP (s.heap.nsMap mainGlobals) s.heap) (hXk : ∀ mg h h', XP mg h → (∀ b o, h.get? b = some o → h'.get? b = some o) → XP mg h')
    (hdef : defOf q r.name = some (d, kwd)) (hp : r.prog.theDef r.name = some (d.params, d.body, d.scope)) (hk : kwWritten? d.params.kwonlyargs d.params.kw_defaults = some kwd) (hRf : ∀ s, Xt s = true → RecFacts r.records s.heap) (hwr : (!r.writes || r.records.isEmpty) = true)
    (k1 : r.wellSaid = true) (ok : (chainsOk q && opensWell r.prog && (frees r.toRowW && r.within.isEmpty)) = true) (hb : r.prog.bare) (hw : r.toRowW.promised)
    (call : WalkOC q loose XP YP r.toRowW d kwd) : r.Holds := by
  refine ⟨k1, hw, from_guard (b := .done (.ret (.bool true))) (open_anyG (r := r.toRowW) (run := fun f vs => guardT (.bool true) (PySem.call f vs)) (tree := fun vs => guardT (.done (.ret (.bool true))) (do match ← nsGet mainNs r.name with
      | some f => do ret (← PySem.call f vs)
      | none => unsupported "claim.caller:no-such-global")) left hY hYk hX hXk hRf hwr ok hb hw
    (fun vs w s mg f Q E hg hf h => guard_out h (fun Γ hΓ h' p => ?_) id)
    (fun w s hg G n hn => ?_) fun w s₀ s₁ mg mb G Y args vs as hpre hlay L low => ?_)⟩
  · rw [Sem.wp_bind']
    have h0 : wpAny (model r.prog w) callerA (nsGet mainNs r.name) (fun o s' => o = some f ∧ s' = s) E s := wpAny_nsGet hg ⟨hf, rfl⟩
    refine Sem.wp_mono _ Γ _ (fun o p' s' ho => ?_) (fun _ _ _ x => x) p s (h0 Γ p hΓ)
    obtain ⟨rfl, rfl⟩ := ho
    show Sem.wp _ Γ (do ret (← PySem.call f vs)) _ _ p' s'
    rw [Sem.wp_bind']
    exact Sem.wp_mono _ Γ _ (fun v _ _ x => x) (fun _ _ _ x => x) p' s' (h' p')
  · obtain rfl : n = r.name := by split at hn <;> simp_all
    exact pinned_of_view hg G hdef hp hk
  · obtain ⟨a, o, pm, cd, doc, dV, kV, h1, h2, h3, h4, h5⟩ := G.fn hdef
    have z := call w s₀ s₁ mg mb G Y a o pm cd doc dV kV h2 h3 h4 h5 (defOf_name hdef ▸ h1) L.gens args vs as hpre hlay L.reads L.well (L.low low)
    exact ⟨.ref a, h1, guard_wp z.2 z.1⟩
end Mine
end
section
open PySem PySem.Calls PyProof.Rows
set_option maxRecDepth 100000
namespace Mine
noncomputable def sL (xs : List Str) : List PV := xs.map PV.str
theorem Reps.sL : ∀ {g : Ghost} {vs : List Value} {ns : List Str}, Reps g vs (sL ns) → ∃ l : List (Str × Tok), vs = PySem.strValues l ∧ l.map (·.1) = ns
  | _, _, [], r => by obtain rfl := r.inv; exact ⟨[], rfl, rfl⟩
  | _, _, n :: ns, r => by
    obtain ⟨_, _, rfl, h, hs⟩ := r.inv
    obtain ⟨t, rfl⟩ := h.inv
    obtain ⟨l, e1, e2⟩ := hs.sL
    subst e1 e2
    exact ⟨(n, t) :: l, rfl, rfl⟩
theorem Reps.ofS (g : Ghost) : ∀ l : List (Str × Tok), Reps g (PySem.strValues l) (Mine.sL (l.map (·.1)))
  | [] => .nil
  | (x, t) :: l => .cons (.str x t) (Reps.ofS g l)
section
variable {C : Cx} {d : Nat} {env : Env} {ρ : Vars}
/-- a method of a text -/
theorem Ev.methS {value e : Expr} {es : List Expr} {name : Str} {apos pos : Pos} {id : String} {x : Str} {ps : List PV} {q : PV} (slot : Slot "str" name id) (ty : typeOf (.builtin id) = Pure.pure (.type "method_descriptor"))
    (hv : Ev C d env ρ value (.str x)) (ha : Evs C d env ρ (e :: es) ps) (ho : OpOk C d (.str x :: ps) (fop (.builtin id)) q)
    (hb : attributeBase value name env (eval value env) = eval value env := by with_unfolding_all rfl) (hfew : ((backTo pos (starEach (e :: es) env)).all (fun x => !x.1) && (backToKw pos (keywordEach [] env)).all (fun x => x.1.isSome)
      && decide ((e :: es).length + ([] : List Keyword).length + (if ([] : List Keyword).isEmpty then 0 else 1) < 30)) = true := by with_unfolding_all rfl) (hline : (apos.endLine == pos.line) = true := by with_unfolding_all rfl)
    (hp : (backTo pos (starEach (e :: es) env)).any (·.1) = false := by with_unfolding_all rfl) (he : starEach (e :: es) env = (false, eval e env) :: starEach es env := by with_unfolding_all rfl) :
    Ev C d env ρ (.Call (.Attribute value name apos) (e :: es) [] pos) q := fun A hA s g X Q E hQ => by
  refine wpAny_Call_method_lateS hb hfew hline (hv A hA s g X _ E fun v g' h' tk G r => ?_)
  obtain ⟨t, rfl⟩ := r.inv
  · refine ⟨"str", id, PySem.F.plainAttrs_str, slot, ty, typeIs_str _ _ _, (fun _ e => nomatch e), Calls.callWith_builtin hp ?_⟩
    have h := ha A hA { s with heap := h', toks := tk } g' pos (X.grow G) (fun vs s₁ => wpAny C.M A (call (.builtin id) (.str x t :: vs)) Q E s₁) E fun vs g'' h'' tk' G' rs =>
      ho A hA _ g'' G'.sub ((X.grow G).grow G').glo (.str x t :: vs) (.cons (.str _ _) rs) Q E fun v g₃ h₃ tk₃ G₃ r => hQ v g₃ h₃ tk₃ ((G.trans G').trans G₃) r
    rw [he] at h ⊢
    exact Calls.evalArgs_plain h
theorem op_find {x y : Str} : OpOk C d [.str x, .str y] (fop (.builtin "str.find")) (.int (Txt.find x y)) := .of2 fun _ _ s g hs _ _ _ r1 r2 Q E hQ => by
  (first | obtain rfl := r1.inv | obtain ⟨_, rfl⟩ := r1.inv); (first | obtain rfl := r2.inv | obtain ⟨_, rfl⟩ := r2.inv); exact SC.find (hQ _ g s.heap _ (Grow.refl hs) (.int _ _))
theorem op_find3 {x y : Str} {i : Int} : OpOk C d [.str x, .str y, .int i] (fop (.builtin "str.find")) (.int (Txt.find3 x y i)) := fun _ _ s g hs _ vs rs Q E hQ => by
  obtain ⟨_, _, rfl, r1, rs⟩ := rs.inv
  obtain ⟨_, _, rfl, r2, rs⟩ := rs.inv
  obtain ⟨_, _, rfl, r3, rs⟩ := rs.inv
  obtain rfl := rs.inv
  obtain ⟨_, rfl⟩ := r1.inv
  obtain ⟨_, rfl⟩ := r2.inv
  obtain ⟨_, rfl⟩ := r3.inv
  exact SC.find3 (hQ _ g s.heap _ (Grow.refl hs) (.int _ _))
theorem op_split {x y : Str} (h1 : (decide (x.length < y.length) || decide (Builtin.Str.strKind x < Builtin.Str.strKind y)) = false) (hy : (y.length == 0) = false) (hf : (Builtin.Str.occurrences x y 0 x.length (x.length + 1)).isEmpty = false)
    (hsz : x.length ≤ sizeLine) (hsz2 : (Builtin.Str.partsBetween x (Builtin.Str.occurrences x y 0 x.length (x.length + 1)) y.length).length ≤ sizeLine) :
    OpOk C d [.str x, .str y] (fop (.builtin "str.split")) (.lst (sL (Builtin.Str.partsBetween x (Builtin.Str.occurrences x y 0 x.length (x.length + 1)) y.length))) := .of2 fun _ _ s g hs _ _ _ r1 r2 Q E hQ => by
  (first | obtain rfl := r1.inv | obtain ⟨_, rfl⟩ := r1.inv); (first | obtain rfl := r2.inv | obtain ⟨_, rfl⟩ := r2.inv)
  refine call_meets F.slot_str_split (typeIs_str _ _ _) F.entry_str_split (F.args_str_split_2 _ _) (meets_str_split_sep x y _ _ h1 hy hf hsz hsz2) ?_
  have Gr := Grow.alloc hs (o := { cls := .type "list", data := .seq (strsFrom s.toks (Builtin.Str.partsBetween x (Builtin.Str.occurrences x y 0 x.length (x.length + 1)) y.length)).toArray }) rfl
  refine hQ _ _ _ _ Gr ?_
  refine .lst _ (strsFrom s.toks (Builtin.Str.partsBetween x (Builtin.Str.occurrences x y 0 x.length (x.length + 1)) y.length)) 0 _ (gAdd_self ..) ?_
  rw [strsFrom_eq]
  have := Reps.ofS (gAdd g s.heap.objs.size { cls := .type "list", data := .seq (strsFrom s.toks (Builtin.Str.partsBetween x (Builtin.Str.occurrences x y 0 x.length (x.length + 1)) y.length)).toArray }) (numbered s.toks (Builtin.Str.partsBetween x (Builtin.Str.occurrences x y 0 x.length (x.length + 1)) y.length))
  rw [numbered_texts] at this
  rw [strsFrom_eq] at this
  exact this
theorem op_join {x : Str} {xs : List Str} (hok : JoinOk x xs = true) : OpOk C d [.str x, .lst (sL xs)] (fop (.builtin "str.join")) (.str (Str.join x xs)) := .of2 fun _ _ s g hs _ _ _ r1 r2 Q E hQ => by
  (first | obtain rfl := r1.inv | obtain ⟨_, rfl⟩ := r1.inv)
  obtain ⟨a, its, n, rfl, ha, rs⟩ := r2.isList
  obtain ⟨l, rfl, rfl⟩ := rs.sL
  refine SC.join (isList_lobj (hs _ _ ha)) rfl hok fun t' k => ?_
  show Q (.str (Builtin.Str.glued x (l.map (·.1))) t') _
  rw [StrLaws.glued_eq_join]
  exact hQ _ g s.heap k (Grow.refl hs) (.str _ _)
theorem fn_intS {x : Str} {n : Int} (hn : PySem.intText? x = some n) (hl : x.length ≤ 640) : OpOk C d [.str x] (fop (.type "int")) (.int n) := .of1 fun _ _ s g hs _ _ r1 Q E hQ => by
  (first | obtain rfl := r1.inv | obtain ⟨_, rfl⟩ := r1.inv); exact PySem.W.KIN.call_text hn hl (hQ _ g s.heap _ (Grow.refl hs) (.int _ _))
/-- 3 times a sign -/
theorem op_mulIS {c : Nat} : OpOk C d [.int 3, .str ⟨#[c]⟩] (bop .Mult) (.str ⟨#[c, c, c]⟩) := .of2 fun _ _ s g hs _ _ _ r1 r2 Q E hQ => by
  obtain ⟨t, rfl⟩ := r1.inv
  obtain ⟨u, rfl⟩ := r2.inv
  refine lm_binaryOp_repeat_right (T := "str") (U := "int") (id := "str.__mul__") (by decide) (fun s' => typeIs_int s' 3 t) (typeIs_str _ _ _) F.fills_int_mul noFill_str_mul F.slot_int_mul lm_noRepeat_int repeat_str F.slot_int_index.lookup ?_
  refine call_gives F.slot_int_mul (typeIs_int s 3 t) F.entry_int_mul (F.args_int_mul_2 _ _) (AutoIntG3.int___mul___int_str_0 3 t ⟨#[c]⟩ u) ⟨rfl, typeIs_str _ _ _, ?_⟩
  refine call_gives F.slot_str_mul (typeIs_str s _ _) F.entry_str_mul (F.args_str_mul_2 _ _) (gives_str_mul ⟨#[c]⟩ 3 u t (by decide) (fun _ _ => by show ¬ ((1 : Nat) : Int) > _; decide) (fun _ _ => by show Builtin.Str.tooLong (1 * 3) = false; decide)) ?_
  rw [if_neg (by decide), if_neg (by show ¬ ((decide ((3 : Int) = 1) || (1 : Nat) == 0) = true); decide)]
  exact ⟨by rw [sizeLine_eq]; show 3 ≤ _; decide, hQ _ g s.heap _ (Grow.refl hs) (.str _ _)⟩
theorem fn_strI {n : Int} (h0 : 0 ≤ n) (h1 : n < 10) : OpOk C d [.int n] (fop (.type "str")) (.str ⟨#[(n.toNat + 48)]⟩) := .of1 fun _ _ s g hs _ _ r1 Q E hQ => by
  (first | obtain rfl := r1.inv | obtain ⟨_, rfl⟩ := r1.inv)
  have h : ∀ k : Nat, k < 10 → (Str.ofString (toString ((k : Nat) : Int))) = ⟨#[k + 48]⟩ := by decide +kernel
  obtain ⟨k, rfl⟩ := Int.eq_ofNat_of_zero_le h0
  have hk : k < 10 := by omega
  refine P.str_of_int (shown (N := 2 ^ 1920) (by omega) (by omega) (Int.le_refl _)) ?_
  have e : (toString (Int.ofNat k) : Str) = ⟨#[k + 48]⟩ := h k hk
  refine cast ?_ (hQ (.str ⟨#[k + 48]⟩ s.toks) g s.heap (s.toks + 1) (Grow.refl hs) (.str _ _))
  rw [← e]; rfl
/-- the text from lo up to hi -/
theorem Ev.sliceS {value : Expr} {lower upper : Option Expr} {p pos : Pos} {x q : Str} {lo hi : Option Int} (hv : Ev C d env ρ value (.str x))
    (h1 : match lower, lo with | some e, some i => Ev C d env ρ e (.int i) | Option.none, Option.none => True | _, _ => False) (h2 : match upper, hi with | some e, some i => Ev C d env ρ e (.int i) | Option.none, Option.none => True | _, _ => False)
    (hw : (Builtin.Str.strSliceIndices lo hi 1 x.length).length ≠ x.length) (hq : ⟨((Builtin.Str.strSliceIndices lo hi 1 x.length).filterMap (x.cps[·]?)).toArray⟩ = q) (hz : q.length ≤ sizeLine)
    (ht : ∀ o r, letTemporaryGo value o r = Pure.pure () := by intro _ _; rfl) : Ev C d env ρ (.Subscript value (.Slice lower upper Option.none p) pos) (.str q) := fun A hA s g X Q E hQ => by
  subst hq
  have part : ∀ {o : Option Expr} {i : Option Int}, (match o, i with | some e, some i => Ev C d env ρ e (.int i) | Option.none, Option.none => True | _, _ => False) → ∀ (s : Shared) (g : Ghost), EH C env ρ g s.heap → ∀ (Q : Value → Shared → Prop), (∀ (l : Option (Int × Tok)) g' h' tk, l.map (·.1) = i → Grow g s.heap g' h' → Q (partValue l) { s with heap := h', toks := tk }) → wpAny C.M A (evalPart o env) Q E s := by
    intro o i h s g X Q hQ
    match o, i, h with
    | some e, some i, h =>
      show wpAny _ A (eval e env) _ _ _
      exact h A hA s g X Q E fun v g' h' tk G r => by
        obtain ⟨t, rfl⟩ := r.inv
        exact hQ (some (i, t)) g' h' tk rfl G
    | Option.none, Option.none, _ =>
      rw [evalPart_none]
      exact wpAny_pure (hQ Option.none g s.heap s.toks rfl (Grow.refl X.sub))
  refine wpAny_Subscript_str_slice (hv A hA s g X _ E fun v g' h' tk G r => ?_) ht
  refine part h1 _ g' (X.grow G) _ fun l g₁ hh₁ tk₁ el G₁ => ?_
  refine part h2 _ g₁ ((X.grow G).grow G₁) _ fun u g₂ hh₂ tk₂ eu G₂ => ?_
  obtain ⟨t, rfl⟩ := r.inv
  · refine ⟨x, t, l, u, rfl, rfl, rfl, ?_⟩
    have e1 : slicePicked x l u Option.none = Builtin.Str.strSliceIndices lo hi 1 x.length := by unfold slicePicked; rw [el, eu]; rfl
    unfold sliceMade
    rw [e1, if_neg (by
      rw [Bool.and_eq_true, not_and]
      intro _ e
      exact hw (by simpa using e))]
    exact ⟨hz, hQ _ g₂ _ _ (((G.trans G₁).trans G₂).trans (Grow.hidden G₂.sub _)) (.str _ _)⟩
end
end Mine
end
section
open PySem PySem.Calls PyProof.Rows Builtin.Str StrLaws
set_option maxRecDepth 100000
namespace Mine
noncomputable def idxs (c : Nat) : Nat → List Nat → List Nat
  | _, [] => []
  | i, a :: r => if a = c then i :: idxs c (i + 1) r else idxs c (i + 1) r
theorem idxs_app (c : Nat) : ∀ (i : Nat) (l m : List Nat), idxs c i (l ++ m) = idxs c i l ++ idxs c (i + l.length) m
  | i, [], m => rfl
  | i, a :: r, m => by
    show (if a = c then i :: idxs c (i + 1) (r ++ m) else idxs c (i + 1) (r ++ m)) = (if a = c then i :: idxs c (i + 1) r else idxs c (i + 1) r) ++ _
    rw [idxs_app c (i + 1) r m, show i + 1 + r.length = i + (a :: r).length by simp; omega]
    split <;> rfl
theorem idxs_none (c : Nat) : ∀ (i : Nat) (l : List Nat), c ∉ l → idxs c i l = []
  | i, [], _ => rfl
  | i, a :: r, h => by
    rw [List.mem_cons, not_or] at h
    show (if a = c then _ else _) = _
    rw [if_neg (Ne.symm h.1), idxs_none c (i + 1) r h.2]
theorem occ_one (x : Str) (c : Nat) : ∀ (l : List Nat) (i : Nat) (acc : Array Nat) (free : Nat), x.cps.toList.drop i = l → free ≤ i → acc.size ≤ i → i ≤ x.length →
    (forIn (List.range' i (l.length + 1)) (acc, free) (occBody x ⟨#[c]⟩ x.length (x.length + 1))).run.fst.toList = acc.toList ++ idxs c i l
  | [], i, acc, free, hl, hf, ha, hi => by
    have hlen : x.length ≤ i := by
      have := List.drop_eq_nil_iff.mp hl
      simpa [Str.length] using this
    rw [List.length_nil, show List.range' i (0 + 1) = [i] from rfl, List.forIn_cons]
    unfold occBody
    rw [if_neg (by
      rintro ⟨⟨_, h⟩, _⟩
      have e : (⟨#[c]⟩ : Str).length = 1 := rfl
      omega)]
    show acc.toList = _
    rw [show idxs c i [] = [] from rfl, List.append_nil]
  | a :: r, i, acc, free, hl, hf, ha, hi => by
    have hlt : i < x.length := by
      have : i < x.cps.toList.length := by
        apply Nat.lt_of_not_le
        intro h
        rw [List.drop_eq_nil_of_le h] at hl; cases hl
      simpa [Str.length] using this
    have hget : x.cps.toList[i]? = some a := by
      have := congrArg List.head? hl
      rw [List.head?_drop] at this
      exact this
    have hr : x.cps.toList.drop (i + 1) = r := by
      rw [← List.drop_drop, hl]; rfl
    rw [List.length_cons, show List.range' i (r.length + 1 + 1) = i :: List.range' (i + 1) (r.length + 1) from List.range'_succ, List.forIn_cons]
    have key := subAt_one x c i
    rw [hget] at key
    by_cases hc : a = c
    · subst hc
      have h2 := key.mpr rfl
      have hb : occBody x ⟨#[a]⟩ x.length (x.length + 1) i (acc, free) = pure (ForInStep.yield (acc.push i, i + (⟨#[a]⟩ : Str).length)) := by
        unfold occBody
        rw [if_pos ⟨⟨⟨by show acc.size < _; omega, hf⟩, h2.1⟩, h2.2⟩]
      rw [hb]
      show (forIn (List.range' (i + 1) (r.length + 1)) (acc.push i, i + 1) (occBody x ⟨#[a]⟩ x.length (x.length + 1))).run.fst.toList = _
      rw [occ_one x a r (i + 1) (acc.push i) (i + 1) hr (Nat.le_refl _) (by simp; (clear hl hf hi hlt hget hr key h2 hb; omega)) hlt]
      show _ = acc.toList ++ (if a = a then i :: idxs a (i + 1) r else idxs a (i + 1) r)
      rw [if_pos rfl]; simp
    · have hb : occBody x ⟨#[c]⟩ x.length (x.length + 1) i (acc, free) = pure (ForInStep.yield (acc, free)) := by
        unfold occBody
        rw [if_neg (fun h => hc (Option.some.inj (key.mp ⟨h.1.2, h.2⟩)))]
      rw [hb]
      show (forIn (List.range' (i + 1) (r.length + 1)) (acc, free) (occBody x ⟨#[c]⟩ x.length (x.length + 1))).run.fst.toList = _
      rw [occ_one x c r (i + 1) acc free hr (by omega) (by omega) hlt]
      show _ = acc.toList ++ (if a = c then i :: idxs c (i + 1) r else idxs c (i + 1) r)
      rw [if_neg hc]
theorem occ_all (x : Str) (c : Nat) : occurrences x ⟨#[c]⟩ 0 x.length (x.length + 1) = idxs c 0 x.cps.toList := by
  rw [occ_eq]
  have h := occ_one x c x.cps.toList 0 #[] 0 rfl (Nat.le_refl _) (Nat.le_refl _) (Nat.zero_le _)
  rw [show x.cps.toList.length + 1 = x.length + 1 - 0 from by simp [Str.length]] at h
  rw [h]; rfl
/-- the reply -/
noncomputable def rep (c : Nat) (ds R : List Nat) : List Nat := [50, 50, 57, 32, 40] ++ ([c, c, c] ++ (ds ++ ([c, 41] ++ R)))
noncomputable def mid (c : Nat) (ds : List Nat) : List Nat := [c, c, c] ++ (ds ++ [c])
variable {c : Nat} {ds R : List Nat}
theorem mid_cuts (h : c ∉ ds) : occurrences ⟨(mid c ds).toArray⟩ ⟨#[c]⟩ 0 (⟨(mid c ds).toArray⟩ : Str).length ((⟨(mid c ds).toArray⟩ : Str).length + 1) = [0, 1, 2, 3 + ds.length] := by
  rw [occ_all]
  show idxs c 0 (mid c ds) = _
  unfold mid
  rw [idxs_app, idxs_app, idxs_none c _ ds h]
  simp [idxs]
theorem sub_list (l : List Nat) (i j : Nat) : (strSub ⟨l.toArray⟩ i j).cps.toList = (l.drop i).take (j - i) := strSub_toList _ _ _
theorem str_of_list {x : Str} {l : List Nat} (h : x.cps.toList = l) : x = ⟨l.toArray⟩ := by
  subst h; rfl
theorem mid_parts (h : c ∉ ds) : partsBetween ⟨(mid c ds).toArray⟩ (occurrences ⟨(mid c ds).toArray⟩ ⟨#[c]⟩ 0 (⟨(mid c ds).toArray⟩ : Str).length ((⟨(mid c ds).toArray⟩ : Str).length + 1)) (⟨#[c]⟩ : Str).length = [Str.empty, Str.empty, Str.empty, ⟨ds.toArray⟩, Str.empty] := by
  rw [mid_cuts h, partsBetween_eq]
  have e : (⟨#[c]⟩ : Str).length = 1 := rfl
  have el : (⟨(mid c ds).toArray⟩ : Str).length = ds.length + 4 := by unfold Str.length mid; simp
  rw [e]
  simp only [partsFrom]
  rw [el]
  have s : ∀ i j l, ((mid c ds).drop i).take (j - i) = l → strSub ⟨(mid c ds).toArray⟩ i j = ⟨l.toArray⟩ := fun i j l h => str_of_list ((sub_list _ _ _).trans h)
  rw [s 0 0 [] rfl, s (0 + 1) 1 [] (by simp), s (1 + 1) 2 [] (by simp), s (2 + 1) (3 + ds.length) ds (by unfold mid; simp), s (3 + ds.length + 1) (ds.length + 4) [] (by
    rw [List.drop_eq_nil_of_le (by unfold mid; simp; omega)]; simp)]
  rfl
theorem rep_len : (rep c ds R).length = ds.length + R.length + 10 := by unfold rep; simp; omega
theorem rep_left : Txt.find ⟨(rep c ds R).toArray⟩ ⟨#[40]⟩ = 4 := by
  have h := find3_spec ⟨(rep c ds R).toArray⟩ 40 0
  have hl : (⟨(rep c ds R).toArray⟩ : Str).length = ds.length + R.length + 10 := by show (rep c ds R).toArray.size = _; simp [rep_len]
  have f0 : fromIndex (⟨(rep c ds R).toArray⟩ : Str).length 0 = 0 := by unfold fromIndex; simp
  have e : Txt.find3 ⟨(rep c ds R).toArray⟩ ⟨#[40]⟩ 0 = Txt.find ⟨(rep c ds R).toArray⟩ ⟨#[40]⟩ := by unfold Txt.find3 Txt.find; rw [f0]; rfl
  rw [e, f0, hl] at h
  have g : ∀ v, (⟨(rep c ds R).toArray⟩ : Str).cps.getD v 0 = (rep c ds R).getD v 0 := fun v => by simp [Array.getD_eq_getD_getElem?, List.getD_eq_getElem?_getD]
  simp only [g] at h
  rcases h with ⟨_, h⟩ | ⟨k, h1, _, h3, h4, h5⟩
  · exact absurd (by unfold rep; simp) (h 4 (by omega) (by omega))
  · have : k = 4 := by
      rcases Nat.lt_trichotomy k 4 with hk | hk | hk
      · exfalso
        unfold rep at h4
        rcases (by (clear hl f0 e g h1 h3 h4 h5; omega) : k = 0 ∨ k = 1 ∨ k = 2 ∨ k = 3) with rfl | rfl | rfl | rfl <;> simp at h4
      · exact hk
      · exact absurd (by unfold rep; simp) (h5 4 (by (clear hl f0 e g h1 h3 h4 h5 hk; omega)) hk)
    rw [h1, this]; rfl
theorem rep_right (hc : c ≠ 41) (hd : 41 ∉ ds) : Txt.find3 ⟨(rep c ds R).toArray⟩ ⟨#[41]⟩ 5 = 9 + ds.length := by
  have h := find3_spec ⟨(rep c ds R).toArray⟩ 41 5
  have hl : (⟨(rep c ds R).toArray⟩ : Str).length = ds.length + R.length + 10 := by show (rep c ds R).toArray.size = _; simp [rep_len]
  have f0 : fromIndex (⟨(rep c ds R).toArray⟩ : Str).length 5 = 5 := by unfold fromIndex; rfl
  rw [f0, hl] at h
  have g : ∀ v, (⟨(rep c ds R).toArray⟩ : Str).cps.getD v 0 = (rep c ds R).getD v 0 := fun v => by simp [Array.getD_eq_getD_getElem?, List.getD_eq_getElem?_getD]
  simp only [g] at h
  have at9 : (rep c ds R).getD (9 + ds.length) 0 = 41 := by
    unfold rep
    rw [List.getD_eq_getElem?_getD, List.getElem?_append_right (by simp; omega), List.getElem?_append_right (by simp; (clear hc hd hl f0 g h; omega)), List.getElem?_append_right (by simp; (clear hc hd hl f0 g h; omega))]
    simp
    rw [show 9 + ds.length - 5 - 3 - ds.length = 1 from by (clear hc hd hl f0 g h; omega)]; rfl
  have low : ∀ v, 5 ≤ v → v < 9 + ds.length → (rep c ds R).getD v 0 ≠ 41 := fun v h1 h2 => by
    have hm : (rep c ds R).getD v 0 ∈ [c, c, c] ++ (ds ++ [c]) := by
      have e : rep c ds R = [50, 50, 57, 32, 40] ++ (([c, c, c] ++ (ds ++ [c])) ++ ([41] ++ R)) := by unfold rep; simp
      rw [e, List.getD_eq_getElem?_getD, List.getElem?_append_right (by simpa using h1), List.getElem?_append_left (by simp; (clear hc hd hl f0 g h at9 e; omega))]
      rw [List.getElem?_eq_getElem (by simp; (clear hc hd hl f0 g h at9 e; omega))]
      exact List.getElem_mem _
    intro h
    rw [h] at hm
    simp at hm
    rcases hm with hm | hm | hm <;> first | exact hc hm.symm | exact hd hm
  rcases h with ⟨_, h⟩ | ⟨k, h1, h2, h3, h4, h5⟩
  · exact absurd at9 (h _ (by omega) (by omega))
  · have : k = 9 + ds.length := by
      rcases Nat.lt_trichotomy k (9 + ds.length) with hk | hk | hk
      · exact absurd h4 (low k h2 hk)
      · exact hk
      · exact absurd at9 (h5 _ (by (clear hc hd hl f0 g at9 low h1 h2 h3 h4 h5 hk; omega)) hk)
    rw [h1, this]; simp
end Mine
end
section
open PySem PySem.Calls PyProof.Rows
set_option maxRecDepth 100000
namespace Mine
/-- the same under another exempt address -/
theorem CallOk.re {w : World} {d : Nat} {r : DefRow} {ps : List PV} {q : PV} (h : CallOk (CC w) d r ps q) (ex : Exm) (fr : Around → Prop) : CallOk (CX w ex fr) d r ps q := fun A hA s g hs hg f o pm cd doc ho hd hcd vs rs Q E hQ =>
  h A ⟨hA.handled, hA.depth, hA.units, trivial⟩ s g hs hg f o pm cd doc ho hd hcd vs rs Q E hQ
section
variable {M : Model} {A : Around} {E : Value → Shared → Prop} {s : Shared} {env : Env}
theorem C.callWith_type {pos : Pos} {T : String} {e : Expr} {rest : List Expr} {Q : Value → Shared → Prop}
    (h : wpAny M A (spliced (backTo pos (starEach (e :: rest) env))) (fun vs s₁ => wpC M A (PySem.call (.type T) vs) Q E s₁) E s) (he : starEach (e :: rest) env = (false, eval e env) :: starEach rest env := by rfl)
    (hplain : (backTo pos (starEach rest env)).any (·.1) = false := by rfl) : wpC M A (callWith pos (.type T) [] (backTo pos (starEach (e :: rest) env)) []) Q E s := by
  rw [he] at h ⊢
  unfold callWith
  refine C.bindA (wpAny_holding (wpAny_mono (Calls.evalArgs_plain (Q := fun a s₁ => a.kw = [] ∧ wpC M A (PySem.call (.type T) a.pos) Q E s₁) (wpAny_mono h (fun vs s₁ h₁ => ⟨rfl, h₁⟩) fun _ _ e => e)) (fun a s₁ h₁ => C.bindA (wpAny_standAt ?_)) fun _ _ x => x))
  have hp : (backTo pos ((false, PySem.eval e env) :: starEach rest env)).any (·.1) = false := by
    exact (Bool.false_or _).trans hplain
  obtain ⟨a1, a2⟩ := a
  obtain ⟨rfl, h₁⟩ := h₁
  rw [show ((backTo pos ((false, PySem.eval e env) :: starEach rest env)).any (·.1) || ([] : List (Option Str × Sem Value)).any (·.1.isNone)) = false by rw [hp]; rfl]
  refine C.bindA (wpAny_pure ?_)
  exact C.bind (C.mono h₁ (fun r s₂ hr => C.of (wpAny_bind (wpAny_holding (wpAny_point (wpAny_pure hr))))) fun _ _ x => x)
theorem C.callWith_def {pos : Pos} {f : Addr} {o : Obj} {fd : FuncData} {e : Expr} {rest : List Expr} {Q : Value → Shared → Prop} (hdat : o.data = .func fd)
    (h : wpAny M A (spliced (backTo pos (starEach (e :: rest) env))) (fun vs s₁ => s₁.heap.get? f = some o ∧ wpC M A (PySem.call (.ref f) vs) Q E s₁) E s) (he : starEach (e :: rest) env = (false, eval e env) :: starEach rest env := by rfl) :
    wpC M A (callWith pos (.ref f) [] (backTo pos (starEach (e :: rest) env)) []) Q E s := by
  rw [he] at h ⊢
  unfold callWith
  refine C.bindA (wpAny_holding (wpAny_mono (Calls.evalArgs_plain (Q := fun a s₁ => a.kw = [] ∧ s₁.heap.get? f = some o ∧ wpC M A (PySem.call (.ref f) a.pos) Q E s₁) (wpAny_mono h (fun vs s₁ h₁ => ⟨rfl, h₁⟩) fun _ _ e => e)) (fun a s₁ h₁ => C.bindA (wpAny_standAt ?_)) fun _ _ x => x))
  obtain ⟨a1, a2⟩ := a
  obtain ⟨rfl, h2, h₁⟩ := h₁
  have tail : ∀ {t : Sem Value}, wpC M A t Q E s₁ → wpC M A (t >>= fun r => PySem.holding [r] point >>= fun _ => Pure.pure r) Q E s₁ :=
    fun ht => C.bind (C.mono ht (fun r s₂ hr => C.of (wpAny_bind (wpAny_holding (wpAny_point (wpAny_pure hr))))) fun _ _ x => x)
  cases hs : ((backTo pos ((false, PySem.eval e env) :: starEach rest env)).any (·.1) || ([] : List (Option Str × Sem Value)).any (·.1.isNone)) <;>
    refine C.bindA (m := keeperOf (.ref f)) ?_ <;> unfold keeperOf <;>
    refine wpAny_bind (wpAny_load h2 ?_) <;> rw [hdat] <;> refine wpAny_pure ?_
  · dsimp only
    refine C.ite ?_
    split
    · exact tail h₁
    · refine tail ?_
      unfold callMarked
      exact C.keep h₁
  · dsimp only
    refine tail ?_
    unfold callMarked
    exact C.keep h₁
theorem C.Call_append {o elt : Expr} {apos pos : Pos} {Q : Value → Shared → Prop} {prog : Program} {w : World}
    (hbase : attributeBase o "append" env (eval o env) = eval o env)
    (hfew : ((backTo pos (starEach [elt] env)).all (fun x => !x.1) && (backToKw pos (keywordEach [] env)).all (fun x => x.1.isSome)
      && decide (([elt] : List Expr).length + ([] : List Keyword).length + (if ([] : List Keyword).isEmpty then 0 else 1) < 30)) = true)
    (hline : (apos.endLine == pos.line) = true)
    (htrees : backTo pos (starEach [elt] env) = [(false, eval elt env)])
    (h : wpAny (model prog w) A (eval o env) (fun ov s₁ => ∃ D its, ov = .ref D ∧ PlainL s₁.heap D its ∧
      wpC (model prog w) A (eval elt env) (fun y s₂ => wpAny (model prog w) A (PySem.call (.builtin "list.append") [.ref D, y]) Q E s₂) E s₁) E s) :
    wpC (model prog w) A (eval (.Call (.Attribute o "append" apos) [elt] [] pos) env) Q E s := by
  rw [arm_eval_Call, hbase]
  refine C.bindA (wpAny_mono h (fun ov s₁ h₁ => ?_) fun _ _ e => e)
  obtain ⟨D, its, rfl, ⟨ob, n, hob, hc, hd, _⟩, hcall⟩ := h₁
  refine C.bindA (wpAny_standAt ?_)
  have fin : wpC (model prog w) A (callWith pos (.builtin "list.append") [.ref D] (backTo pos (starEach [elt] env)) []) Q E s₁ := by
    rw [htrees]
    exact C.callWith_builtin rfl (C.evalArgs (C.spliced_cons (C.mono hcall (fun y s₂ h₂ => C.spliced_nil (C.of h₂)) fun _ _ e => e)))
  have hform : methodCallForm (([elt] : List Expr).length + ([] : List Keyword).length) (backTo pos (starEach [elt] env)) (backToKw pos (keywordEach [] env)) = true := hfew
  have hpos : methodCallPos true o env apos pos = Pure.pure pos := by unfold methodCallPos; simp [hline]
  unfold methodCall
  rw [hform]
  refine C.bindA (wpAny_holding (Calls.getMethod_list_append hob hc hd ?_))
  exact C.bindA (wpAny_of_eq hpos fin)
end
/-- a block under the caller -/
noncomputable def XtC (t : Env → Sem Flow) (C : Cx) (d : Nat) (env : Env) (σ : PSt) (Post : Option PV → PSt → Prop) : Prop :=
  ∀ A, AOk C d A → ∀ (s : Shared) hB gB μ g, SA C env hB gB σ μ g s.heap → ∀ (Q : Flow → Shared → Prop) (E : Value → Shared → Prop),
    (∀ σ' μ' g' h' tk, Post none σ' → SA C env hB gB σ' μ' g' h' → Stp C.ex env μ g s.heap μ' g' h' → Q .next { s with heap := h', toks := tk }) →
    (∀ p σ' v g' h' tk, Post (some p) σ' → GrowX C.ex env gB hB g' h' → Rep g' v p → Q (.ret v) { s with heap := h', toks := tk }) →
    wpC C.M A (t env) Q E s
noncomputable def XsC (C : Cx) (d : Nat) (env : Env) (σ : PSt) (st : Stmt) (Post : Option PV → PSt → Prop) : Prop := XtC (exec st) C d env σ Post
noncomputable def ExC (C : Cx) (d : Nat) (env : Env) (σ : PSt) (ss : List Stmt) (Post : Option PV → PSt → Prop) : Prop := XtC (execs ss) C d env σ Post
section
variable {C : Cx} {d : Nat} {env : Env} {σ : PSt} {Post : Option PV → PSt → Prop}
theorem XsC.of {st : Stmt} (h : Xs C d env σ st Post) : XsC C d env σ st Post := fun A hA s hB gB μ g S Q E hn hr => Mine.C.of (h A hA s hB gB μ g S Q E hn hr)
theorem ExC.of {ss : List Stmt} (h : Ex C d env σ ss Post) : ExC C d env σ ss Post := fun A hA s hB gB μ g S Q E hn hr => Mine.C.of (h A hA s hB gB μ g S Q E hn hr)
theorem ExC.cons {st : Stmt} {ss : List Stmt} {P1 : Option PV → PSt → Prop} (h1 : XsC C d env σ st P1) (h2 : ∀ σ', P1 none σ' → ExC C d env σ' ss Post) (h3 : ∀ p σ', P1 (some p) σ' → Post (some p) σ' := by intro _ _ h; exact nomatch h.1) : ExC C d env σ (st :: ss) Post :=
  fun A hA s hB gB μ g S Q E hn hr => Mine.C.execs_cons (h1 A hA s hB gB μ g S _ E
    (fun σ' μ' g' h' tk hp S' st => h2 σ' hp A hA _ hB gB μ' g' S' Q E (fun σ'' μ'' g'' h'' tk' hp' S'' st' =>
      hn σ'' μ'' g'' h'' tk' hp' S'' (Stp.trans S'.frm st st')) fun p σ'' v g'' h'' tk' hp' G r => hr p σ'' v g'' h'' tk' hp' G r)
    fun p σ' v g' h' tk hp G r => hr p σ' v g' h' tk (h3 p σ' hp) G r)
theorem XsC.ifs {test body orelse pos} {b : Bool} (ht : Tr C d env σ.vars test b) (h : if b then ExC C d env σ body Post else ExC C d env σ orelse Post) : XsC C d env σ (.If test body orelse pos) Post := fun A hA s hB gB μ g S Q E hn hr =>
  Mine.C.If (ht A hA s g S.eh _ _ fun g' h' tk G => by
    have hn' : ∀ σ' μ' g'' h'' tk', Post none σ' → SA C env hB gB σ' μ' g'' h'' → Stp C.ex env μ g' h' μ' g'' h'' → Q .next { s with heap := h'', toks := tk' } := fun σ' μ' g'' h'' tk' hp S' st =>
      hn σ' μ' g'' h'' tk' hp S' (Stp.trans (S.grown G).frm (Stp.grow G) st)
    cases b with
    | true => exact h A hA _ hB gB μ g' (S.grown G) Q E hn' hr
    | false => exact h A hA _ hB gB μ g' (S.grown G) Q E hn' hr)
theorem XsC.for {x : Str} {px iter body pos items} (fe : FEnv env) (hx : Sto env x) (hI : Itb C d env σ.vars iter items) (Inv : Nat → PSt → Prop) (h0 : Inv 0 σ) (hm : ∀ i σ', Inv i σ' → ∀ y, σ'.gro = some y → y.1 ≠ x)
    (step : ∀ i σ' p, Inv i σ' → items[i]? = some p → ExC C d env (σ'.set x p) body (fun o σ'' => o = none ∧ Inv (i + 1) σ'')) (hs : ∀ x, foldedSetIterable iter env x = Pure.pure x) :
    XsC C d env σ (.For (.Name x px) iter body [] pos) (fun o σ' => o = none ∧ Inv items.length σ') := fun A hA s hB gB μ g S Q E hn _ => by
  refine Mine.C.For (hI A hA s g S.eh _ E fun I fp St g₁ h₁ tk₁ G hnew its => ?_) hs
  obtain ⟨hIB, hIA, _⟩ := S.apart hnew
  refine K.forLoop (ForAt C env hB gB μ g g₁ I items.length Inv St s) ?_ (items.length + 1) ((ForInv.start its S G h0 hnew).at tk₁) (by intro _; rfl)
  rintro k s' ⟨i, σ', μ', g', h', tk, rfl, rfl, V⟩
  by_cases hlt : i < items.length
  · refine its.W.item i _ _ _ hlt V.st fun v h₂ tk₂ hPv hst₂ hk₂ => ?_
    obtain ⟨p, hp, hr⟩ := hPv
    have hex : ∀ b o, b ≠ I → h'.get? b = some o → h₂.get? b = some o := fun b o hb e => hk₂ b o (fun q => hb (List.mem_singleton.mp q)) e
    have S₂ := V.sa.but hIB hIA V.gI V.mI hex
    refine wpAny_assign_Name (store fe S₂.frm hx fun b h₃ tk₃ hb hs₃ F₃ l₃ lo₃ => ?_)
    have S₃ := S₂.stored hb hs₃ F₃ l₃ lo₃ (hr.mono V.gle) (hm i σ' V.inv)
    exact step i σ' p V.inv hp A hA _ hB gB μ' g' S₃ _ _ (fun σ₄ μ₄ g₄ h₄ tk₄ hp₄ S₄ st₄ =>
      (ForInv.next its V hIA hlt S₃ (V.held its hIA S₂ hst₂ hb hs₃) (Stp.trans S₂.frm (V.sp.but hnew hex) (Stp.same hs₃ (.inl hb))) hp₄.2 S₄ st₄).less tk₄) fun p' σ'' v' g'' h'' tk'' hp' => nomatch hp'.1
  · obtain rfl : i = items.length := Nat.le_antisymm V.le (Nat.not_lt.mp hlt)
    refine its.W.done _ _ _ V.st fun h₂ tk₂ hk₂ => wpAny_execs_nil ?_
    have hex : ∀ b o, b ≠ I → h'.get? b = some o → h₂.get? b = some o := fun b o hb e => hk₂ b o (fun q => hb (List.mem_singleton.mp q)) e
    exact hn σ' μ' g' h₂ tk₂ ⟨rfl, V.inv⟩ (V.sa.but hIB hIA V.gI V.mI hex) (V.sp.but hnew hex)
theorem ExC.for {x : Str} {px iter body pos items ss} (fe : FEnv env) (hx : Sto env x) (hI : Itb C d env σ.vars iter items) (Inv : Nat → PSt → Prop) (h0 : Inv 0 σ) (hm : ∀ i σ', Inv i σ' → ∀ y, σ'.gro = some y → y.1 ≠ x)
    (step : ∀ i σ' p, Inv i σ' → items[i]? = some p → ExC C d env (σ'.set x p) body (fun o σ'' => o = none ∧ Inv (i + 1) σ''))
    (k : ∀ σ', Inv items.length σ' → ExC C d env σ' ss Post) (hs : ∀ x, foldedSetIterable iter env x = Pure.pure x := by intro _; rfl) : ExC C d env σ (.For (.Name x px) iter body [] pos :: ss) Post :=
  ExC.cons (XsC.for fe hx hI Inv h0 hm step hs) (fun σ' h => k σ' h.2) fun _ _ h => nomatch h.1
end
end Mine
end
section
open PySem PySem.Calls PyProof.Rows
set_option maxRecDepth 100000
namespace Mine
/-- a block that ends in the refusal of an empty numeral -/
noncomputable def XR (C : Cx) (d : Nat) (env : Env) (σ : PSt) (ss : List Stmt) : Prop :=
  ∀ A, AOk C d A → ∀ (s : Shared) hB gB μ g, SA C env hB gB σ μ g s.heap → ∀ (Q : Flow → Shared → Prop) (E : Value → Shared → Prop),
    (∀ h₁ h₂ tk e, Kp hB h₁ → Frm C.ex env h₁ → Heap.NewExc h₁ h₂ e "ValueError" → E (.ref e) { s with heap := h₂, toks := tk }) → wpC C.M A (execs ss env) Q E s
section
variable {C : Cx} {d : Nat} {env : Env} {σ : PSt}
theorem XR.cons {st : Stmt} {ss : List Stmt} {P1 : Option PV → PSt → Prop} (h1 : Xs C d env σ st P1) (h2 : ∀ σ', P1 none σ' → XR C d env σ' ss) (h3 : ∀ p σ', ¬ P1 (some p) σ' := by intro _ _ h; exact nomatch h.1) : XR C d env σ (st :: ss) :=
  fun A hA s hB gB μ g S Q E hE => Mine.C.execs_cons (Mine.C.of (h1 A hA s hB gB μ g S _ E
    (fun σ' μ' g' h' tk hp S' st => h2 σ' hp A hA _ hB gB μ' g' S' Q E hE)
    fun p σ' v g' h' tk hp G r => absurd hp (h3 p σ')))
theorem XR.int {C : Cx} {d : Nat} {env : Env} {σ : PSt} {x : Str} {px pi cpos pos e ss} (fe : FEnv env) (hx : env.kindOf ("int" : Str) = some .globalImplicit) (hb : ("int" : Str) ∈ C.blt) (he : Ev C d env σ.vars e (.str Str.empty))
    (hs : swapsWith (.Call (.Name "int" pi) [e] [] cpos) (some (.Name x px)) pos.line env = Pure.pure false := by with_unfolding_all rfl)
    (hse : starEach [e] env = (false, eval e env) :: starEach [] env := by with_unfolding_all rfl) : XR C d env σ (.Assign [.Name x px] (.Call (.Name "int" pi) [e] [] cpos) pos :: ss) := fun A hA s hB gB μ g S Q E hE => by
  obtain ⟨mg, mb, g1, g2, _, g4, _⟩ := S.eh.glo.ex
  obtain ⟨m1, m2⟩ := g4 "int" hb (.type "int") (by decide +kernel)
  refine Mine.C.execs_cons (Mine.C.Assign_Name (Mine.C.Call_Name (Name_function_global fe.kind hx (loadGlobal_builtin (mg := mg) (mb := mb) (by rw [fe.glob]; exact g1) m1 (by rw [fe.blt]; exact g2) m2 ?_) (by decide))) hs)
  refine Mine.C.callWith_type (Evs.cons he Evs.nil hse A hA s g cpos S.eh _ _ fun vs g' h' tk G rs => ?_) hse
  obtain ⟨_, _, rfl, r1, hr⟩ := rs.inv
  obtain rfl := hr.inv
  obtain ⟨t, rfl⟩ := r1.inv
  · · · exact Mine.C.int_empty (s := { s with heap := h', toks := tk }) hA.handled fun h₂ tk₂ e' hx => hE h' h₂ tk₂ e' (S.grow.kp.trans G.kp) (S.grown G).frm hx
end
/-- a def whose call is refused -/
noncomputable def CallR (C : Cx) (d : Nat) (r : DefRow) (ps : List PV) : Prop :=
  ∀ A, AOk C d A → ∀ outer b₀, A.frames = some outer → ∀ (s : Shared) (g : Ghost), GSub g s.heap → Glo C.blt C.defs s.heap → s.heap.FunFrames b₀ outer → ∀ f o pm cd doc, s.heap.get? f = some o → o.data = .func (docDef r.name r.params r.body r.scope pm cd doc) → s.heap.CodeRec cd r.name →
    ∀ vs, Reps g vs ps → ∀ (Q : Value → Shared → Prop) (E : Value → Shared → Prop), (∀ h' tk e a0, Heap.FlyingW (PySem.W.hideAll s.heap (outer.filterMap (·.frame))) outer e (.type "ValueError") a0 h' → s.heap.UpToSlots h' → E (.ref e) { s with heap := h', toks := tk }) →
    wpC C.M A (call (.ref f) vs) Q E s
theorem CallR.re {w : World} {d : Nat} {r : DefRow} {ps : List PV} (h : CallR (CC w) d r ps) (ex : Exm) (fr : Around → Prop) : CallR (CX w ex fr) d r ps := fun A hA outer b₀ hf s g hs hg hF f o pm cd doc ho hd hcd vs rs Q E hQ =>
  h A ⟨hA.handled, hA.depth, hA.units, trivial⟩ outer b₀ hf s g hs hg hF f o pm cd doc ho hd hcd vs rs Q E hQ
theorem CallR.of {C : Cx} {d : Nat} {r : DefRow} {ps : List PV} {ns : List Str}
    (hb : ∀ vs : List Value, vs.length = ps.length → ∀ pm cd doc, bindArgs (docDef r.name r.params r.body r.scope pm cd doc) ⟨vs, []⟩ = Pure.pure (ns.zip vs))
    (hn : ns.Nodup) (hl : ns.length = ps.length) (hk : (ns.all fun x => r.scope.names.lookup x == some .local || r.scope.names.lookup x == some .cell) = true)
    (hnd : ((cellsFrom 0 r.scope.names []).map (·.1)).Nodup)
    (hco : r.scope.isCoroutine = false) (hgen : r.scope.isGenerator = false) (hkf : r.scope.kind = .function)
    (body : ∀ L f cd, XR C d (fenv r L f cd) ⟨ns.zip ps, Option.none⟩ r.body) (hex : C.ex.adr = Option.none := by rfl) (hfr : ∀ A, C.fr A := by intro _; trivial) : CallR C (d + 1) r ps := fun A hA outer b₀ hfs s g hs hg hF f o pm cd doc ho hd hcd vs rs Q E hQ => by
  have hlen : vs.length = ns.length := rs.length.trans hl.symm
  obtain ⟨mg, mb, _, _, hlim, _, _⟩ := hg.ex
  refine Mine.C.call (K.call_cells (binds := ns.zip vs) (by have := hA.depth; omega) ho hd hlim hcd (hb vs rs.length pm cd doc) (PySem.W.kindsX (enter_kinds hlen hk) _) (fun h₁ tk F X => ?_) hco hgen hkf)
  have S := enter_SA (C := C) (f := f) (cd := cd) hex hs hg rs hlen hn hk hnd F X
  have hA' : AOk C d (A.deeper (fenv r s.heap.objs.size f cd)) := ⟨hA.handled, by show A.depth + 1 + d < _; have := hA.depth; omega, by show A.units + 3 + 8 * d + 8 < _; have := hA.units; omega, hfr _⟩
  refine body s.heap.objs.size f cd _ hA' _ s.heap g Option.none g S _ _ fun h₂ h₃ tk' e k2 F2 hx => ?_
  obtain ⟨ob, tp, he, hcls, hdt⟩ := hx.there
  have k3 : Kp s.heap h₃ := k2.trans hx.keeps
  obtain ⟨m, oL, es, ep, eL, dL, _⟩ := F2.ns
  have hLn : s.heap.get? s.heap.objs.size = Option.none := get_size _
  have hide_none : ∀ b, s.heap.get? b = Option.none → (PySem.W.hideAll s.heap (outer.filterMap (·.frame))).get? b = Option.none := fun b hb => by
    cases q : (PySem.W.hideAll s.heap (outer.filterMap (·.frame))).get? b with
    | none => rfl
    | some o => have := PySem.W.of_hideAll _ q; rw [hb] at this; cases this
  have hen : s.heap.get? e = Option.none := k2.none hx.new
  refine wpAny_leaving_firstW (s := { s with heap := h₃, toks := tk' }) (base := PySem.W.hideAll s.heap (outer.filterMap (·.frame))) (a0 := tp) (Around.frames_deeper hfs)
    ⟨by show r.scope.kind ≠ _; rw [hkf]; simp, ⟨s.heap.objs.size, oL, rfl, hide_none _ hLn, hx.keeps _ _ eL, fun vs q => by rw [dL] at q; cases q⟩, (PySem.W.funFrames_hide hF fun env he b hb => List.mem_filterMap.mpr ⟨env, he, hb⟩).of_keeps fun b o hb _ => ⟨o, k3 b o hb, rfl⟩⟩ rfl he (fun b o hb => k3 b o (PySem.W.of_hideAll _ hb)) (hide_none _ hen) hdt rfl rfl fun h' hL => ?_
  obtain ⟨l1, ⟨_, _, l2⟩, l3, l4⟩ := hL
  rw [hcls] at l3
  exact hQ h' tk' e tp ⟨l1, hide_none _ hen, l2, l3⟩ ((Heap.UpToSlots.of_keeps k3).trans l4)
/-- the frames' objects turn in their slots alone -/
theorem SA.turned {C : Cx} {env : Env} {σ : PSt} {hB : Heap} {gB : Ghost} {μ : Option Addr} {g : Ghost} {h h' : Heap} (S : SA C env hB gB σ μ g h) (k : ∀ b o, h.get? b = some o → ¬ (b = env.locals ∨ C.ex.adr = some b) → h'.get? b = some o) (u : h.UpToSlots h') : SA C env hB gB σ μ g h' := by
  have off : ∀ b, ¬ At C.ex env b → ¬ (b = env.locals ∨ C.ex.adr = some b) := fun b n q => n (q.elim (fun q => .inl (.inl q)) .inr)
  have cel : ∀ n c, env.cells.lookup n = some c → ¬ (c = env.locals ∨ C.ex.adr = some c) := fun n c e q => q.elim (S.frm.loc n c (mem_of_lookup e)) fun q => (S.frm.exl c q).2 n (mem_of_lookup e)
  have le : ∀ y w, Ld env h y w → Ld env h' y w := fun y w l => by
    unfold Ld at l ⊢
    split at l
    · obtain ⟨m', a, c⟩ := l; exact ⟨m', u.ns a, c⟩
    · obtain ⟨c', a, o, c1, c2⟩ := l; exact ⟨c', a, o, k _ o c1 (cel _ _ a), c2⟩
    · obtain ⟨c', a, o, c1, c2⟩ := l; exact ⟨c', a, o, k _ o c1 (cel _ _ a), c2⟩
    · trivial
  refine ⟨⟨fun b o e => k b o (S.grow.kp b o e) (off b fun q => by have := (S.off b q).2; rw [e] at this; cases this), S.grow.le, fun b o e => k b o (S.grow.sub b o e) (off b fun q => by have := (S.off b q).1; rw [e] at this; cases this), S.grow.new⟩, S.glo,
    ⟨?_, fun n c e => ?_, S.frm.apart, S.frm.loc, S.frm.found, fun a e => ?_, S.frm.exl⟩, S.off, fun x p e => ?_, ?_⟩
  · obtain ⟨m, hm⟩ := S.frm.ns; exact ⟨m, u.ns hm⟩
  · obtain ⟨v, o, c1, c2⟩ := S.frm.cell n c e; exact ⟨v, o, k _ o c1 (cel n c e), c2⟩
  · obtain ⟨o, es, n, q, r⟩ := S.frm.ex_ a e
    obtain ⟨sl, q'⟩ := u a o q fun vs z => by rw [r.1] at z; cases z
    exact ⟨_, es, n, q', r.1, sl, by obtain ⟨_, sl', rfl⟩ := r; rfl⟩
  · obtain ⟨v, a, c⟩ := S.vars x p e; exact ⟨v, le x v a, c⟩
  · exact S.gro.imp fun z a _ _ ⟨m1, ⟨its, n, m2, m3⟩, m4, m5, m6⟩ => ⟨le _ _ m1, ⟨its, n, k _ _ m2 (off a m6), m3⟩, m4, m5, m6⟩
end Mine
end
section
open PySem PySem.Calls PyProof.Rows
set_option maxRecDepth 100000
namespace Mine
section
variable {C : Cx} {d : Nat} {env : Env} {σ : PSt} {Post : Option PV → PSt → Prop}
theorem Stp.turned {xa : Exm} {env : Env} {μ : Option Addr} {g : Ghost} {h h' : Heap} (k : ∀ b o, h.get? b = some o → ¬ (b = env.locals ∨ xa.adr = some b) → h'.get? b = some o) : Stp xa env μ g h μ g h' :=
  ⟨MuOk.refl _ _, fun b o e h1 _ => k b o e fun q => h1 (q.elim (fun q => .inl (.inl q)) .inr), GLe.refl _, fun _ _ e => .inl e⟩
theorem Xs.tryOk {body : List Stmt} {h₀ : ExceptHandler} {hs : List ExceptHandler} {pos : Pos} (h : Ex C d env σ body Post) : Xs C d env σ (.Try body (h₀ :: hs) [] [] pos) Post := fun A hA s hB gB μ g S Q E hn hr =>
  wpAny_Try_except (h A hA s hB gB μ g S _ _ (fun σ' μ' g' h' tk hp S' st => wpAny_execs_nil (hn σ' μ' g' h' tk hp S' st)) fun p σ' v g' h' tk hp G r => hr p σ' v g' h' tk hp G r)
/-- the ends, without their make -/
theorem C.ends {α : Type} {M : Model} {A : Around} {t : Sem α} {Q : α → Shared → Prop} {E : Value → Shared → Prop} {s : Shared} (h : ∀ (Q' : α → Shared → Prop) (E' : Value → Shared → Prop), (∀ v s, Q v s → Q' v s) → (∀ e s, E e s → E' e s) → wpC M A t Q' E' s) : wpC M A t Q E s := h Q E (fun _ _ x => x) fun _ _ x => x
theorem XsC.tryRaise {x y : Str} {l ps : List PV} {p : PV} {r : DefRow} {px pr px2 py np : Pos} {pc apos cpos spos apos2 cpos2 spos2 tp hpos pos : Pos} {tk0 : Nat} {e : Expr} {es : List Expr} {envl : Env} {Ll : Addr} {c0 : Expr}
    (fe : FEnv env) (hx : Sto env x) (hg : σ.gro = some (x, l)) (hr : r ∈ C.defs) (hxr : env.kindOf r.name = some .globalImplicit) (ha : Evs C d env ((x, .lst l) :: σ.vars) (e :: es) ps) (ho : CallR C d r ps)
    (hv : σ.vars.lookup y = some p) (hy : Sto env y) (hp : p.flat = true) (hsz : l.length ≤ 1000000) (hVE : env.kindOf ("ValueError" : Str) = some .globalImplicit) (hbVE : ("ValueError" : Str) ∈ C.blt)
    (hc0 : ∀ {A : Around} {s : Shared} {Q : Value → Shared → Prop} {E : Value → Shared → Prop}, Q .none s → wpAny C.M A (eval c0 env) Q E s)
    (hfr : ∀ A, C.fr A → A.frames = some [env, envl]) (hf : env.frame = some env.locals) (hkl : envl.scope.kind ≠ .module) (hfl : envl.frame = some Ll) (hex : C.ex.adr = some Ll)
    (hd : (x == ("__debug__" : Str)) = false := by decide) (hdy : (y == ("__debug__" : Str)) = false := by decide) (hdr : (r.name == ("__debug__" : Str)) = false := by decide)
    (he : starEach (e :: es) env = (false, eval e env) :: starEach es env := by with_unfolding_all rfl)
    (hb : attributeBase (.Name x px) "append" env (eval (.Name x px) env) = eval (.Name x px) env := by with_unfolding_all rfl)
    (hfew : ((backTo cpos (starEach [.Call (.Name r.name pr) (e :: es) [] pc] env)).all (fun x => !x.1) && (backToKw cpos (keywordEach [] env)).all (fun x => x.1.isSome) && decide (([.Call (.Name r.name pr) (e :: es) [] pc] : List Expr).length + ([] : List Keyword).length + (if ([] : List Keyword).isEmpty then 0 else 1) < 30)) = true := by with_unfolding_all rfl)
    (hline : (apos.endLine == cpos.line) = true := by with_unfolding_all rfl) (htrees : backTo cpos (starEach [.Call (.Name r.name pr) (e :: es) [] pc] env) = [(false, eval (.Call (.Name r.name pr) (e :: es) [] pc) env)] := by with_unfolding_all rfl)
    (hi : interactive env = false := by with_unfolding_all rfl) (hs : swapsWith (.Call (.Attribute (.Name x px) "append" apos) [.Call (.Name r.name pr) (e :: es) [] pc] [] cpos) Option.none spos.line env = Pure.pure false := by with_unfolding_all rfl)
    (hb2 : attributeBase (.Name x px2) "append" env (eval (.Name x px2) env) = eval (.Name x px2) env := by with_unfolding_all rfl)
    (hfew2 : ((backTo cpos2 (starEach [.Tuple [.Name y py, c0] tk0 tp] env)).all (fun x => !x.1) && (backToKw cpos2 (keywordEach [] env)).all (fun x => x.1.isSome) && decide (([.Tuple [.Name y py, c0] tk0 tp] : List Expr).length + ([] : List Keyword).length + (if ([] : List Keyword).isEmpty then 0 else 1) < 30)) = true := by with_unfolding_all rfl)
    (hline2 : (apos2.endLine == cpos2.line) = true := by with_unfolding_all rfl) (htrees2 : backTo cpos2 (starEach [.Tuple [.Name y py, c0] tk0 tp] env) = [(false, eval (.Tuple [.Name y py, c0] tk0 tp) env)] := by with_unfolding_all rfl)
    (hs2 : swapsWith (.Call (.Attribute (.Name x px2) "append" apos2) [.Tuple [.Name y py, c0] tk0 tp] [] cpos2) Option.none spos2.line env = Pure.pure false := by with_unfolding_all rfl)
    (he2 : starEach [.Name y py, c0] env = (false, eval (.Name y py) env) :: starEach [c0] env := by with_unfolding_all rfl) (he3 : starEach [c0] env = (false, eval c0 env) :: starEach [] env := by with_unfolding_all rfl) :
    XsC C d env σ (.Try [.Expr (.Call (.Attribute (.Name x px) "append" apos) [.Call (.Name r.name pr) (e :: es) [] pc] [] cpos) spos] [.ExceptHandler (some (.Name "ValueError" np)) Option.none [.Expr (.Call (.Attribute (.Name x px2) "append" apos2) [.Tuple [.Name y py, c0] tk0 tp] [] cpos2) spos2] hpos] [] [] pos)
      (fun o σ' => o = Option.none ∧ σ' = { σ with gro := some (x, l ++ [.tup [p, .none]]) }) := fun A hA s hB gB μ g S Q E hn _ => by
  obtain ⟨a, its, n, rfl, h1, h2, h3, h4, h5, h6, S'⟩ := S.frozen hg
  have hfA := hfr A hA.fr
  refine Mine.C.Try (prog := C.prog) (w := C.w) (Mine.C.ends fun Q' E' _ hE' => ?_)
  refine (Mine.C.execs_cons (Mine.C.ExprS (Mine.C.Call_append hb hfew hline htrees (name_ld fe h4 hx ⟨a, its.toArray, rfl, ⟨_, n, h2, rfl, rfl, rfl⟩, ?_⟩ hd)) hi hs))
  obtain ⟨mg, mb, g1, g2, _, g4, g5⟩ := S.eh.glo.ex
  obtain ⟨f, o, pm, cd, doc, e1, e2, e3, e4⟩ := (g5 r hr).at_
  refine Mine.C.Call_Name (Name_function_global fe.kind hxr (loadGlobal_global (mg := mg) (by rw [fe.glob]; exact g1) e1 ?_) hdr)
  refine Mine.C.callWith_def e3 (ha A hA s _ pc S'.eh _ _ fun vs g' h' tk G rs => ⟨G.kp _ _ e2, ?_⟩) he
  have G2 := G.cut h1
  have S2 := S.grown G2
  have hfm : ([env, envl] : List Env).filterMap (·.frame) = [env.locals, Ll] := by simp [hf, hfl]
  obtain ⟨mL, oL, es1, ep1, eL, dL, _⟩ := S2.frm.ns
  obtain ⟨oX, es2, ep2, eX, dX⟩ := S2.frm.ex_ Ll hex
  have FF : h'.FunFrames (PySem.W.hideAll h' [env.locals, Ll]) [env, envl] :=
    ⟨by rw [fe.kind]; simp, ⟨env.locals, oL, hf, PySem.W.hideAll_none _ (by simp), eL, fun vs q => by rw [dL] at q; cases q⟩, hkl, ⟨Ll, oX, hfl, PySem.W.hideAll_none _ (by simp), eX, fun vs q => by rw [dX.1] at q; cases q⟩, trivial⟩
  refine ho A hA [env, envl] _ hfA _ g' G.sub (S'.eh.grow G).glo FF f o pm cd doc (G.kp _ _ e2) e3 (Heap.CodeRec.keeps (h' := h') e4 G.kp) vs rs _ _ fun h₂ tk₂ ex a0 hfly hup => hE' _ _ ?_
  rw [hfm] at hfly
  have kp : ∀ {h₃ : Heap}, (PySem.W.hideAll h' [env.locals, Ll]).StaysIn h₃ → ∀ b o, h'.get? b = some o → ¬ (b = env.locals ∨ C.ex.adr = some b) → h₃.get? b = some o := fun st b o e nb =>
    st b o (PySem.W.hideAll_get _ e fun hm => nb (by
      rcases List.mem_cons.mp hm with q | q
      · exact .inl q
      · rw [List.mem_singleton] at q; rw [q]; exact .inr hex))
  refine wpAny_looks_onW hfA hf hfly fun h₄ held u4 => wpAny_landsW held fun h₅ fly5 u5 => ?_
  have S5 := S2.turned (kp fly5.1) ((hup.trans u4).trans u5)
  obtain ⟨ob, hob, hobc⟩ := fly5.there
  obtain ⟨mg5, mb5, w1, w2, _, w4, _⟩ := S5.eh.glo.ex
  obtain ⟨m1, m2⟩ := w4 "ValueError" hbVE (.type "ValueError") (by decide +kernel)
  refine wpAny_handleBy_builtin (X := "ValueError") (T := "ValueError") (b := true) F.isExc_ValueError F.notTuple_ValueError F.self_ValueError (Name_function_global fe.kind hVE (loadGlobal_builtin (mg := mg5) (mb := mb5) (by rw [fe.glob]; exact w1) m1 (by rw [fe.blt]; exact w2) m2 ⟨rfl, ⟨ob, hob, hobc⟩, ?_⟩) (by decide))
  refine lands_againW fly5 fun h₆ fly6 u6 => ?_
  have S6 := S2.turned (kp fly6.1) (((hup.trans u4).trans u5).trans u6)
  obtain ⟨a', its', n', ea, k1, k2, k3, k4, k5, k6, _⟩ := S6.frozen hg
  cases ea
  obtain ⟨vy, ly, ry⟩ := S6.vars y p hv
  have hz : its'.toArray.size ≤ sizeLine := by
    rw [List.size_toArray, k3.length, sizeLine_eq]; omega
  refine wpAny_execs_cons (wpAny_Expr (hi := hi) (hs := hs2) (wpAny_Call_append hb2 hfew2 hline2 htrees2 (name_ld fe k4 hx ⟨a, its'.toArray, rfl, ⟨_, n', k2, rfl, rfl, rfl⟩, ?_⟩ hd)))
  refine wpAny_Tuple (wpAny_items_cons (name_ld fe ly hy (wpAny_items_cons (hc0 (wpAny_items_nil ⟨by rw [sizeLine_eq]; simp, ?_⟩)) he3) hdy) he2)
  have Gr := Grow.alloc S6.grow.sub (o := { cls := .type "tuple", data := .seq [vy, .none].toArray }) rfl
  have S7 := S6.grown Gr
  refine append_at (hsz := hz) (Gr.kp _ _ k2) fun h₇ hsb hnew => wpAny_execs_nil ?_
  have n2 := Gr.off k2 k1
  have S8 := S7.drop.same hsb n2 k5 k6 (by simp)
  have hobj : h₇.get? a = some (lobj (its' ++ [.ref h₆.objs.size]) (n' + 1)) := by rw [hnew]; simp
  have rT : Rep (gAdd (gCut g' a) h₆.objs.size { cls := .type "tuple", data := .seq [vy, .none].toArray }) (.ref h₆.objs.size) (.tup [p, .none]) :=
    .tup _ [vy, .none] 0 _ (gAdd_self ..) (.cons (ry.mono Gr.le) (.cons .none .nil))
  exact hn { σ with gro := some (x, l ++ [.tup [p, .none]]) } (some a) _ h₇ _ ⟨rfl, rfl⟩ (S8.addGro ⟨(k4.kp Gr.kp).same hsb k6, ⟨its' ++ [.ref h₆.objs.size], n' + 1, hobj, (k3.mono Gr.le).append (.cons rT .nil)⟩, n2, k5, k6⟩)
    (Stp.trans S7.frm (Stp.trans S6.frm (Stp.trans S2.frm (Stp.grow G2) (Stp.turned (kp fly6.1))) (Stp.grow Gr)) (Stp.same hsb (.inr rfl)))
end
end Mine
end
section
open PySem PySem.Calls PyProof.Rows
set_option maxRecDepth 100000
set_option maxHeartbeats 1000000
namespace Mine
section
variable {C : Cx} {d : Nat} {env : Env} {σ : PSt}
theorem XR.assign {x : Str} {px value pos p ss} (fe : FEnv env) (hx : Sto env x) (he : Ev C d env σ.vars value p) (k : XR C d env (σ.set x p) ss) (hm : ∀ y, σ.gro = some y → y.1 ≠ x := by intro _ h; exact nomatch h) (hs : swapsWith value (some (.Name x px)) pos.line env = Pure.pure false := by rfl) :
    XR C d env σ (.Assign [.Name x px] value pos :: ss) := XR.cons (Xs.assign fe hx he hm hs) (fun _ h => h.2 ▸ k) fun _ _ h => nomatch h.1
theorem XR.ifF {test body pos ss} (ht : Tr C d env σ.vars test false) (k : XR C d env σ ss) : XR C d env σ (.If test body [] pos :: ss) :=
  XR.cons (Xs.ifs (Post := fun o σ' => o = Option.none ∧ σ' = σ) ht (Ex.nil ⟨rfl, rfl⟩)) (fun _ h => h.2 ▸ k) fun _ _ h => nomatch h.1
end
theorem Ev.lt0 {C : Cx} {d : Nat} {env : Env} {ρ : Vars} {e : Expr} {n : Int} {k pos} (he : Ev C d env ρ e (.int n)) (hn : 0 ≤ n) (hm : behindInMarks .Lt (.Constant (.int 0) k pos) = false := by with_unfolding_all rfl) {pos2} : Tr C d env ρ (.Compare e [.Lt] [.Constant (.int 0) k pos] pos2) false := by
  have h := op_lt (C := C) (d := d) (a := n) (b := 0)
  rw [decide_eq_false (by omega)] at h
  exact Tr.cmp he Ev.int h hm
theorem slice_list (l : List Nat) {a b : Nat} (hab : a ≤ b) (hb : b ≤ l.length) : ((Builtin.Str.strSliceIndices (some (a : Int)) (some (b : Int)) 1 (⟨l.toArray⟩ : Str).length).filterMap ((⟨l.toArray⟩ : Str).cps[·]?)) = (l.drop a).take (b - a) :=
  StrLaws.sliced_plain ⟨l.toArray⟩ hab (by show b ≤ l.toArray.size; simpa using hb)
theorem slice_len {a b len : Nat} (hab : a ≤ b) (hb : b ≤ len) : (Builtin.Str.strSliceIndices (some (a : Int)) (some (b : Int)) 1 len).length = b - a := by
  rw [StrLaws.strSliceIndices_plain hab hb]; simp
section
variable {c : Nat} {ds R : List Nat}
theorem rep_size : (⟨(rep c ds R).toArray⟩ : Str).length = ds.length + R.length + 10 := by show (rep c ds R).toArray.size = _; simp [rep_len]
theorem rep_head : (⟨((Builtin.Str.strSliceIndices Option.none (some 3) 1 (⟨(rep c ds R).toArray⟩ : Str).length).filterMap ((⟨(rep c ds R).toArray⟩ : Str).cps[·]?)).toArray⟩ : Str) = Str.ofString "229" := by
  rw [StrLaws.sliceIdx_none_lo]
  have h := slice_list (rep c ds R) (a := 0) (b := 3) (by omega) (by rw [rep_len]; omega)
  rw [show ((3 : Nat) : Int) = 3 from rfl, show ((0 : Nat) : Int) = 0 from rfl] at h
  rw [h]
  exact (by decide +kernel : (⟨#[50, 50, 57]⟩ : Str) = Str.ofString "229")
theorem rep_head_ne : (Builtin.Str.strSliceIndices Option.none (some 3) 1 (⟨(rep c ds R).toArray⟩ : Str).length).length ≠ (⟨(rep c ds R).toArray⟩ : Str).length := by
  rw [StrLaws.sliceIdx_none_lo, rep_size]
  have h := slice_len (a := 0) (b := 3) (len := ds.length + R.length + 10) (by omega) (by omega)
  rw [show ((3 : Nat) : Int) = 3 from rfl, show ((0 : Nat) : Int) = 0 from rfl] at h
  rw [h]; omega
theorem rep_mid : (⟨((Builtin.Str.strSliceIndices (some 5) (some (9 + (ds.length : Int))) 1 (⟨(rep c ds R).toArray⟩ : Str).length).filterMap ((⟨(rep c ds R).toArray⟩ : Str).cps[·]?)).toArray⟩ : Str) = ⟨(mid c ds).toArray⟩ := by
  have h := slice_list (rep c ds R) (a := 5) (b := 9 + ds.length) (by omega) (by rw [rep_len]; omega)
  rw [show ((5 : Nat) : Int) = 5 from rfl, show ((9 + ds.length : Nat) : Int) = 9 + (ds.length : Int) from by omega] at h
  rw [h]
  congr 2
  have e : rep c ds R = [50, 50, 57, 32, 40] ++ (mid c ds ++ ([41] ++ R)) := by unfold rep mid; simp
  rw [e]
  have h5 : ([50, 50, 57, 32, 40] : List Nat).length = 5 := rfl
  rw [List.drop_append_of_le_length (by rw [h5]; exact Nat.le_refl _), show ([50, 50, 57, 32, 40] : List Nat).drop 5 = [] from rfl, List.nil_append, List.take_append_of_le_length (by unfold mid; simp; omega)]
  exact List.take_of_length_le (by unfold mid; simp; omega)
theorem rep_mid_ne : (Builtin.Str.strSliceIndices (some 5) (some (9 + (ds.length : Int))) 1 (⟨(rep c ds R).toArray⟩ : Str).length).length ≠ (⟨(rep c ds R).toArray⟩ : Str).length := by
  rw [rep_size]
  have h := slice_len (a := 5) (b := 9 + ds.length) (len := ds.length + R.length + 10) (by omega) (by omega)
  rw [show ((5 : Nat) : Int) = 5 from rfl, show ((9 + ds.length : Nat) : Int) = 9 + (ds.length : Int) from by (clear h; omega)] at h
  rw [h]; omega
theorem rep_5 : (⟨(rep c ds R).toArray⟩ : Str).cps[(5 : Int).toNat]? = some c := by
  show (rep c ds R).toArray[5]? = _
  unfold rep; simp
theorem rep_r : (⟨(rep c ds R).toArray⟩ : Str).cps[(9 + (ds.length : Int) - 1).toNat]? = some c := by
  have e : (9 + (ds.length : Int) - 1).toNat = 8 + ds.length := by omega
  rw [e]
  show (rep c ds R).toArray[8 + ds.length]? = _
  rw [List.getElem?_toArray]
  unfold rep
  rw [List.getElem?_append_right (by simp; omega), List.getElem?_append_right (by simp; omega), List.getElem?_append_right (by simp; omega)]
  simp
  rw [show 8 + ds.length - 5 - 3 - ds.length = 0 from by (clear e; omega)]; rfl
theorem mid_len : (⟨(mid c ds).toArray⟩ : Str).length = ds.length + 4 := by show (mid c ds).toArray.size = _; unfold mid; simp
theorem mid_kind (hc : c < 256) : (decide ((⟨(mid c ds).toArray⟩ : Str).length < (⟨#[c]⟩ : Str).length) || decide (Builtin.Str.strKind ⟨(mid c ds).toArray⟩ < Builtin.Str.strKind ⟨#[c]⟩)) = false := by
  have e : (⟨#[c]⟩ : Str).length = 1 := rfl
  have k : Builtin.Str.strKind ⟨#[c]⟩ = 1 := by unfold Builtin.Str.strKind; simp [hc]
  have k2 : 1 ≤ Builtin.Str.strKind ⟨(mid c ds).toArray⟩ := by unfold Builtin.Str.strKind; split <;> (try split) <;> omega
  rw [mid_len, e, k, decide_eq_false (by (clear hc e k k2; omega)), decide_eq_false (by omega)]; rfl
end
theorem parse_bind : ∀ vs : List Value, vs.length = 2 → ∀ pm cd doc, bindArgs (docDef (rw_ 7).name (rw_ 7).params (rw_ 7).body (rw_ 7).scope pm cd doc) ⟨vs, []⟩ = Pure.pure ((["resp", "peer"] : List Str).zip vs) := by
  intro vs hv pm cd doc
  obtain ⟨a, b, rfl⟩ := ofLen2 hv
  with_unfolding_all rfl
theorem parse_ok {w : World} {d : Nat} {c : Nat} {ds R : List Nat} {a b : Int} (hc : c < 256) (hc1 : c ≠ 41) (hcd : c ∉ ds) (h41 : 41 ∉ ds) (hds : PySem.NumText.AllDigits ds) (hne : ds ≠ []) (hl : ds.length ≤ 600) (hR : R.length ≤ 100000) :
    CallOk (CC w) (d + 1) (rw_ 7) [.str ⟨(rep c ds R).toArray⟩, .tup [.int a, .int b]] (.tup [.int a, .int (PySem.NumText.digitsVal ds)]) := by
  refine CallOk.of (ns := ["resp", "peer"]) parse_bind (by decide +kernel) rfl (by decide +kernel) (by decide +kernel) (by decide +kernel) (by decide +kernel) (by decide +kernel) ?_
  intro L f cd
  have fe : FEnv (fenv (rw_ 7) L f cd) := ⟨(by with_unfolding_all rfl), rfl, rfl⟩
  with_unfolding_all refine Ex.ifF (Tr.cmp (Ev.sliceS (lo := Option.none) (hi := some 3) (Ev.nm (by assumption) (by with_unfolding_all rfl) (by with_unfolding_all rfl)) trivial Ev.int rep_head_ne rep_head (by rw [sizeLine_eq]; decide +kernel)) Ev.str (by have h := op_neS (C := CC w) (d := d) (x := Str.ofString "229") (y := Str.ofString "229"); rw [show (Str.ofString "229" != Str.ofString "229") = false from by decide +kernel] at h; exact h)) ?_
  with_unfolding_all refine Ex.assign (p := .int 4) fe (.inl (by with_unfolding_all rfl)) (Ev.to (Ev.methS F.slot_str_find F.type_str_find (Ev.nm (by assumption) (by with_unfolding_all rfl) (by with_unfolding_all rfl)) (Evs.cons Ev.str Evs.nil (by with_unfolding_all rfl)) op_find (by with_unfolding_all rfl) (by with_unfolding_all rfl) (by with_unfolding_all rfl) (by with_unfolding_all rfl) (by with_unfolding_all rfl)) (by rw [show Str.ofString "(" = ⟨#[40]⟩ from by decide +kernel, rep_left])) ?_
  with_unfolding_all refine Ex.ifF (Ev.lt0 (n := 4) (Ev.nm (by assumption) (by with_unfolding_all rfl) (by with_unfolding_all rfl)) (by decide)) ?_
  with_unfolding_all refine Ex.assign (p := .int (9 + (ds.length : Int))) fe (.inl (by with_unfolding_all rfl)) (Ev.to (Ev.methS F.slot_str_find F.type_str_find (Ev.nm (by assumption) (by with_unfolding_all rfl) (by with_unfolding_all rfl)) (Evs.cons Ev.str (Evs.cons (show Ev _ _ _ _ _ (.int 5) from Ev.bin (Ev.nm (by assumption) (by with_unfolding_all rfl) (by with_unfolding_all rfl)) Ev.int op_add) Evs.nil (by with_unfolding_all rfl)) (by with_unfolding_all rfl)) op_find3 (by with_unfolding_all rfl) (by with_unfolding_all rfl) (by with_unfolding_all rfl) (by with_unfolding_all rfl) (by with_unfolding_all rfl)) (by rw [show Str.ofString ")" = ⟨#[41]⟩ from by decide +kernel, rep_right hc1 h41])) ?_
  with_unfolding_all refine Ex.ifF (Ev.lt0 (n := 9 + (ds.length : Int)) (Ev.nm (by assumption) (by with_unfolding_all rfl) (by with_unfolding_all rfl)) (by omega)) ?_
  with_unfolding_all refine Ex.ifF (Tr.cmp (Ev.itemS (Ev.nm (by assumption) (by with_unfolding_all rfl) (by with_unfolding_all rfl)) (show Ev _ _ _ _ _ (.int 5) from Ev.bin (Ev.nm (by assumption) (by with_unfolding_all rfl) (by with_unfolding_all rfl)) Ev.int op_add) (by decide) rep_5 (by decide)) (Ev.itemS (Ev.nm (by assumption) (by with_unfolding_all rfl) (by with_unfolding_all rfl)) (show Ev _ _ _ _ _ (.int (9 + (ds.length : Int) - 1)) from Ev.bin (Ev.nm (by assumption) (by with_unfolding_all rfl) (by with_unfolding_all rfl)) Ev.int op_sub) (by omega) rep_r (by omega)) (by have h := op_neS (C := CC w) (d := d) (x := ⟨#[c]⟩) (y := ⟨#[c]⟩); rw [bne_self_eq_false] at h; exact h)) ?_
  with_unfolding_all refine Ex.assign (p := .lst (sL [Str.empty, Str.empty, Str.empty, ⟨ds.toArray⟩, Str.empty])) fe (.inl (by with_unfolding_all rfl)) (Ev.to (Ev.methS F.slot_str_split F.type_str_split (Ev.sliceS (lo := some 5) (hi := some (9 + (ds.length : Int))) (Ev.nm (by assumption) (by with_unfolding_all rfl) (by with_unfolding_all rfl)) (show Ev _ _ _ _ _ (.int 5) from Ev.bin (Ev.nm (by assumption) (by with_unfolding_all rfl) (by with_unfolding_all rfl)) Ev.int op_add) (Ev.nm (by assumption) (by with_unfolding_all rfl) (by with_unfolding_all rfl)) rep_mid_ne rep_mid (by rw [mid_len, sizeLine_eq]; omega)) (Evs.cons (Ev.itemS (Ev.nm (by assumption) (by with_unfolding_all rfl) (by with_unfolding_all rfl)) (show Ev _ _ _ _ _ (.int 5) from Ev.bin (Ev.nm (by assumption) (by with_unfolding_all rfl) (by with_unfolding_all rfl)) Ev.int op_add) (by decide) rep_5 (by decide)) Evs.nil (by with_unfolding_all rfl)) (op_split (mid_kind hc) rfl (by rw [mid_cuts hcd]; rfl) (by rw [mid_len, sizeLine_eq]; omega) (by rw [mid_parts hcd, sizeLine_eq]; simp)) (by with_unfolding_all rfl) (by with_unfolding_all rfl) (by with_unfolding_all rfl) (by with_unfolding_all rfl) (by with_unfolding_all rfl)) (by rw [mid_parts hcd])) ?_
  with_unfolding_all refine Ex.ifF (Tr.cmp (Ev.callB fe (by with_unfolding_all rfl) bl b_len (Evs.cons (Ev.nm (by assumption) (by with_unfolding_all rfl) (by with_unfolding_all rfl)) Evs.nil (by with_unfolding_all rfl)) (fn_lenL (by show 5 < _; decide))) Ev.int op_ne) ?_
  with_unfolding_all refine Ex.assign (p := .int a) fe (.inl (by with_unfolding_all rfl)) (Ev.itemT (Ev.nm (by assumption) (by with_unfolding_all rfl) (by with_unfolding_all rfl)) Ev.int (by decide) rfl (by decide)) ?_
  with_unfolding_all refine Ex.assign (p := .int (PySem.NumText.digitsVal ds)) fe (.inl (by with_unfolding_all rfl)) (Ev.callT fe (by with_unfolding_all rfl) bl b_int (Evs.cons (show Ev _ _ _ _ _ (.str ⟨ds.toArray⟩) from Ev.itemL (Ev.nm (by assumption) (by with_unfolding_all rfl) (by with_unfolding_all rfl)) Ev.int (by decide) rfl (by decide)) Evs.nil (by with_unfolding_all rfl)) (fn_intS (PySem.intText_digits (by simpa using hds) (by simpa using hne) (by show ds.toArray.size ≤ _; simp; omega)) (by show ds.toArray.size ≤ _; simp; omega))) ?_
  with_unfolding_all refine Ex.ret (Ev.tuple (Evs.cons (Ev.nm (by assumption) (by with_unfolding_all rfl) (by with_unfolding_all rfl)) (Evs.cons (Ev.nm (by assumption) (by with_unfolding_all rfl) (by with_unfolding_all rfl)) Evs.nil (by with_unfolding_all rfl)) (by with_unfolding_all rfl)) (by rw [sizeLine_eq]; simp)) rfl
theorem parse_refuses {w : World} {d : Nat} {c : Nat} {ds R : List Nat} {a b : Int} (hc : c < 256) (hc1 : c ≠ 41) (hcd : c ∉ ds) (h41 : 41 ∉ ds) (hds : ds = []) (hl : ds.length ≤ 600) (hR : R.length ≤ 100000) :
    CallR (CC w) (d + 1) (rw_ 7) [.str ⟨(rep c ds R).toArray⟩, .tup [.int a, .int b]] := by
  refine CallR.of (ns := ["resp", "peer"]) parse_bind (by decide +kernel) rfl (by decide +kernel) (by decide +kernel) (by decide +kernel) (by decide +kernel) (by decide +kernel) ?_
  intro L f cd
  have fe : FEnv (fenv (rw_ 7) L f cd) := ⟨(by with_unfolding_all rfl), rfl, rfl⟩
  with_unfolding_all refine XR.ifF (Tr.cmp (Ev.sliceS (lo := Option.none) (hi := some 3) (Ev.nm (by assumption) (by with_unfolding_all rfl) (by with_unfolding_all rfl)) trivial Ev.int rep_head_ne rep_head (by rw [sizeLine_eq]; decide +kernel)) Ev.str (by have h := op_neS (C := CC w) (d := d) (x := Str.ofString "229") (y := Str.ofString "229"); rw [show (Str.ofString "229" != Str.ofString "229") = false from by decide +kernel] at h; exact h)) ?_
  with_unfolding_all refine XR.assign (p := .int 4) fe (.inl (by with_unfolding_all rfl)) (Ev.to (Ev.methS F.slot_str_find F.type_str_find (Ev.nm (by assumption) (by with_unfolding_all rfl) (by with_unfolding_all rfl)) (Evs.cons Ev.str Evs.nil (by with_unfolding_all rfl)) op_find (by with_unfolding_all rfl) (by with_unfolding_all rfl) (by with_unfolding_all rfl) (by with_unfolding_all rfl) (by with_unfolding_all rfl)) (by rw [show Str.ofString "(" = ⟨#[40]⟩ from by decide +kernel, rep_left])) ?_
  with_unfolding_all refine XR.ifF (Ev.lt0 (n := 4) (Ev.nm (by assumption) (by with_unfolding_all rfl) (by with_unfolding_all rfl)) (by decide)) ?_
  with_unfolding_all refine XR.assign (p := .int (9 + (ds.length : Int))) fe (.inl (by with_unfolding_all rfl)) (Ev.to (Ev.methS F.slot_str_find F.type_str_find (Ev.nm (by assumption) (by with_unfolding_all rfl) (by with_unfolding_all rfl)) (Evs.cons Ev.str (Evs.cons (show Ev _ _ _ _ _ (.int 5) from Ev.bin (Ev.nm (by assumption) (by with_unfolding_all rfl) (by with_unfolding_all rfl)) Ev.int op_add) Evs.nil (by with_unfolding_all rfl)) (by with_unfolding_all rfl)) op_find3 (by with_unfolding_all rfl) (by with_unfolding_all rfl) (by with_unfolding_all rfl) (by with_unfolding_all rfl) (by with_unfolding_all rfl)) (by rw [show Str.ofString ")" = ⟨#[41]⟩ from by decide +kernel, rep_right hc1 h41])) ?_
  with_unfolding_all refine XR.ifF (Ev.lt0 (n := 9 + (ds.length : Int)) (Ev.nm (by assumption) (by with_unfolding_all rfl) (by with_unfolding_all rfl)) (by omega)) ?_
  with_unfolding_all refine XR.ifF (Tr.cmp (Ev.itemS (Ev.nm (by assumption) (by with_unfolding_all rfl) (by with_unfolding_all rfl)) (show Ev _ _ _ _ _ (.int 5) from Ev.bin (Ev.nm (by assumption) (by with_unfolding_all rfl) (by with_unfolding_all rfl)) Ev.int op_add) (by decide) rep_5 (by decide)) (Ev.itemS (Ev.nm (by assumption) (by with_unfolding_all rfl) (by with_unfolding_all rfl)) (show Ev _ _ _ _ _ (.int (9 + (ds.length : Int) - 1)) from Ev.bin (Ev.nm (by assumption) (by with_unfolding_all rfl) (by with_unfolding_all rfl)) Ev.int op_sub) (by omega) rep_r (by omega)) (by have h := op_neS (C := CC w) (d := d) (x := ⟨#[c]⟩) (y := ⟨#[c]⟩); rw [bne_self_eq_false] at h; exact h)) ?_
  with_unfolding_all refine XR.assign (p := .lst (sL [Str.empty, Str.empty, Str.empty, ⟨ds.toArray⟩, Str.empty])) fe (.inl (by with_unfolding_all rfl)) (Ev.to (Ev.methS F.slot_str_split F.type_str_split (Ev.sliceS (lo := some 5) (hi := some (9 + (ds.length : Int))) (Ev.nm (by assumption) (by with_unfolding_all rfl) (by with_unfolding_all rfl)) (show Ev _ _ _ _ _ (.int 5) from Ev.bin (Ev.nm (by assumption) (by with_unfolding_all rfl) (by with_unfolding_all rfl)) Ev.int op_add) (Ev.nm (by assumption) (by with_unfolding_all rfl) (by with_unfolding_all rfl)) rep_mid_ne rep_mid (by rw [mid_len, sizeLine_eq]; omega)) (Evs.cons (Ev.itemS (Ev.nm (by assumption) (by with_unfolding_all rfl) (by with_unfolding_all rfl)) (show Ev _ _ _ _ _ (.int 5) from Ev.bin (Ev.nm (by assumption) (by with_unfolding_all rfl) (by with_unfolding_all rfl)) Ev.int op_add) (by decide) rep_5 (by decide)) Evs.nil (by with_unfolding_all rfl)) (op_split (mid_kind hc) rfl (by rw [mid_cuts hcd]; rfl) (by rw [mid_len, sizeLine_eq]; omega) (by rw [mid_parts hcd, sizeLine_eq]; simp)) (by with_unfolding_all rfl) (by with_unfolding_all rfl) (by with_unfolding_all rfl) (by with_unfolding_all rfl) (by with_unfolding_all rfl)) (by rw [mid_parts hcd])) ?_
  with_unfolding_all refine XR.ifF (Tr.cmp (Ev.callB fe (by with_unfolding_all rfl) bl b_len (Evs.cons (Ev.nm (by assumption) (by with_unfolding_all rfl) (by with_unfolding_all rfl)) Evs.nil (by with_unfolding_all rfl)) (fn_lenL (by show 5 < _; decide))) Ev.int op_ne) ?_
  with_unfolding_all refine XR.assign (p := .int a) fe (.inl (by with_unfolding_all rfl)) (Ev.itemT (Ev.nm (by assumption) (by with_unfolding_all rfl) (by with_unfolding_all rfl)) Ev.int (by decide) rfl (by decide)) ?_
  with_unfolding_all refine XR.int fe (by with_unfolding_all rfl) bl (show Ev _ _ _ _ _ (.str Str.empty) from Ev.itemL (Ev.nm (by assumption) (by with_unfolding_all rfl) (by with_unfolding_all rfl)) Ev.int (by decide) (by rw [hds]; rfl) (by decide)) (by with_unfolding_all rfl) (by with_unfolding_all rfl)
end Mine
end
section
open PySem PySem.Calls PyProof.Rows
set_option maxRecDepth 100000
namespace Mine
noncomputable def pcL (rd st : List Int) (c : Nat) (i : Int) : List Nat := if at_ rd i = 1 then [c, 41] else [(at_ st i).toNat + 48]
noncomputable def pcS (rd st : List Int) (c : Nat) (i : Int) : Str := ⟨(pcL rd st c i).toArray⟩
noncomputable def plL (n : Nat) (s : Int) : List Int := (List.range n).map fun (k : Nat) => (s + 1 + (k : Int)).fmod n
noncomputable def wayT (rd st : List Int) (c : Nat) (s : Int) : List Nat := ((List.range rd.length).map fun (k : Nat) => pcL rd st c (s + 1 + (k : Int))).flatten
noncomputable def dsL (st : List Int) (s : Int) (g : Nat) : List Nat := (List.range g).map fun (k : Nat) => (at_ st (s + 1 + (k : Int))).toNat + 48
theorem str_append (a b : List Nat) : (⟨a.toArray⟩ : Str) ++ ⟨b.toArray⟩ = ⟨(a ++ b).toArray⟩ := by
  show Str.mk (a.toArray ++ b.toArray) = _
  simp
theorem join_empty : ∀ l : List (List Nat), Str.join Str.empty (l.map fun x => (⟨x.toArray⟩ : Str)) = ⟨l.flatten.toArray⟩
  | [] => rfl
  | [x] => by simp [Str.join]
  | x :: y :: r => by
    have ih := join_empty (y :: r)
    rw [List.map_cons] at ih ⊢
    show (⟨x.toArray⟩ : Str) ++ Str.empty ++ Str.join Str.empty ((⟨y.toArray⟩ : Str) :: r.map fun x => (⟨x.toArray⟩ : Str)) = _
    rw [ih]
    show (⟨x.toArray⟩ : Str) ++ ⟨([] : List Nat).toArray⟩ ++ _ = _
    rw [str_append, str_append]; simp
theorem way_join (rd st : List Int) (c : Nat) (s : Int) : Str.join Str.empty ((List.range rd.length).map fun (k : Nat) => pcS rd st c (s + 1 + (k : Int))) = ⟨(wayT rd st c s).toArray⟩ := by
  have h := join_empty ((List.range rd.length).map fun (k : Nat) => pcL rd st c (s + 1 + (k : Int)))
  rw [List.map_map] at h
  exact h
theorem pcL_len (rd st : List Int) (c : Nat) (i : Int) : (pcL rd st c i).length ≤ 2 := by unfold pcL; split <;> simp
theorem flat_len : ∀ (l : List (List Nat)), (∀ x ∈ l, x.length ≤ 2) → l.flatten.length ≤ 2 * l.length
  | [], _ => Nat.le_refl _
  | x :: r, h => by
    have h1 := h x List.mem_cons_self
    have h2 := flat_len r fun y hy => h y (List.mem_cons_of_mem _ hy)
    rw [List.flatten_cons, List.length_append, List.length_cons]; omega
theorem way_len (rd st : List Int) (c : Nat) (s : Int) : (wayT rd st c s).length ≤ 2 * rd.length := by
  unfold wayT
  have := flat_len ((List.range rd.length).map fun (k : Nat) => pcL rd st c (s + 1 + (k : Int))) (fun x hx => by
    obtain ⟨k, _, rfl⟩ := List.mem_map.mp hx; exact pcL_len _ _ _ _)
  simpa using this
theorem way_split {rd st : List Int} {c : Nat} {s : Int} (hn : 0 < rd.length) (hs : at_ rd s = 1) : ∃ R, wayT rd st c s = dsL st s (gap rd s) ++ ([c, 41] ++ R) ∧ R.length ≤ 2 * rd.length := by
  obtain ⟨g1, g2, g3⟩ := gap_lt hn hs
  obtain ⟨m, hm⟩ : ∃ m, rd.length = gap rd s + (1 + m) := ⟨rd.length - gap rd s - 1, by omega⟩
  have e : wayT rd st c s = dsL st s (gap rd s) ++ ([c, 41] ++ ((List.range m).map fun (k : Nat) => pcL rd st c (s + 1 + ((gap rd s + (1 + k) : Nat) : Int))).flatten) := by
    unfold wayT
    rw [hm, List.range_add, List.map_append, List.flatten_append]
    congr 1
    · unfold dsL
      have : ∀ g, (∀ k, k < g → at_ rd (s + 1 + (k : Nat)) ≠ 1) → ((List.range g).map fun (k : Nat) => pcL rd st c (s + 1 + (k : Int))).flatten = (List.range g).map fun (k : Nat) => (at_ st (s + 1 + (k : Int))).toNat + 48 := by
        intro g
        induction g with
        | zero => intro _; rfl
        | succ g ih =>
          intro h
          rw [List.range_succ, List.map_append, List.map_append, List.flatten_append, ih fun k hk => h k (by (clear hn hs g1 g2 g3 hm ih h; omega))]
          congr 1
          show (pcL rd st c (s + 1 + (g : Int)) ++ []) = _
          rw [List.append_nil]
          unfold pcL
          rw [if_neg (h g (by (clear hn hs g1 g2 g3 hm ih h; omega)))]; rfl
      exact this _ g3
    · rw [List.range_add, List.map_append, List.map_append, List.flatten_append, List.map_map]
      congr 1
      · show (pcL rd st c (s + 1 + ((gap rd s + 0 : Nat) : Int)) ++ []) = _
        rw [List.append_nil, Nat.add_zero]
        unfold pcL
        rw [if_pos g2]
      · rw [List.map_map, List.map_map]; rfl
  refine ⟨_, e, ?_⟩
  have h := way_len rd st c s
  rw [e] at h
  simp only [List.length_append] at h
  (clear hn hs g1 g2 g3 e; omega)
theorem dsL_succ (st : List Int) (s : Int) (k : Nat) : dsL st s (k + 1) = dsL st s k ++ [(at_ st (s + 1 + (k : Int))).toNat + 48] := by
  unfold dsL; rw [List.range_succ, List.map_append]; rfl
theorem dsL_val {st : List Int} (s : Int) (h0 : ∀ i, 0 ≤ at_ st i) : ∀ k, (nmb st s k).getD 0 = (PySem.NumText.digitsVal (dsL st s k) : Nat)
  | 0 => rfl
  | k + 1 => by
    have ih := dsL_val s h0 k
    show 10 * (nmb st s k).getD 0 + at_ st (s + 1 + k) = _
    rw [ih, dsL_succ]
    unfold PySem.NumText.digitsVal
    rw [List.foldl_append]
    show _ = (((List.foldl _ 0 (dsL st s k)) * 10 + ((at_ st (s + 1 + (k : Int))).toNat + 48 - 48) : Nat) : Int)
    rw [Nat.add_sub_cancel]
    have := h0 (s + 1 + (k : Int))
    (clear h0 ih; omega)
theorem nmb_some {st : List Int} {s : Int} {k : Nat} (hk : 0 < k) (h0 : ∀ i, 0 ≤ at_ st i) : nmb st s k = some ((PySem.NumText.digitsVal (dsL st s k) : Nat) : Int) := by
  have h := dsL_val s h0 k
  cases k with
  | zero => cases hk
  | succ k => exact congrArg some (show 10 * (nmb st s k).getD 0 + at_ st (s + 1 + k) = _ from h)
theorem dsL_len (st : List Int) (s : Int) (k : Nat) : (dsL st s k).length = k := by simp [dsL]
theorem dsL_digits {st : List Int} (h0 : ∀ i, 0 ≤ at_ st i) (h9 : ∀ i, at_ st i ≤ 9) (s : Int) (k : Nat) : PySem.NumText.AllDigits (dsL st s k) := fun c hc => by
  unfold dsL at hc
  obtain ⟨i, _, rfl⟩ := List.mem_map.mp hc
  have h1 := h0 (s + 1 + (i : Int))
  have h2 := h9 (s + 1 + (i : Int))
  omega
theorem resp_eq (c : Nat) (ds R : List Nat) : (Str.ofString "229 (" ++ ⟨#[c, c, c]⟩) ++ ⟨(ds ++ ([c, 41] ++ R)).toArray⟩ = ⟨(rep c ds R).toArray⟩ := by
  rw [show Str.ofString "229 (" = ⟨[50, 50, 57, 32, 40].toArray⟩ from by decide +kernel, show (⟨#[c, c, c]⟩ : Str) = ⟨[c, c, c].toArray⟩ from rfl, str_append, str_append]
  unfold rep; simp
end Mine
end
section
open PySem PySem.Calls PyProof.Rows
set_option maxRecDepth 100000
set_option maxHeartbeats 1000000
namespace Mine
section
variable {C : Cx} {d : Nat} {env : Env} {σ : PSt} {Post : Option PV → PSt → Prop}
theorem ExC.assign {x : Str} {px value pos p ss} (fe : FEnv env) (hx : Sto env x) (he : Ev C d env σ.vars value p) (k : ExC C d env (σ.set x p) ss Post) (hm : ∀ y, σ.gro = some y → y.1 ≠ x := by intro _ h; exact nomatch h) (hs : swapsWith value (some (.Name x px)) pos.line env = Pure.pure false := by rfl) :
    ExC C d env σ (.Assign [.Name x px] value pos :: ss) Post := ExC.cons (XsC.of (Xs.assign fe hx he hm hs)) (fun _ h => h.2 ▸ k) fun _ _ h => nomatch h.1
theorem ExC.newList {x : Str} {px es lp pos ps ss} (fe : FEnv env) (hx : Sto env x) (he : Evs C d env σ.vars es ps) (hsz : ps.length ≤ sizeLine) (k : ExC C d env { σ with gro := some (x, ps) } ss Post) (hg : σ.gro = Option.none := by rfl) (hv : σ.vars.lookup x = Option.none := by rfl)
    (hs : swapsWith (.List es lp) (some (.Name x px)) pos.line env = Pure.pure false := by rfl) : ExC C d env σ (.Assign [.Name x px] (.List es lp) pos :: ss) Post :=
  ExC.cons (XsC.of (Xs.newList fe hx he hsz hg hv hs)) (fun _ h => h.2 ▸ k) fun _ _ h => nomatch h.1
theorem ExC.assignComp {elt iter : Expr} {x y : Str} {px py pos spos : Pos} {scope : Scope} {cel : Bool} {items qs : List PV} {ss} (fe : FEnv env) (hy : Sto env y) (cs : CSc env scope cel x σ.vars) (hI : Itb C d env σ.vars iter items) (hlen : qs.length = items.length) (hsz : items.length ≤ 1000000)
    (turn : ∀ (i : Nat) (p q : PV), items[i]? = some p → qs[i]? = some q → q.sca = true ∧ ∀ F, FEnv (cEnv scope env cel x F) → Ev C d (cEnv scope env cel x F) ((x, p) :: σ.vars) elt q)
    (k : ExC C d env (σ.set y (.lst qs)) ss Post) (hm : ∀ z, σ.gro = some z → z.1 ≠ y := by intro _ h; exact nomatch h) (hs : ∀ x, foldedSetIterable iter env x = Pure.pure x := by intro _; rfl) (hsw : swapsWith (.ListComp elt [⟨.Name x px, iter, [], 0⟩] scope pos) (some (.Name y py)) spos.line env = Pure.pure true := by rfl) :
    ExC C d env σ (.Assign [.Name y py] (.ListComp elt [⟨.Name x px, iter, [], 0⟩] scope pos) spos :: ss) Post :=
  ExC.cons (XsC.of (Xs.assignComp fe hy cs hI hlen hsz turn hm hs hsw)) (fun _ h => h.2 ▸ k) fun _ _ h => nomatch h.1
end
theorem join_fold : ∀ (l : List Str) (a : Nat), (∀ x ∈ l, x.length ≤ 2) → l.foldl (fun acc (x : Str) => acc + x.length + Str.empty.length) a ≤ a + 2 * l.length
  | [], a, _ => Nat.le_refl _
  | x :: r, a, h => by
    have h1 := h x List.mem_cons_self
    have h2 := join_fold r (a + x.length + Str.empty.length) fun y hy => h y (List.mem_cons_of_mem _ hy)
    have e : Str.empty.length = 0 := rfl
    rw [List.foldl_cons, List.length_cons]
    rw [e] at h2
    rw [e]
    omega
theorem join_ok (l : List Str) (h : ∀ x ∈ l, x.length ≤ 2) (hn : l.length ≤ 1000) : JoinOk Str.empty l = true := by
  unfold JoinOk
  have := join_fold l 0 h
  rw [Bool.not_eq_true']
  unfold Builtin.Str.tooLong
  rw [List.foldl_toArray, sizeLine_eq]
  simp
  omega
noncomputable def toldFr (env envl : Env) (A : Around) : Prop := A.frames = some [env, envl]
theorem told_body {w : World} {d : Nat} {rd st : List Int} {c : Nat} {L f Ll : Addr} {cd : Value} {envl : Env} {oX : Obj} (hn : 0 < rd.length) (hn2 : rd.length ≤ 100) (hst : st.length = rd.length) (h01 : ∀ i, at_ rd i = 0 ∨ at_ rd i = 1) (h0 : ∀ i, 0 ≤ at_ st i) (h9 : ∀ i, at_ st i ≤ 9)
    (hc : c < 256) (hc1 : c ≠ 41) (hcd : c < 48 ∨ 57 < c) (hkl : envl.scope.kind ≠ .module) (hfl : envl.frame = some Ll) :
    ExC (CX w ⟨some Ll, oX⟩ (toldFr (fenv (rw_ 13) L f cd) envl)) (d + 1) (fenv (rw_ 13) L f cd) ⟨(["road", "stones", "mark"] : List Str).zip [.lst (iL rd), .lst (iL st), .str ⟨#[c]⟩], Option.none⟩ (rw_ 13).body (fun o _ => o = some (.lst (pairs (wayL rd st rd.length)))) := by
  have fe : FEnv (fenv (rw_ 13) L f cd) := ⟨(by with_unfolding_all rfl), rfl, rfl⟩
  with_unfolding_all refine ExC.assign (p := .int rd.length) fe (.inr ⟨by with_unfolding_all rfl, by with_unfolding_all rfl⟩) (Ev.callB fe (by with_unfolding_all rfl) bl b_len (Evs.cons (Ev.nm (by assumption) (by with_unfolding_all rfl) (by with_unfolding_all rfl)) Evs.nil (by with_unfolding_all rfl)) (fn_lenI (by omega))) ?_
  with_unfolding_all refine ExC.newList (ps := []) fe (.inl (by with_unfolding_all rfl)) Evs.nil (by decide) ?_
  with_unfolding_all refine ExC.for (items := rng 0 rd.length 1) fe (.inr ⟨by with_unfolding_all rfl, by with_unfolding_all rfl⟩) (Itb.range1 fe (by with_unfolding_all rfl) bl b_range (Ev.nm (by assumption) (by with_unfolding_all rfl) (by with_unfolding_all rfl)) (by first | exact small0 (Nat.le_trans hn2 (by decide)) | exact small0 (by omega) | exact small1 (by omega) (by omega)) (by first | exact rangeSize0 _ | exact rangeSize1 _ _ _ (by omega))) (fun i σ' => σ' = ⟨[("size", .int rd.length), ("road", .lst (iL rd)), ("stones", .lst (iL st)), ("mark", .str ⟨#[c]⟩)], some ("told", pairs (wayL rd st i))⟩) rfl (fun i σ' hi y hy => by subst hi; (first | obtain rfl := Option.some.inj hy | cases hy); exact (by decide : Str.ofString "told" ≠ Str.ofString "spot")) ?_ ?_
  · rintro i σ' p rfl hp
    have hi : i < rd.length := by
      have := (List.getElem?_eq_some_iff.mp hp).1
      rwa [rng_length] at this
    rw [rng_get hi] at hp
    (first | obtain rfl := Option.some.inj hp | cases hp)
    have ei : (0 : Int) + (i : Int) * 1 = i := by (clear hn hn2 hst h01 h0 h9 hc hc1 hcd hkl hfl fe hi hp; omega)
    rw [ei]
    have ef : (i : Int).fmod rd.length = i := Int.fmod_eq_of_lt (by (clear hn hn2 hst h01 h0 h9 hc hc1 hcd hkl hfl fe hi hp ei; omega)) (by (clear hn hn2 h01 h0 h9 hc hc1 hcd hkl hfl fe hp ei; omega))
    have htold : ∀ x : Str, Str.ofString "told" ≠ x → ∀ y : Str × List PV, some (Str.ofString "told", pairs (wayL rd st i)) = some y → y.1 ≠ x := fun x hx y hy => by (first | obtain rfl := Option.some.inj hy | cases hy); exact hx
    with_unfolding_all refine ExC.cons (XsC.ifs (b := at_ rd i == 1) (Post := fun o σ'' => o = Option.none ∧ σ'' = ⟨[("size", .int rd.length), ("road", .lst (iL rd)), ("stones", .lst (iL st)), ("mark", .str ⟨#[c]⟩)], some ("told", pairs (wayL rd st (i + 1)))⟩) (Tr.cmp (at_get' (i := (i : Int)) hn (Ev.nm (by assumption) (by with_unfolding_all rfl) (by with_unfolding_all rfl)) (Ev.nm (by assumption) (by with_unfolding_all rfl) (by with_unfolding_all rfl)) ef.symm (by omega)) Ev.int op_eq) ?_) (fun σ' h => ExC.of (Ex.nil h)) fun _ _ h => nomatch h.1
    by_cases hcar : at_ rd i = 1
    · have hcb : (at_ rd i == 1) = true := by rw [hcar]; rfl
      rw [hcb]
      simp only [if_true]
      have hwl : pairs (wayL rd st (i + 1)) = pairs (wayL rd st i) ++ [.tup [.int i, ovl (nmb st i (gap rd i))]] := by
        have : wayL rd st (i + 1) = wayL rd st i ++ [(.int i, ovl (nmb st i (gap rd i)))] := by
          show wayL rd st i ++ _ = _
          rw [if_pos hcar]
        rw [this, pairs_app]; rfl
      have hlen : (pairs (wayL rd st i)).length ≤ 1000000 := by simp only [pairs, List.length_map]; have := wayL_len rd st i; omega
      obtain ⟨R, eR, hR⟩ := way_split (st := st) (c := c) hn hcar
      with_unfolding_all refine ExC.assignComp (cel := false) (items := rng 1 rd.length 1) (qs := iL (plL rd.length i)) fe (.inl (by with_unfolding_all rfl)) (CSc.of (by with_unfolding_all rfl) (by decide +kernel) (by with_unfolding_all rfl) (by with_unfolding_all rfl) (by intro _ _; with_unfolding_all rfl) (by intro _; with_unfolding_all rfl)) (Itb.range2 fe (by with_unfolding_all rfl) bl b_range Ev.int (Ev.bin (Ev.nm (by assumption) (by with_unfolding_all rfl) (by with_unfolding_all rfl)) Ev.int op_add) (small1 (by (clear hn hn2 hst h01 h0 h9 hc hc1 hcd hkl hfl fe hi hp ei ef htold hcar hcb hwl hlen eR hR; omega)) (by (clear h01 h0 h9 hc hc1 hcd hkl hfl fe hi hp ei ef htold hcar hcb hwl hlen eR hR; omega))) (rangeSize1 _ _ _ (by (clear hn hn2 hst h01 h0 h9 hc hc1 hcd hkl hfl fe hi hp ei ef htold hcar hcb hwl hlen eR hR; omega)))) (by simp [rng_length, iL, plL]) (by rw [rng_length]; (clear h01 h0 h9 hc hc1 hcd hkl hfl fe hi hp ei ef htold hcar hcb hwl hlen eR hR; omega)) ?_ ?_ (htold "places" (by decide))
      · refine rng_turn (f := fun k => ((i : Int) + 1 + (k : Nat)).fmod rd.length) fun k hk => ⟨rfl, fun F fe2 => ?_⟩
        have ek : (i : Int) + 1 + (k : Nat) = i + (1 + (k : Int) * 1) := by (clear hn hn2 hst h01 h0 h9 hc hc1 hcd hkl hfl fe hi hp ei ef htold hcar hcb hwl hlen eR hR hk fe2; omega)
        rw [ek]
        with_unfolding_all exact Ev.bin (Ev.bin (Ev.nm (by assumption) (by with_unfolding_all rfl) (by with_unfolding_all rfl)) (Ev.nm (by assumption) (by with_unfolding_all rfl) (by with_unfolding_all rfl)) op_add) (Ev.nm (by assumption) (by with_unfolding_all rfl) (by with_unfolding_all rfl)) (op_mod (by (clear h01 h0 h9 hc hc1 hcd hkl hfl fe hi hp ei ef htold hcar hcb hwl hlen eR hR hk fe2 ek; omega)))
      with_unfolding_all refine ExC.assign (p := .str ⟨(wayT rd st c i).toArray⟩) fe (.inl (by with_unfolding_all rfl)) (Ev.to (Ev.methS F.slot_str_join F.type_str_join (show Ev _ _ _ _ _ (.str Str.empty) from Ev.str) (Evs.cons (Ev.comp (cel := false) (items := iL (plL rd.length i)) (qs := sL ((List.range rd.length).map fun (k : Nat) => pcS rd st c ((i : Int) + 1 + (k : Int)))) fe (CSc.of (by with_unfolding_all rfl) (by decide +kernel) (by with_unfolding_all rfl) (by with_unfolding_all rfl) (by intro _ _; with_unfolding_all rfl) (by intro _; with_unfolding_all rfl)) (Itb.list (Ev.nm (by assumption) (by with_unfolding_all rfl) (by with_unfolding_all rfl))) (by simp [iL, sL, plL]) (by simp [iL, plL]; (clear h01 h0 h9 hc hc1 hcd hkl hfl fe hi hp ei ef htold hcar hcb hwl hlen eR hR; omega)) ?_) Evs.nil (by with_unfolding_all rfl)) (op_join ?_) (by with_unfolding_all rfl) (by with_unfolding_all rfl) (by with_unfolding_all rfl) (by with_unfolding_all rfl) (by with_unfolding_all rfl)) (by rw [way_join])) ?_ (htold "way" (by decide))
      · intro k p q hp hq
        have hk : k < rd.length := by
          have := (List.getElem?_eq_some_iff.mp hp).1
          simpa [iL, plL] using this
        have ep : p = .int (((i : Int) + 1 + (k : Nat)).fmod rd.length) := by
          simp [iL, plL, List.getElem?_range hk] at hp; exact hp.symm
        have eq : q = .str (pcS rd st c ((i : Int) + 1 + (k : Nat))) := by
          simp [sL, List.getElem?_range hk] at hq; exact hq.symm
        subst ep eq
        refine ⟨rfl, fun F fe2 => ?_⟩
        by_cases hb : at_ rd ((i : Int) + 1 + (k : Nat)) = 1
        · have e1 : OpOk (CX w ⟨some Ll, oX⟩ (toldFr (fenv (rw_ 13) L f cd) envl)) (d + 1) [.int (at_ rd ((i : Int) + 1 + (k : Nat))), .int 1] (cop .Eq) (.bool true) := by
            have h := op_eq (C := CX w ⟨some Ll, oX⟩ (toldFr (fenv (rw_ 13) L f cd) envl)) (d := d + 1) (a := at_ rd ((i : Int) + 1 + (k : Nat))) (b := 1)
            rw [show (at_ rd ((i : Int) + 1 + (k : Nat)) == 1) = true from by rw [hb]; rfl] at h
            exact h
          with_unfolding_all refine Ev.to (Ev.ite (b := true) (Tr.cmp (at_get' (i := (i : Int) + 1 + (k : Nat)) hn (Ev.nm (by assumption) (by with_unfolding_all rfl) (by with_unfolding_all rfl)) (Ev.nm (by assumption) (by with_unfolding_all rfl) (by with_unfolding_all rfl)) rfl (by (clear h01 h0 h9 hc hc1 hcd hkl hfl fe hi ei ef htold hcar hcb hwl hlen eR hR hk hp hq fe2 hb e1; omega))) Ev.int e1) (show Ev _ _ _ _ _ (.str (⟨#[c]⟩ ++ Str.ofString ")")) from Ev.bin (Ev.nm (by assumption) (by with_unfolding_all rfl) (by with_unfolding_all rfl)) Ev.str (op_addS (by rw [sizeLine_eq]; show 1 + 1 ≤ _; decide)))) ?_
          unfold pcS pcL
          rw [if_pos hb, show Str.ofString ")" = ⟨[41].toArray⟩ from by decide +kernel, show (⟨#[c]⟩ : Str) = ⟨[c].toArray⟩ from rfl, str_append]; rfl
        · have e1 : OpOk (CX w ⟨some Ll, oX⟩ (toldFr (fenv (rw_ 13) L f cd) envl)) (d + 1) [.int (at_ rd ((i : Int) + 1 + (k : Nat))), .int 1] (cop .Eq) (.bool false) := by
            have h := op_eq (C := CX w ⟨some Ll, oX⟩ (toldFr (fenv (rw_ 13) L f cd) envl)) (d := d + 1) (a := at_ rd ((i : Int) + 1 + (k : Nat))) (b := 1)
            rw [show (at_ rd ((i : Int) + 1 + (k : Nat)) == 1) = false from by simpa using hb] at h
            exact h
          with_unfolding_all refine Ev.to (Ev.ite (b := false) (Tr.cmp (at_get' (i := (i : Int) + 1 + (k : Nat)) hn (Ev.nm (by assumption) (by with_unfolding_all rfl) (by with_unfolding_all rfl)) (Ev.nm (by assumption) (by with_unfolding_all rfl) (by with_unfolding_all rfl)) rfl (by (clear h01 h0 h9 hc hc1 hcd hkl hfl fe hi ei ef htold hcar hcb hwl hlen eR hR hk hp hq fe2 hb e1; omega))) Ev.int e1) (show Ev _ _ _ _ _ (.str ⟨#[(at_ st ((i : Int) + 1 + (k : Nat))).toNat + 48]⟩) from Ev.callT fe2 (by with_unfolding_all rfl) bl b_str (Evs.cons (at_get' (rd := st) (i := (i : Int) + 1 + (k : Nat)) (by (clear h01 h0 h9 hc hc1 hcd hkl hfl fe hi ei ef htold hcar hcb hwl hlen eR hR hk hp hq fe2 hb e1; omega)) (Ev.nm (by assumption) (by with_unfolding_all rfl) (by with_unfolding_all rfl)) (Ev.nm (by assumption) (by with_unfolding_all rfl) (by with_unfolding_all rfl)) (by rw [hst]) (by (clear h01 h0 h9 hc hc1 hcd hkl hfl fe hi ei ef htold hcar hcb hwl hlen eR hR hk hp hq fe2 hb e1; omega))) Evs.nil (by with_unfolding_all rfl)) (fn_strI (h0 _) (by have := h9 ((i : Int) + 1 + (k : Nat)); (clear hn hn2 hst h01 h0 h9 hc hc1 hcd hkl hfl fe hi ei ef htold hcar hcb hwl hlen eR hR hk hp hq fe2 hb e1; omega))))) ?_
          unfold pcS pcL
          rw [if_neg hb]
      · exact join_ok _ (fun x hx => by
          obtain ⟨k, _, rfl⟩ := List.mem_map.mp hx
          unfold pcS; show (pcL _ _ _ _).toArray.size ≤ 2; simpa using pcL_len rd st c _) (by simp; (clear h01 h0 h9 hc hc1 hcd hkl hfl fe hi hp ei ef htold hcar hcb hwl hlen eR hR; omega))
      have s5 : (Str.ofString "229 (").length = 5 := by decide +kernel
      have hsz : ((Str.ofString "229 (" ++ ⟨#[c, c, c]⟩) : Str).length = 8 := by
        show (_ ++ _ : Array Nat).size = _
        rw [Array.size_append]; show (Str.ofString "229 (").length + 3 = 8; rw [s5]
      have hwz : (⟨(wayT rd st c i).toArray⟩ : Str).length ≤ 200 := by
        show (wayT rd st c i).toArray.size ≤ _
        have := way_len rd st c i
        simp; (clear h01 h0 h9 hc hc1 hcd hkl hfl fe hi hp ei ef htold hcar hcb hwl hlen eR hR s5 hsz; omega)
      have hcdd : ∀ k, c ∉ dsL st i k := fun k hm => by have := dsL_digits h0 h9 i k c hm; (clear hn hn2 hst h01 h0 h9 hc1 hkl hfl fe hi hp ei ef htold hcar hcb hwl hlen eR hR s5 hsz hwz hm; omega)
      have h41 : ∀ k, 41 ∉ dsL st i k := fun k hm => by have := dsL_digits h0 h9 i k 41 hm; (clear hn hn2 hst h01 h0 h9 hc hc1 hcd hkl hfl fe hi hp ei ef htold hcar hcb hwl hlen eR hR s5 hsz hwz hcdd hm; omega)
      rcases Nat.eq_zero_or_pos (gap rd i) with hg | hg
      · have hds : dsL st i (gap rd i) = [] := by rw [hg]; rfl
        have hnm : nmb st i (gap rd i) = Option.none := by rw [hg]; rfl
        rw [hwl, hnm]
        with_unfolding_all refine ExC.cons (XsC.tryRaise (x := "told") (y := "spot") (l := pairs (wayL rd st i)) (p := .int (i : Int)) (r := rw_ 7) (envl := envl) (Ll := Ll) (ps := [.str ⟨(rep c (dsL st i (gap rd i)) R).toArray⟩, .tup [.int (i : Int), .int rd.length]]) fe (.inl (by with_unfolding_all rfl)) rfl m_7 (by with_unfolding_all rfl) (Evs.cons (Ev.to (Ev.bin (Ev.bin Ev.str (Ev.bin Ev.int (Ev.nm (by assumption) (by with_unfolding_all rfl) (by with_unfolding_all rfl)) op_mulIS) (op_addS (by rw [s5, sizeLine_eq]; show 5 + 3 ≤ _; decide))) (Ev.nm (by assumption) (by with_unfolding_all rfl) (by with_unfolding_all rfl)) (op_addS (by rw [hsz, sizeLine_eq]; (clear hn hn2 hst h01 h0 h9 hc hc1 hcd hkl hfl fe hi hp ei ef htold hcar hcb hwl hlen eR hR s5 hsz hcdd h41 hg hds hnm; omega)))) (by rw [eR, resp_eq])) (Evs.cons (Ev.tuple (Evs.cons (Ev.nm (by assumption) (by with_unfolding_all rfl) (by with_unfolding_all rfl)) (Evs.cons (Ev.nm (by assumption) (by with_unfolding_all rfl) (by with_unfolding_all rfl)) Evs.nil (by with_unfolding_all rfl)) (by with_unfolding_all rfl)) (by rw [sizeLine_eq]; simp)) Evs.nil (by with_unfolding_all rfl)) (by with_unfolding_all rfl)) (CallR.re (parse_refuses hc hc1 (hcdd _) (h41 _) hds (by rw [hds]; simp) (by (clear h01 h0 h9 hc hc1 hcd hkl hfl fe hi hp ei ef htold hcar hcb hwl hlen eR s5 hsz hwz hcdd h41 hg hds hnm; omega))) _ _) rfl (.inr ⟨by with_unfolding_all rfl, by with_unfolding_all rfl⟩) rfl hlen (by with_unfolding_all rfl) bl (fun h => wpAny_Constant_none h) (fun A h => h) rfl hkl hfl rfl) (fun σ' h => h.2 ▸ ?_) fun _ _ h => nomatch h.1
        with_unfolding_all refine ExC.of (Ex.drops [("way", _), ("places", _), ("spot", _)] (Ex.nil ⟨rfl, rfl⟩) (by with_unfolding_all rfl))
      · have hnm := nmb_some (s := (i : Int)) hg h0
        have hne : dsL st i (gap rd i) ≠ [] := fun h => by have := dsL_len st i (gap rd i); rw [h] at this; simp at this; (clear hn hn2 hst h01 h0 h9 hc hc1 hcd hkl hfl fe hi hp ei ef htold hcar hcb hwl hlen eR hR s5 hsz hwz hcdd h41 hnm h; omega)
        rw [hwl, hnm]
        have hgl := (gap_lt hn hcar).1
        with_unfolding_all refine ExC.cons (XsC.of (Xs.tryOk (Post := fun o σ'' => o = Option.none ∧ σ'' = ⟨[("way", .str ⟨(wayT rd st c i).toArray⟩), ("places", .lst (iL (plL rd.length i))), ("spot", .int (i : Int)), ("size", .int rd.length), ("road", .lst (iL rd)), ("stones", .lst (iL st)), ("mark", .str ⟨#[c]⟩)], some ("told", pairs (wayL rd st i) ++ [.tup [.int (i : Int), .int (PySem.NumText.digitsVal (dsL st i (gap rd i)))]])⟩) (Ex.append (l := pairs (wayL rd st i)) (p := .tup [.int (i : Int), .int (PySem.NumText.digitsVal (dsL st i (gap rd i)))]) fe (.inl (by with_unfolding_all rfl)) (Ev.callF (r := rw_ 7) (ps := [.str ⟨(rep c (dsL st i (gap rd i)) R).toArray⟩, .tup [.int (i : Int), .int rd.length]]) fe (by with_unfolding_all rfl) m_7 (Evs.cons (Ev.to (Ev.bin (Ev.bin Ev.str (Ev.bin Ev.int (Ev.nm (by assumption) (by with_unfolding_all rfl) (by with_unfolding_all rfl)) op_mulIS) (op_addS (by rw [s5, sizeLine_eq]; show 5 + 3 ≤ _; decide))) (Ev.nm (by assumption) (by with_unfolding_all rfl) (by with_unfolding_all rfl)) (op_addS (by rw [hsz, sizeLine_eq]; (clear hn hn2 hst h01 h0 h9 hc hc1 hcd hkl hfl fe hi hp ei ef htold hcar hcb hwl hlen eR hR s5 hsz hcdd h41 hg hnm hne hgl; omega)))) (by rw [eR, resp_eq])) (Evs.cons (Ev.tuple (Evs.cons (Ev.nm (by assumption) (by with_unfolding_all rfl) (by with_unfolding_all rfl)) (Evs.cons (Ev.nm (by assumption) (by with_unfolding_all rfl) (by with_unfolding_all rfl)) Evs.nil (by with_unfolding_all rfl)) (by with_unfolding_all rfl)) (by rw [sizeLine_eq]; simp)) Evs.nil (by with_unfolding_all rfl)) (by with_unfolding_all rfl)) (CallOk.re (parse_ok hc hc1 (hcdd _) (h41 _) (dsL_digits h0 h9 i _) hne (by rw [dsL_len]; (clear h01 h0 h9 hc hc1 hcd hkl hfl fe hi hp ei ef htold hcar hcb hwl hlen eR hR s5 hsz hwz hcdd h41 hg hnm hne; omega)) (by (clear h01 h0 h9 hc hc1 hcd hkl hfl fe hi hp ei ef htold hcar hcb hwl hlen eR s5 hsz hwz hcdd h41 hg hnm hne hgl; omega))) _ _)) rfl hlen (Ex.nil ⟨rfl, rfl⟩)))) (fun σ' h => h.2 ▸ ?_) fun _ _ h => nomatch h.1
        with_unfolding_all refine ExC.of (Ex.drops [("way", _), ("places", _), ("spot", _)] (Ex.nil ⟨rfl, rfl⟩) (by with_unfolding_all rfl))
    · have hcb : (at_ rd i == 1) = false := by simpa using hcar
      rw [hcb]
      simp only [Bool.false_eq_true, if_false]
      with_unfolding_all refine ExC.of (Ex.drop (x := "spot") (Ex.nil ⟨rfl, ?_⟩) (by with_unfolding_all rfl))
      have : wayL rd st (i + 1) = wayL rd st i := by
        show wayL rd st i ++ _ = _
        rw [if_neg hcar, List.append_nil]
      rw [this]
  · rintro σ' rfl
    rw [rng_length]
    refine ExC.of (Ex.freeze ?_)
    with_unfolding_all refine Ex.ret (Ev.nm (by assumption) (by with_unfolding_all rfl) (by with_unfolding_all rfl)) rfl
end Mine
end
section
open PySem PySem.Calls PyProof.Rows
set_option maxRecDepth 100000
namespace Mine
/-- a value under the caller: the frame and the growing list may turn -/
noncomputable def EvC (C : Cx) (d : Nat) (env : Env) (σ : PSt) (e : Expr) (p : PV) : Prop :=
  ∀ A, AOk C d A → ∀ (s : Shared) hB gB μ g, SA C env hB gB σ μ g s.heap → ∀ (Q : Value → Shared → Prop) (E : Value → Shared → Prop),
    (∀ v g' h' tk, SA C env hB gB σ μ g' h' → Stp C.ex env μ g s.heap μ g' h' → Rep g' v p → Q v { s with heap := h', toks := tk }) → wpC C.M A (eval e env) Q E s
noncomputable def CallT (C : Cx) (d : Nat) (env : Env) (r : DefRow) (ps : List PV) (q : PV) : Prop :=
  ∀ A, AOk C d A → ∀ (s : Shared) hB gB σ μ g, SA C env hB gB σ μ g s.heap → ∀ f o pm cd doc, s.heap.get? f = some o → o.data = .func (docDef r.name r.params r.body r.scope pm cd doc) → s.heap.CodeRec cd r.name →
    ∀ vs, Reps g vs ps → ∀ (Q : Value → Shared → Prop) (E : Value → Shared → Prop),
    (∀ v g' h' tk, SA C env hB gB σ μ g' h' → Stp C.ex env μ g s.heap μ g' h' → Rep g' v q → Q v { s with heap := h', toks := tk }) → wpC C.M A (call (.ref f) vs) Q E s
section
variable {C : Cx} {d : Nat} {env : Env} {σ : PSt} {Post : Option PV → PSt → Prop}
theorem XsC.assignE {x : Str} {px value pos p} (fe : FEnv env) (hx : Sto env x) (he : EvC C d env σ value p) (hm : ∀ y, σ.gro = some y → y.1 ≠ x) (hs : swapsWith value (some (.Name x px)) pos.line env = Pure.pure false) :
    XsC C d env σ (.Assign [.Name x px] value pos) (fun o σ' => o = Option.none ∧ σ' = σ.set x p) := fun A hA s hB gB μ g S Q E hn _ =>
  Mine.C.Assign_Name (he A hA s hB gB μ g S _ _ fun v g' h' tk S' st r => store fe S'.frm hx fun _ h'' tk' hb hs F l lo =>
    hn (σ.set x p) μ g' h'' tk' ⟨rfl, rfl⟩ (S'.stored hb hs F l lo r hm) (Stp.trans S'.frm st (Stp.same hs (.inl hb)))) hs
theorem EvC.callT {r : DefRow} {px pos e es ps} {q : PV} (fe : FEnv env) (hx : env.kindOf r.name = some .globalImplicit) (hr : r ∈ C.defs) (ha : Evs C d env σ.vars (e :: es) ps) (ho : CallT C d env r ps q)
    (hd : (r.name == ("__debug__" : Str)) = false := by decide) (he : starEach (e :: es) env = (false, eval e env) :: starEach es env := by rfl) :
    EvC C d env σ (.Call (.Name r.name px) (e :: es) [] pos) q := fun A hA s hB gB μ g S Q E hQ => by
  obtain ⟨mg, mb, g1, g2, _, g4, g5⟩ := S.eh.glo.ex
  obtain ⟨f, o, pm, cd, doc, e1, e2, e3, e4⟩ := (g5 r hr).at_
  refine Mine.C.Call_Name (Name_function_global fe.kind hx (loadGlobal_global (mg := mg) (by rw [fe.glob]; exact g1) e1 ?_) hd)
  refine Mine.C.callWith_def e3 (ha A hA s g pos S.eh _ _ fun vs g' h' tk G rs => ⟨G.kp _ _ e2, ?_⟩) he
  exact ho A hA { s with heap := h', toks := tk } hB gB σ μ g' (S.grown G) f o pm cd doc (G.kp _ _ e2) e3 (Heap.CodeRec.keeps (h' := h') e4 G.kp) vs rs Q E fun v g'' h'' tk' S' st r => hQ v g'' h'' tk' S' (Stp.trans (S.grown G).frm (Stp.grow G) st) r
end
theorem CallT.of {w : World} {fr : Around → Prop} {d : Nat} {env : Env} {r : DefRow} {ps : List PV} {q : PV} {ns : List Str}
    (hb : ∀ vs : List Value, vs.length = ps.length → ∀ pm cd doc, bindArgs (docDef r.name r.params r.body r.scope pm cd doc) ⟨vs, []⟩ = Pure.pure (ns.zip vs))
    (hn : ns.Nodup) (hl : ns.length = ps.length) (hk : (ns.all fun x => r.scope.names.lookup x == some .local || r.scope.names.lookup x == some .cell) = true)
    (hnd : ((cellsFrom 0 r.scope.names []).map (·.1)).Nodup)
    (hco : r.scope.isCoroutine = false) (hgen : r.scope.isGenerator = false) (hkf : r.scope.kind = .function) (hfrm : ∀ A, fr A → A.frames = some [env])
    (body : ∀ L f cd oX, ExC (CX w ⟨some env.locals, oX⟩ (toldFr (fenv r L f cd) env)) d (fenv r L f cd) ⟨ns.zip ps, Option.none⟩ r.body (fun o _ => o = some q)) : CallT (CX w {} fr) (d + 1) env r ps q := fun A hA s hB gB σ μ g S f o pm cd doc ho hd hcd vs rs Q E hQ => by
  have hlen : vs.length = ns.length := rs.length.trans hl.symm
  obtain ⟨mg, mb, _, _, hlim, _, _⟩ := S.eh.glo.ex
  obtain ⟨mL, oL, esL, epL, eL, dL, _⟩ := S.frm.ns
  have hA0 : At (CX w {} fr).ex env env.locals := .inl (.inl rfl)
  refine Mine.C.call (K.call_cells (binds := ns.zip vs) (by have := hA.depth; omega) ho hd hlim hcd (hb vs rs.length pm cd doc) (PySem.W.kindsX (enter_kinds hlen hk) _) (fun h₁ tk F X => ?_) hco hgen hkf)
  have hT_of : ∀ b o, (PySem.W.hideAll s.heap [env.locals]).get? b = some o → s.heap.get? b = some o := fun b o e => PySem.W.of_hideAll _ e
  have hT_get : ∀ b o, s.heap.get? b = some o → b ≠ env.locals → (PySem.W.hideAll s.heap [env.locals]).get? b = some o := fun b o e n => PySem.W.hideAll_get _ e (by simpa using n)
  have hT_none : ∀ b, s.heap.get? b = Option.none → (PySem.W.hideAll s.heap [env.locals]).get? b = Option.none := fun b hb => by
    cases q : (PySem.W.hideAll s.heap [env.locals]).get? b with
    | none => rfl
    | some o => have := hT_of _ _ q; rw [hb] at this; (first | obtain rfl := Option.some.inj this | cases this)
  have hT_L : (PySem.W.hideAll s.heap [env.locals]).get? env.locals = Option.none := PySem.W.hideAll_none _ (by simp)
  have hLlt : env.locals < s.heap.objs.size := Heap.lt_size eL
  have hgL : g env.locals = Option.none := (S.off _ hA0).1
  have St : SA (CX w ⟨some env.locals, oL⟩ (toldFr (fenv r s.heap.objs.size f cd) env)) (fenv r s.heap.objs.size f cd) (PySem.W.hideAll s.heap [env.locals]) g ⟨ns.zip ps, Option.none⟩ Option.none g h₁ := by
    refine ⟨⟨fun b o e => F.keep b o (hT_of b o e), GLe.refl g, fun b o e => F.keep b o (S.grow.sub b o e), fun b o e => .inl e⟩, ?_, enter_frm hnd F X (fun a e => ?_) (fun a e => Option.some.inj e ▸ hLlt), fun a ha => ?_, fun x p e => enter_vars rs hlen hn hk F X e, trivial⟩
    · exact Glo.kp (h := hB) (fun b o e => hT_get b o (S.grow.kp b o e) (by rintro rfl; rw [(S.off _ hA0).2] at e; (first | obtain rfl := Option.some.inj e | cases e))) S.glo
    · (first | obtain rfl := Option.some.inj e | cases e)
      exact ⟨oL, esL, epL, F.keep _ _ eL, dL, oL.slots, rfl⟩
    · rcases ha with (rfl | ⟨n, hm⟩) | e
      · have := Heap.get?_none_of_le (h := s.heap) (Nat.le_refl s.heap.objs.size)
        exact ⟨S.grow.sub.off this, hT_none _ this⟩
      · have := Heap.get?_none_of_le (h := s.heap) (Nat.le_of_lt (X.above n a hm))
        exact ⟨S.grow.sub.off this, hT_none _ this⟩
      · (first | obtain rfl := Option.some.inj e | cases e)
        exact ⟨hgL, hT_L⟩
  have hA' : AOk (CX w ⟨some env.locals, oL⟩ (toldFr (fenv r s.heap.objs.size f cd) env)) d (A.deeper (fenv r s.heap.objs.size f cd)) := ⟨hA.handled, by show A.depth + 1 + d < _; have := hA.depth; omega, by show A.units + 3 + 8 * d + 8 < _; have := hA.units; omega, Around.frames_deeper (hfrm A hA.fr)⟩
  refine body s.heap.objs.size f cd oL _ hA' _ _ g Option.none g St _ _ (fun σ' μ' g' h' tk' hp => nomatch hp) fun p σ' v g' h' tk' hp G rv => ?_
  (first | obtain rfl := Option.some.inj hp | cases hp)
  have kp : ∀ b o, s.heap.get? b = some o → ¬ (b = env.locals ∨ (CX w {} fr).ex.adr = some b) → h'.get? b = some o := fun b o e n => G.grow.kp b o (hT_get b o e fun q => n (.inl q))
  have u : s.heap.UpToSlots h' := fun b o e hnf => by
    by_cases hbL : b = env.locals
    · subst hbL
      obtain ⟨o', es', n', e', _, sl, rfl⟩ := G.frm.ex_ _ rfl
      rw [eL] at e; (first | obtain rfl := Option.some.inj e | cases e)
      exact ⟨sl, e'⟩
    · exact ⟨o.slots, kp b o e fun q => q.elim hbL fun q => nomatch q⟩
  have S1 := S.turned kp u
  have hnew : ∀ b o, g' b = some o → g b = some o ∨ s.heap.get? b = Option.none := fun b o e => by
    rcases G.grow.new b o e with q | q
    · exact .inl q
    · right
      cases q2 : s.heap.get? b with
      | none => rfl
      | some o2 =>
        by_cases hbL : b = env.locals
        · subst hbL
          have := G.off env.locals (.inr rfl)
          rw [e] at this; (first | obtain rfl := Option.some.inj this | cases this)
        · rw [hT_get b o2 q2 hbL] at q; (first | obtain rfl := Option.some.inj q | cases q)
  have offg : ∀ b o, s.heap.get? b = some o → g b = Option.none → g' b = Option.none := fun b o e n => by
    cases q : g' b with
    | none => rfl
    | some o' =>
      rcases hnew b o' q with r | r
      · rw [n] at r; (first | obtain rfl := Option.some.inj r | cases r)
      · rw [e] at r; (first | obtain rfl := Option.some.inj r | cases r)
  have S2 : SA (CX w {} fr) env hB gB σ μ g' h' := ⟨⟨S1.grow.kp, S.grow.le.trans G.grow.le, G.grow.sub, fun b o e => (hnew b o e).elim (S.grow.new b o) fun q => .inr (S.grow.kp.none q)⟩, S1.glo, S1.frm, fun a x => by
      obtain ⟨oa, ea⟩ := x.live S.frm
      exact ⟨offg a oa ea (S.off a x).1, (S.off a x).2⟩, fun x p e => let ⟨v, a, b⟩ := S1.vars x p e; ⟨v, a, b.mono G.grow.le⟩, by
      refine S1.gro.imp fun z a hz hμ ⟨m1, ⟨its, n, m2, m3⟩, m4, m5, m6⟩ => ⟨m1, ⟨its, n, m2, m3.mono G.grow.le⟩, ?_, m5, m6⟩
      subst hμ
      obtain ⟨its', n', w2⟩ : ∃ its' n', s.heap.get? a = some (lobj its' n') := by
        have hg := S.gro
        rw [hz] at hg
        obtain ⟨_, ⟨its', n', w2, _⟩, _⟩ := hg
        exact ⟨its', n', w2⟩
      exact offg a _ w2 m4⟩
  refine hQ v g' h' tk' S2 ⟨MuOk.refl _ _, fun b o e h1 _ => kp b o e fun q => h1 (q.elim (fun q => .inl (.inl q)) .inr), G.grow.le, fun b o e => (hnew b o e).imp id .inl⟩ rv
end Mine
end
section
open PySem PySem.Calls PyProof.Rows
set_option maxRecDepth 100000
set_option maxHeartbeats 2000000
namespace Mine
/-- what the plain laws have to give -/
structure LawOk (rd st : List Int) (m : Nat) (dark bright gain top : Int) : Prop where
  len : rd.length = 3 * m
  m1 : 1 ≤ m
  m2 : m ≤ 4
  stl : st.length = rd.length
  st0 : ∀ i, 0 ≤ at_ st i
  st9 : ∀ i, at_ st i ≤ 9
  d0 : 0 ≤ dark
  d1 : dark ≤ 15
  b0 : 1 ≤ bright
  b1 : bright ≤ 16
  g0 : 1 ≤ gain
  g1 : gain ≤ 4
  t0 : 0 < top
  t1 : top < 1073741824
  c0 : carsL rd 0 = rd
  x0 : crossL rd 0 = List.replicate rd.length 0
  c01 : ∀ h, h ≤ 4 → ∀ i, at_ (carsL rd h) i = 0 ∨ at_ (carsL rd h) i = 1
  fin : ∀ h, h < 4 → ∀ i : Nat, i < m → ∀ x ∈ [colR gain ((carsL rd h).map (lampF dark bright)) (3 * (i : Int)), colG gain ((carsL rd h).map (lampF dark bright)) (3 * (i : Int)), colB gain ((carsL rd h).map (lampF dark bright)) (3 * (i : Int))], Float64.isFinite (scaled x) = true
  flow : ∀ h, h < 4 → floL gain ((carsL rd h).map (lampF dark bright)) m = ((crossL rd (h + 1)).zip (crossL rd h)).map fun p => top * (p.1 - p.2)
  seen : ∀ h, h < 4 → (List.range rd.length).map (fun (s : Nat) => at_ (carsL rd h) s + (at_ (floL gain ((carsL rd h).map (lampF dark bright)) m) s).fdiv top - (at_ (floL gain ((carsL rd h).map (lampF dark bright)) m) ((s : Int) + 1)).fdiv top) = carsL rd (h + 1)
  led : ∀ h, h < 4 → ledL (wayI (carsL rd h) st rd.length) rd.length = carsL rd (h + 1)
  num : ∀ h, h < 4 → (1057 * (numL (carsL rd h)).sum).natAbs < 16 ^ (rd.length + 4)
  spel : ∀ h, h < 4 → (List.range rd.length).map (spW (1057 * (numL (carsL rd h)).sum).natAbs) = carsL rd (h + 1)
noncomputable def lawFr (env : Env) (A : Around) : Prop := A.frames = some [env]
noncomputable def drawn6 (sc : List Int) : List Int := (sc.take 6).map fun x => x.fmod 1000000
noncomputable def drawnA (sc : List Int) : List Int := drawn6 sc ++ [3, 5, 1, 14, 7, 10]
noncomputable def drawnL (sc : List Int) : List Int := drawnA sc ++ (List.replicate ((-((drawnA sc).length : Int)).fmod 3).toNat [8]).flatten
noncomputable def roadL (sc : List Int) : List Int := (drawnL sc).map fun x => x.fmod 2
noncomputable def stonL (sc : List Int) : List Int := (drawnL sc).map fun x => (x.fdiv 2).fmod 10
noncomputable def totL (sc : List Int) : Int := (drawnL sc).sum
noncomputable def brigL (sc : List Int) : Int := 1 + ((totL sc).fdiv 16).fmod 16
noncomputable def gainL (sc : List Int) : Int := 1 + ((totL sc).fdiv 256).fmod 4
noncomputable def topL (sc : List Int) : Int := 2 ^ 20 * (if gainL sc * brigL sc < 32 then gainL sc * brigL sc else 32)
section
variable {C : Cx} {d : Nat} {env : Env} {ρ : Vars}
theorem sg_pow : ∀ n : Nat, (-1 : Int) ^ n = 1 ∨ (-1 : Int) ^ n = -1
  | 0 => .inl rfl
  | n + 1 => by
    rw [Int.pow_succ]
    rcases sg_pow n with h | h <;> rw [h]
    · exact .inr rfl
    · exact .inl rfl
theorem Reps.take {g : Ghost} {vs : List Value} {ps : List PV} (k : Nat) (r : Reps g vs ps) : Reps g (vs.take k) (ps.take k) :=
  r.ind (P := fun vs ps => ∀ k, Reps g (vs.take k) (ps.take k)) (fun k => by rw [List.take_nil, List.take_nil]; exact .nil) (fun _ _ _ _ h _ ih k => Nat.casesOn k .nil fun k => .cons h (ih k)) k
theorem Ev.takeS {value : Expr} {p pos pc : Pos} {k0} {l : List PV} {k : Nat} (hv : Ev C d env ρ value (.scr l)) (hl : l.length ≤ 1000) (ht : ∀ o r, letTemporaryGo value o r = Pure.pure () := by intro _ _; rfl) :
    Ev C d env ρ (.Subscript value (.Slice Option.none (some (.Constant (.int (k : Nat)) k0 pc)) Option.none p) pos) (.lst (l.take k)) := fun A hA s g X Q E hQ => by
  refine wpAny_Subscript_list_slice (hv A hA s g X _ E fun v g' h' tk G r => ?_) ht
  rw [evalPart_none]
  refine wpAny_pure ?_
  show wpAny _ A (eval (.Constant (.int (k : Nat)) k0 pc) env) _ _ _
  refine wpAny_Constant_int ?_
  obtain ⟨a, o, its, n, rfl, ho, hc, hd, rs⟩ := r.inv
  · refine ⟨a, its.toArray, Option.none, some ((k : Nat) : Int), rfl, ⟨o, G.sub _ _ ho, hc, n, hd⟩, by rw [List.size_toArray, rs.length, sizeLine_eq]; omega, .none, .int _ _, ?_⟩
    rw [slicePick_upto']
    have G1 := G.trans (Grow.hidden G.sub ({ cls := .type "slice", data := .fields #[.none, .int (k : Nat) tk, .none] } : Obj))
    have Gr := Grow.alloc G1.sub (o := { cls := .type "list", data := .seq (its.take k).toArray }) rfl
    exact hQ _ _ _ _ (G1.trans Gr) (.lst _ (its.take k) 0 _ (by
      have := gAdd_self g' ((h'.push { cls := .type "slice", data := .fields #[.none, .int (k : Nat) tk, .none] }).objs.size) (lobj (its.take k) 0)
      rw [Heap.size_push] at this ⊢
      exact this) ((rs.take k).mono Gr.le))
end
noncomputable def lawVars (sc : List Int) (h : Nat) : Vars := [("before", .lst (iL (crossL (roadL sc) h))), ("last", .lst (iL (carsL (roadL sc) h))), ("spelt", .lst (iL (carsL (roadL sc) h))), ("led", .lst (iL (carsL (roadL sc) h))), ("seen", .lst (iL (carsL (roadL sc) h))),
  ("top", .int (topL sc)), ("gain", .int (gainL sc)), ("bright", .int (brigL sc)), ("total", .int (totL sc)), ("size", .int (roadL sc).length), ("stones", .lst (iL (stonL sc))), ("road", .lst (iL (roadL sc)))]
theorem fmod_abs {a : Int} {b : Int} (hb : 0 < b) : 0 ≤ a.fmod b ∧ a.fmod b < b := ⟨Int.fmod_nonneg_of_pos _ hb, Int.fmod_lt_of_pos _ hb⟩
section
variable {C : Cx} {d : Nat} {env : Env} {σ : PSt} {Post : Option PV → PSt → Prop}
theorem ExC.ifF {test body pos ss} (ht : Tr C d env σ.vars test false) (k : ExC C d env σ ss Post) : ExC C d env σ (.If test body [] pos :: ss) Post :=
  ExC.cons (XsC.of (Xs.ifs (Post := fun o σ' => o = Option.none ∧ σ' = σ) ht (Ex.nil ⟨rfl, rfl⟩))) (fun _ h => h.2 ▸ k) fun _ _ h => nomatch h.1
theorem ExC.sub {σ₂ : PSt} {ss} (k : ExC C d env σ₂ ss Post) (hv : ∀ x p, σ₂.vars.lookup x = some p → σ.vars.lookup x = some p) (hg : σ₂.gro = σ.gro) : ExC C d env σ ss Post := fun A hA s hB gB μ g S Q E hn hr =>
  k A hA s hB gB μ g ⟨S.grow, S.glo, S.frm, S.off, fun x p e => S.vars x p (hv x p e), hg ▸ S.gro⟩ Q E hn hr
theorem ExC.canon (ρ₂ : Vars) {ρ : Vars} {gr ss} (k : ExC C d env ⟨ρ₂, gr⟩ ss Post) (h : AllIn ρ ρ₂) : ExC C d env ⟨ρ, gr⟩ ss Post :=
  ExC.sub k (fun y q e => h.mem (y, q) (mem_of_lookup e)) rfl
theorem ExC.assignTup {xs : List Str} {elts : List Expr} {k tpos value pos ss} {ps : List PV} (fe : FEnv env) (hx : ∀ x ∈ xs, Sto env x) (he : Ev C d env σ.vars value (.tup ps)) (hl : xs.length = ps.length)
    (kk : ExC C d env (σ.setAll xs ps) ss Post) (hts : ∃ pp : Str → Pos, (assignEach elts env).map (·.2) = xs.map fun x => PySem.assign (.Name x (pp x)) env) (hg : σ.gro = Option.none := by rfl) (hlen : (assignEach elts env).length = xs.length := by rfl) (hstar : (assignEach elts env).findIdx? (·.1) = Option.none := by rfl)
    (hs : swapsWithSole [.Tuple elts k tpos] value pos.line env = Pure.pure false := by rfl) (hw : swappedStores [.Tuple elts k tpos] value env = Pure.pure Option.none := by rfl) : ExC C d env σ (.Assign [.Tuple elts k tpos] value pos :: ss) Post :=
  ExC.cons (XsC.of (Xs.assignTup fe hx he hl hg hts hlen hstar hs hw)) (fun _ h => h.2 ▸ kk) fun _ _ h => nomatch h.1
theorem ExC.assignSwap {xs : List Str} {elts : List Expr} {k tpos value pos ss} {ps : List PV} (fe : FEnv env) (hx : ∀ x ∈ xs, Sto env x) (he : Ev C d env σ.vars value (.tup ps)) (hl : xs.length = ps.length)
    (hw : swappedStores [.Tuple elts k tpos] value env = Pure.pure (some xs)) (kk : ExC C d env (σ.setAll xs.reverse ps.reverse) ss Post) (hg : σ.gro = Option.none := by rfl)
    (hs : swapsWithSole [.Tuple elts k tpos] value pos.line env = Pure.pure false := by rfl) : ExC C d env σ (.Assign [.Tuple elts k tpos] value pos :: ss) Post :=
  ExC.cons (XsC.of (Xs.assignSwap fe hx he hl hg hs hw)) (fun _ h => h.2 ▸ kk) fun _ _ h => nomatch h.1
end
theorem pairs_lev2 : ∀ l : List (Int × Option Int), ∀ p ∈ pairs (toP l), p.lev2 = true := fun l p hp => by
  unfold pairs toP at hp
  rw [List.map_map] at hp
  obtain ⟨x, _, rfl⟩ := List.mem_map.mp hp
  obtain ⟨a, b⟩ := x
  (first | obtain rfl := Option.some.inj b | cases b) <;> rfl
theorem at_of (l : List Int) (j : Nat) (hj : j < l.length) : at_ l j = l[j] := by
  unfold at_
  rw [Int.fmod_eq_of_lt (by omega) (by omega), Int.toNat_natCast, List.getD_eq_getElem?_getD, List.getElem?_eq_getElem hj]; rfl
noncomputable def mkC (t : Int) : Nat := ([124, 33, 32, 40] : List Nat).getD (t.fmod 4).toNat 0
theorem mkC_facts (t : Int) : mkC t < 256 ∧ mkC t ≠ 41 ∧ (mkC t < 48 ∨ 57 < mkC t) ∧ (Str.ofString "|! (").cps[(t.fmod 4).toNat]? = some (mkC t) := by
  have h := fmod_abs (a := t) (b := 4) (by decide)
  unfold mkC
  have : ∀ k : Fin 4, ([124, 33, 32, 40] : List Nat).getD k.val 0 < 256 ∧ ([124, 33, 32, 40] : List Nat).getD k.val 0 ≠ 41 ∧ (([124, 33, 32, 40] : List Nat).getD k.val 0 < 48 ∨ 57 < ([124, 33, 32, 40] : List Nat).getD k.val 0) ∧ (Str.ofString "|! (").cps[k.val]? = some (([124, 33, 32, 40] : List Nat).getD k.val 0) := by decide +kernel
  exact this ⟨(t.fmod 4).toNat, by omega⟩
theorem law_body {w : World} {d : Nat} {sc : List Int} {m : Nat} {L f : Addr} {cd : Value} (hsc : sc.length ≤ 63) (K : LawOk (roadL sc) (stonL sc) m ((totL sc).fmod 16) (brigL sc) (gainL sc) (topL sc)) :
    ExC (CX w {} (lawFr (fenv (rw_ 17) L f cd))) (d + 1 + 1 + 1 + 1) (fenv (rw_ 17) L f cd) ⟨[("script", .scr (iL sc))], Option.none⟩ (rw_ 17).body (fun o _ => o = some (.bool true)) := by
  have fe : FEnv (fenv (rw_ 17) L f cd) := ⟨(by with_unfolding_all rfl), rfl, rfl⟩
  have h6 : (drawn6 sc).length ≤ 6 := by unfold drawn6; simp; omega
  have hA : (drawnA sc).length ≤ 12 := by unfold drawnA; simp; omega
  have hpad := fmod_abs (a := -((drawnA sc).length : Int)) (b := 3) (by decide)
  have hD : (drawnL sc).length ≤ 15 := by
    unfold drawnL
    rw [List.length_append, List.length_flatten]
    simp
    omega
  have hrl : (roadL sc).length = (drawnL sc).length := by simp [roadL]
  have hsl : (stonL sc).length = (drawnL sc).length := by simp [stonL]
  have hz1 : (iL (drawn6 sc)).length + (iL [3, 5, 1, 14, 7, 10]).length ≤ 1000000 := by simp [iL]; (clear hsc K fe hA hpad hD hrl hsl; omega)
  have hsz63 : (2 : Int) ^ 20 = 1048576 := by decide
  with_unfolding_all refine ExC.assign (p := .lst (iL (drawnA sc))) fe (.inl (by with_unfolding_all rfl)) (Ev.to (Ev.bin (Ev.comp (cel := false) (items := (iL sc).take 6) (qs := iL (drawn6 sc)) fe (CSc.of (by with_unfolding_all rfl) (by decide +kernel) (by with_unfolding_all rfl) (by with_unfolding_all rfl) (by intro _ _; with_unfolding_all rfl) (by intro _; with_unfolding_all rfl)) (Itb.list (Ev.takeS (k := 6) (Ev.nm (by assumption) (by with_unfolding_all rfl) (by with_unfolding_all rfl)) (by simp [iL]; (clear K fe h6 hA hpad hD hrl hsl hz1 hsz63; omega)))) (by simp [iL, drawn6]) (by simp [iL]; (clear K fe h6 hA hpad hD hrl hsl hz1 hsz63; omega)) ?_) (Ev.list (ps := iL [3, 5, 1, 14, 7, 10]) (Evs.cons Ev.int (Evs.cons Ev.int (Evs.cons Ev.int (Evs.cons Ev.int (Evs.cons Ev.int (Evs.cons Ev.int Evs.nil (by with_unfolding_all rfl)) (by with_unfolding_all rfl)) (by with_unfolding_all rfl)) (by with_unfolding_all rfl)) (by with_unfolding_all rfl)) (by with_unfolding_all rfl)) (by rw [sizeLine_eq]; decide)) (op_addL hz1)) (by simp [iL, drawnA])) ?_
  · rw [show (iL sc).take 6 = iL (sc.take 6) from (List.map_take ..).symm]
    refine iL_turn (f := fun x => x.fmod 1000000) fun x _ => ⟨rfl, fun F fe2 => ?_⟩
    with_unfolding_all refine Ev.to (Ev.bin (Ev.nm (by assumption) (by with_unfolding_all rfl) (by with_unfolding_all rfl)) (Ev.bin Ev.int Ev.int (op_pow (by decide) (by decide) (by decide))) (op_mod (by decide))) rfl
  with_unfolding_all refine ExC.assign (p := .lst (iL (drawnL sc))) fe (.inl (by with_unfolding_all rfl)) (Ev.to (Ev.bin (Ev.nm (by assumption) (by with_unfolding_all rfl) (by with_unfolding_all rfl)) (Ev.bin (Ev.list (ps := iL [8]) (Evs.cons Ev.int Evs.nil (by with_unfolding_all rfl)) (by rw [sizeLine_eq]; decide)) (Ev.bin (Ev.un (Ev.callB fe (by with_unfolding_all rfl) bl b_len (Evs.cons (Ev.nm (by assumption) (by with_unfolding_all rfl) (by with_unfolding_all rfl)) Evs.nil (by with_unfolding_all rfl)) (fn_lenI (by (clear hsc K fe h6 hpad hD hrl hsl hz1 hsz63; omega)))) op_neg) Ev.int (op_mod (by decide))) (op_mulL (by (clear hsc K fe h6 hA hD hrl hsl hz1 hsz63; omega)) (by (clear hsc K fe h6 hA hD hrl hsl hz1 hsz63; omega)) (by decide))) (op_addL ?_)) ?_) ?_
  · rw [List.length_flatten]; simp [iL]; (clear hsc K fe h6 hD hrl hsl hz1 hsz63; omega)
  · unfold drawnL iL
    rw [List.map_append, List.map_flatten, List.map_replicate]
  with_unfolding_all refine ExC.assignComp (cel := false) (items := iL (drawnL sc)) (qs := iL (roadL sc)) fe (.inl (by with_unfolding_all rfl)) (CSc.of (by with_unfolding_all rfl) (by decide +kernel) (by with_unfolding_all rfl) (by with_unfolding_all rfl) (by intro _ _; with_unfolding_all rfl) (by intro _; with_unfolding_all rfl)) (Itb.list (Ev.nm (by assumption) (by with_unfolding_all rfl) (by with_unfolding_all rfl))) (by simp [iL, roadL]) (by simp [iL]; (clear hsc K fe h6 hA hpad hz1 hsz63; omega)) ?_ ?_
  · refine iL_turn (f := fun x => x.fmod 2) fun x _ => ⟨rfl, fun F fe2 => ?_⟩
    with_unfolding_all exact Ev.bin (Ev.nm (by assumption) (by with_unfolding_all rfl) (by with_unfolding_all rfl)) Ev.int (op_mod (by decide))
  with_unfolding_all refine ExC.assignComp (cel := false) (items := iL (drawnL sc)) (qs := iL (stonL sc)) fe (.inl (by with_unfolding_all rfl)) (CSc.of (by with_unfolding_all rfl) (by decide +kernel) (by with_unfolding_all rfl) (by with_unfolding_all rfl) (by intro _ _; with_unfolding_all rfl) (by intro _; with_unfolding_all rfl)) (Itb.list (Ev.nm (by assumption) (by with_unfolding_all rfl) (by with_unfolding_all rfl))) (by simp [iL, stonL]) (by simp [iL]; omega) ?_ ?_
  · refine iL_turn (f := fun x => (x.fdiv 2).fmod 10) fun x _ => ⟨rfl, fun F fe2 => ?_⟩
    with_unfolding_all exact Ev.bin (Ev.bin (Ev.nm (by assumption) (by with_unfolding_all rfl) (by with_unfolding_all rfl)) Ev.int (op_fdiv (by decide) (by decide))) Ev.int (op_mod (by decide))
  with_unfolding_all refine ExC.assign (p := .int (roadL sc).length) fe (.inr ⟨by with_unfolding_all rfl, by with_unfolding_all rfl⟩) (Ev.callB fe (by with_unfolding_all rfl) bl b_len (Evs.cons (Ev.nm (by assumption) (by with_unfolding_all rfl) (by with_unfolding_all rfl)) Evs.nil (by with_unfolding_all rfl)) (fn_lenI (by (clear hsc K fe h6 hA hpad hz1 hsz63; omega)))) ?_
  with_unfolding_all refine ExC.assign (p := .int (totL sc)) fe (.inl (by with_unfolding_all rfl)) (Ev.callB fe (by with_unfolding_all rfl) bl b_sum (Evs.cons (Ev.nm (by assumption) (by with_unfolding_all rfl) (by with_unfolding_all rfl)) Evs.nil (by with_unfolding_all rfl)) fn_sumL) ?_
  with_unfolding_all refine ExC.assign (p := .int (brigL sc)) fe (.inl (by with_unfolding_all rfl)) (Ev.bin Ev.int (Ev.bin (Ev.bin (Ev.nm (by assumption) (by with_unfolding_all rfl) (by with_unfolding_all rfl)) Ev.int (op_fdiv (by decide) (by decide))) Ev.int (op_mod (by decide))) op_add) ?_
  with_unfolding_all refine ExC.assign (p := .int (gainL sc)) fe (.inl (by with_unfolding_all rfl)) (Ev.bin Ev.int (Ev.bin (Ev.bin (Ev.nm (by assumption) (by with_unfolding_all rfl) (by with_unfolding_all rfl)) Ev.int (op_fdiv (by decide) (by decide))) Ev.int (op_mod (by decide))) op_add) ?_
  with_unfolding_all refine ExC.assign (p := .int (topL sc)) fe (.inr ⟨by with_unfolding_all rfl, by with_unfolding_all rfl⟩) (Ev.bin (Ev.bin Ev.int Ev.int (op_pow (by decide) (by decide) (by decide))) (Ev.callB fe (by with_unfolding_all rfl) bl b_min (Evs.cons Ev.int (Evs.cons (Ev.bin (Ev.nm (by assumption) (by with_unfolding_all rfl) (by with_unfolding_all rfl)) (Ev.nm (by assumption) (by with_unfolding_all rfl) (by with_unfolding_all rfl)) (op_mul (.inl (by have := K.g0; have := K.g1; (clear hsc K fe h6 hA hpad hD hrl hsl hz1 hsz63; omega))))) Evs.nil (by with_unfolding_all rfl)) (by with_unfolding_all rfl)) fn_min2) (op_mul (.inl (by decide)))) ?_
  with_unfolding_all refine ExC.assignTup (xs := ["seen", "led", "spelt", "last"]) (ps := [.lst (iL (roadL sc)), .lst (iL (roadL sc)), .lst (iL (roadL sc)), .lst (iL (roadL sc))]) fe ?_ (Ev.tuple (Evs.cons (Ev.nm (by assumption) (by with_unfolding_all rfl) (by with_unfolding_all rfl)) (Evs.cons (Ev.nm (by assumption) (by with_unfolding_all rfl) (by with_unfolding_all rfl)) (Evs.cons (Ev.nm (by assumption) (by with_unfolding_all rfl) (by with_unfolding_all rfl)) (Evs.cons (Ev.nm (by assumption) (by with_unfolding_all rfl) (by with_unfolding_all rfl)) Evs.nil (by with_unfolding_all rfl)) (by with_unfolding_all rfl)) (by with_unfolding_all rfl)) (by with_unfolding_all rfl)) (by rw [sizeLine_eq]; show 4 ≤ _; decide)) rfl ?_ ⟨fun x => if x = "seen" then ⟨119, 4, 119, 8⟩ else if x = "led" then ⟨119, 10, 119, 13⟩ else if x = "spelt" then ⟨119, 15, 119, 20⟩ else ⟨119, 22, 119, 26⟩, (by with_unfolding_all rfl)⟩
  · intro x hx
    simp only [List.mem_cons, List.not_mem_nil, or_false] at hx
    rcases hx with rfl | rfl | rfl | rfl
    · with_unfolding_all exact (.inr ⟨by with_unfolding_all rfl, by with_unfolding_all rfl⟩)
    · with_unfolding_all exact (.inl (by with_unfolding_all rfl))
    · with_unfolding_all exact (.inl (by with_unfolding_all rfl))
    · with_unfolding_all exact (.inl (by with_unfolding_all rfl))
  with_unfolding_all refine ExC.assign (p := .lst (iL (crossL (roadL sc) 0))) fe (.inl (by with_unfolding_all rfl)) (Ev.to (Ev.bin (Ev.list (ps := [.int 0]) (Evs.cons Ev.int Evs.nil (by with_unfolding_all rfl)) (by rw [sizeLine_eq]; decide)) (Ev.nm (by assumption) (by with_unfolding_all rfl) (by with_unfolding_all rfl)) (op_mulL (by (clear hsc K fe h6 hA hpad hz1 hsz63; omega)) (by (clear hsc K fe h6 hA hpad hz1 hsz63; omega)) (by decide))) ?_) ?_
  · rw [K.x0]
    simp [iL]
  with_unfolding_all refine ExC.canon (lawVars sc 0) ?_ (by rw [lawVars, K.c0]; with_unfolding_all exact ⟨rfl, rfl, rfl, rfl, rfl, rfl, rfl, rfl, rfl, rfl, rfl, rfl, trivial⟩)
  with_unfolding_all refine ExC.for (items := rng 1 4 1) fe (.inl (by with_unfolding_all rfl)) (Itb.range2 fe (by with_unfolding_all rfl) bl b_range Ev.int Ev.int (small1 (by decide) (by decide)) (rangeSize1 _ _ _ (by decide))) (fun i σ' => σ' = ⟨lawVars sc i, Option.none⟩) rfl (fun i σ' hi y hy => by subst hi; (first | obtain rfl := Option.some.inj hy | cases hy)) ?_ ?_
  · rintro i σ' p rfl hp
    have hi : i < 4 := by
      have := (List.getElem?_eq_some_iff.mp hp).1
      rwa [rng_length] at this
    rw [rng_get hi] at hp
    (first | obtain rfl := Option.some.inj hp | cases hp)
    have ei : (1 : Int) + (i : Int) * 1 = ((i + 1 : Nat) : Int) := by (clear hsc K fe h6 hA hpad hD hrl hsl hz1 hsz63 hi hp; omega)
    rw [ei]
    have lenC : ∀ h, (carsL (roadL sc) h).length = (roadL sc).length := fun h => by simp [carsL]
    have lenX : ∀ h, (crossL (roadL sc) h).length = (roadL sc).length := fun h => by simp [crossL]
    have hpos : 0 < (roadL sc).length := by have := K.len; have := K.m1; (clear hsc K fe h6 hA hpad hz1 hsz63 hi hp ei lenC lenX; omega)
    have hle : (roadL sc).length ≤ 100 := by (clear hsc K fe h6 hA hpad hz1 hsz63 hi hp ei lenC lenX; omega)
    have hfl := K.flow i hi
    with_unfolding_all refine ExC.assignTup (xs := ["cars", "crossed"]) (ps := [.lst (iL (carsL (roadL sc) (i + 1))), .lst (iL (crossL (roadL sc) (i + 1)))]) fe ?_ (Ev.callF (r := rw_ 11) fe (by with_unfolding_all rfl) m_11 (Evs.cons (Ev.nm (by assumption) (by with_unfolding_all rfl) (by with_unfolding_all rfl)) (Evs.cons (Ev.nm (by assumption) (by with_unfolding_all rfl) (by with_unfolding_all rfl)) Evs.nil (by with_unfolding_all rfl)) (by with_unfolding_all rfl)) (CallOk.re (rule_ok hpos hle (by (clear hsc K fe h6 hA hpad hD hrl hsl hz1 hsz63 hp ei lenC lenX hpos hle hfl; omega)) (by (clear hsc K fe h6 hA hpad hD hrl hsl hz1 hsz63 hp ei lenC lenX hpos hle hfl; omega))) _ _)) rfl ?_ ⟨fun x => if x = "cars" then ⟨122, 8, 122, 12⟩ else ⟨122, 14, 122, 21⟩, (by with_unfolding_all rfl)⟩
    · intro x hx
      simp only [List.mem_cons, List.not_mem_nil, or_false] at hx
      rcases hx with rfl | rfl
      · with_unfolding_all exact (.inl (by with_unfolding_all rfl))
      · with_unfolding_all exact (.inl (by with_unfolding_all rfl))
    with_unfolding_all refine ExC.assign (p := .lst (iL (floL (gainL sc) ((carsL (roadL sc) i).map (lampF ((totL sc).fmod 16) (brigL sc))) m))) fe (.inr ⟨by with_unfolding_all rfl, by with_unfolding_all rfl⟩) (Ev.callF (r := rw_ 12) fe (by with_unfolding_all rfl) m_12 (Evs.cons (Ev.nm (by assumption) (by with_unfolding_all rfl) (by with_unfolding_all rfl)) (Evs.cons (Ev.bin (Ev.nm (by assumption) (by with_unfolding_all rfl) (by with_unfolding_all rfl)) Ev.int (op_mod (by decide))) (Evs.cons (Ev.nm (by assumption) (by with_unfolding_all rfl) (by with_unfolding_all rfl)) (Evs.cons (Ev.nm (by assumption) (by with_unfolding_all rfl) (by with_unfolding_all rfl)) Evs.nil (by with_unfolding_all rfl)) (by with_unfolding_all rfl)) (by with_unfolding_all rfl)) (by with_unfolding_all rfl)) (CallOk.re (seen_ok (by rw [lenC]; exact K.len) K.m1 (by have := K.m2; (clear hsc K fe h6 hA hpad hD hrl hsl hz1 hsz63 hi hp ei lenC lenX hpos hle hfl; omega)) (by have := K.d0; have := K.d1; (clear hsc K fe h6 hA hpad hD hrl hsl hz1 hsz63 hi hp ei lenC lenX hpos hle hfl; omega)) (by have := K.b0; have := K.b1; (clear hsc K fe h6 hA hpad hD hrl hsl hz1 hsz63 hi hp ei lenC lenX hpos hle hfl; omega)) (by have := K.g0; have := K.g1; (clear hsc K fe h6 hA hpad hD hrl hsl hz1 hsz63 hi hp ei lenC lenX hpos hle hfl; omega)) ?_ (K.fin i hi)) _ _)) ?_
    · intro c hc
      obtain ⟨j, hj, rfl⟩ := List.getElem_of_mem hc
      have := at_of (carsL (roadL sc) i) j hj
      rcases K.c01 i (by (clear hsc K fe h6 hA hpad hD hrl hsl hz1 hsz63 hp ei lenC lenX hpos hle hfl hc this; omega)) j with q | q <;> rw [this] at q <;> rw [q] <;> decide
    with_unfolding_all refine ExC.ifF (Tr.cmp (Ev.nm (by assumption) (by with_unfolding_all rfl) (by with_unfolding_all rfl)) (Ev.to (Ev.compP true (items := (iL (crossL (roadL sc) (i + 1))).zip (iL (crossL (roadL sc) i))) (qs := iL (((crossL (roadL sc) (i + 1)).zip (crossL (roadL sc) i)).map fun p => topL sc * (p.1 - p.2))) fe (CSc.of (by with_unfolding_all rfl) (by decide +kernel) (by with_unfolding_all rfl) (by with_unfolding_all rfl) (by intro _ _; with_unfolding_all rfl) (by intro _; with_unfolding_all rfl)) (by with_unfolding_all rfl) (by decide) (Itp.zip (tup := false) fe (by with_unfolding_all rfl) bl b_zip (Ev.nm (by assumption) (by with_unfolding_all rfl) (by with_unfolding_all rfl)) (Ev.nm (by assumption) (by with_unfolding_all rfl) (by with_unfolding_all rfl)) (by simp [iL, lenX])) (by simp [iL, lenX]) (by simp [iL, lenX]; (clear hsc K fe h6 hA hpad hz1 hsz63 hi hp ei lenC lenX hle hfl; omega)) ?_) (by rw [← hfl]; rfl)) (op_neSame (iL_lev2 _))) ?_
    · intro j p p' q hp hq
      obtain ⟨x, y, e1, e2, e3⟩ : ∃ x y, p = .int x ∧ p' = .int y ∧ q = .int (topL sc * (x - y)) := by
        rw [iL, iL, List.zip_map, List.getElem?_map] at hp
        rw [iL, List.getElem?_map, List.getElem?_map] at hq
        cases h : ((crossL (roadL sc) (i + 1)).zip (crossL (roadL sc) i))[j]? with
        | none => rw [h] at hp; (first | obtain rfl := Option.some.inj hp | cases hp)
        | some z => rw [h] at hp hq; (first | obtain rfl := Option.some.inj hp | cases hp); (first | obtain rfl := Option.some.inj hq | cases hq); exact ⟨_, _, rfl, rfl, rfl⟩
      subst e1 e2 e3
      refine ⟨rfl, fun F fe2 => ?_⟩
      show _ ∧ _
      refine ⟨rfl, ?_⟩
      with_unfolding_all exact Ev.bin (Ev.nm (by assumption) (by with_unfolding_all rfl) (by with_unfolding_all rfl)) (Ev.bin (Ev.nm (by assumption) (by with_unfolding_all rfl) (by with_unfolding_all rfl)) (Ev.nm (by assumption) (by with_unfolding_all rfl) (by with_unfolding_all rfl)) op_sub) (op_mul (.inl (by have := K.t0; have := K.t1; (clear hsc K fe h6 hA hpad hD hrl hsl hz1 hsz63 hi ei lenC lenX hpos hle hfl hp hq fe2; omega))))
    obtain ⟨mk1, mk2, mk3, mk4⟩ := mkC_facts (totL sc)
    with_unfolding_all refine ExC.cons (XsC.assignE (p := .lst (pairs (wayL (carsL (roadL sc) i) (stonL sc) (roadL sc).length))) fe (.inl (by with_unfolding_all rfl)) (EvC.callT (r := rw_ 13) fe (by with_unfolding_all rfl) m_13 (Evs.cons (Ev.nm (by assumption) (by with_unfolding_all rfl) (by with_unfolding_all rfl)) (Evs.cons (Ev.nm (by assumption) (by with_unfolding_all rfl) (by with_unfolding_all rfl)) (Evs.cons (Ev.itemS Ev.str (Ev.bin (Ev.nm (by assumption) (by with_unfolding_all rfl) (by with_unfolding_all rfl)) Ev.int (op_mod (by decide))) (fmod_abs (by decide)).1 mk4 (by have := (fmod_abs (a := totL sc) (b := 4) (by decide)).2; (clear hsc K fe h6 hA hpad hD hrl hsl hz1 hsz63 hi hp ei lenC lenX hpos hle hfl mk1 mk2 mk3 mk4; omega))) Evs.nil (by with_unfolding_all rfl)) (by with_unfolding_all rfl)) (by with_unfolding_all rfl)) (CallT.of (ns := ["road", "stones", "mark"]) ?_ (by decide +kernel) rfl (by decide +kernel) (by decide +kernel) (by decide +kernel) (by decide +kernel) (by decide +kernel) (fun A h => h) fun L' f' cd' oX => ?_)) (fun _ h => nomatch h) (by with_unfolding_all rfl)) (fun _ h => h.2 ▸ ?_) fun _ _ h => nomatch h.1
    · intro vs hv pm cd doc
      obtain ⟨a, b, c, rfl⟩ := ofLen3 hv
      with_unfolding_all rfl
    · have hb := told_body (w := w) (d := d + 1 + 1) (rd := carsL (roadL sc) i) (st := stonL sc) (c := mkC (totL sc)) (L := L') (f := f') (cd := cd') (Ll := L) (envl := fenv (rw_ 17) L f cd) (oX := oX) (by rw [lenC]; exact hpos) (by rw [lenC]; exact hle) (by rw [lenC]; exact K.stl) (K.c01 i (by (clear hsc K fe h6 hA hpad hD hrl hsl hz1 hsz63 hp ei lenC lenX hpos hle hfl mk1 mk2 mk3 mk4; omega))) K.st0 K.st9 mk1 mk2 mk3 (show (rw_ 17).scope.kind ≠ .module by decide +kernel) rfl
      rw [lenC] at hb
      exact hb
    have hways := ways_ok (w := w) (d := d + 1 + 1 + 1) (rd := carsL (roadL sc) i) (st := stonL sc) (by rw [lenC]; exact hpos) (by rw [lenC]; exact hle) (by rw [lenC]; exact K.stl) (K.c01 i (by (clear hsc K fe h6 hA hpad hD hrl hsl hz1 hsz63 hp ei lenC lenX hpos hle hfl mk1 mk2 mk3 mk4 h; omega)))
    rw [lenC] at hways
    have hweq := wayL_eq (carsL (roadL sc) i) (stonL sc) (roadL sc).length
    have hwlen : (wayI (carsL (roadL sc) i) (stonL sc) (roadL sc).length).length ≤ 100 := by
      have := wayL_len (carsL (roadL sc) i) (stonL sc) (roadL sc).length
      rw [hweq] at this
      simp only [toP, List.length_map] at this
      (clear hsc K fe h6 hA hpad hz1 hsz63 hi hp ei lenC lenX hle hfl mk1 mk2 mk3 mk4 h hways hweq; omega)
    rw [hweq] at hways ⊢
    with_unfolding_all refine ExC.ifF (Tr.or2 (Tr.cmp (Ev.nm (by assumption) (by with_unfolding_all rfl) (by with_unfolding_all rfl)) (Ev.callF (r := rw_ 14) fe (by with_unfolding_all rfl) m_14 (Evs.cons (Ev.nm (by assumption) (by with_unfolding_all rfl) (by with_unfolding_all rfl)) (Evs.cons (Ev.nm (by assumption) (by with_unfolding_all rfl) (by with_unfolding_all rfl)) Evs.nil (by with_unfolding_all rfl)) (by with_unfolding_all rfl)) (CallOk.re hways _ _)) (op_neSame (pairs_lev2 _))) (Tr.cmp (Ev.compP false (items := toP (wayI (carsL (roadL sc) i) (stonL sc) (roadL sc).length)) (qs := (toP (wayI (carsL (roadL sc) i) (stonL sc) (roadL sc).length)).map (·.2)) fe (CSc.of (by with_unfolding_all rfl) (by decide +kernel) (by with_unfolding_all rfl) (by with_unfolding_all rfl) (by intro _ _; with_unfolding_all rfl) (by intro _; with_unfolding_all rfl)) (by with_unfolding_all rfl) (by decide) (Itp.list (Ev.nm (by assumption) (by with_unfolding_all rfl) (by with_unfolding_all rfl))) (by simp) (by simp [toP]; (clear hsc K fe h6 hA hpad hD hrl hsl hz1 hsz63 hi hp ei lenC lenX hpos hle hfl mk1 mk2 mk3 mk4 h hways hweq; omega)) ?_) (Ev.list Evs.nil (by rw [sizeLine_eq]; decide)) (op_neSame (ps := []) (fun _ h => nomatch h)))) ?_
    · intro j p p' q hp hq
      obtain ⟨x, hx, e1, e2⟩ : ∃ x, (wayI (carsL (roadL sc) i) (stonL sc) (roadL sc).length)[j]? = some x ∧ p = .int x.1 ∧ p' = ovl x.2 := by
        rw [toP, List.getElem?_map] at hp
        cases h : (wayI (carsL (roadL sc) i) (stonL sc) (roadL sc).length)[j]? with
        | none => rw [h] at hp; (first | obtain rfl := Option.some.inj hp | cases hp)
        | some x => rw [h] at hp; (first | obtain rfl := Option.some.inj hp | cases hp); exact ⟨x, rfl, rfl, rfl⟩
      subst e1 e2
      have hq' : q = ovl x.2 := by
        rw [List.getElem?_map, toP, List.getElem?_map, hx] at hq
        (first | obtain rfl := Option.some.inj hq | cases hq); rfl
      subst hq'
      obtain ⟨x1, x2⟩ := x
      refine ⟨by (first | obtain rfl := Option.some.inj x2 | cases x2) <;> rfl, fun F fe2 => ?_⟩
      show ∃ c, _ ∧ _
      refine ⟨_, rfl, ?_⟩
      cases x2 with
      | none => with_unfolding_all exact Tr.andF (Tr.cmp (Ev.nm (p := .none) (by assumption) rfl rfl) Ev.none op_isNotNone)
      | some v => with_unfolding_all exact Tr.and2 (Tr.cmp (Ev.nm (p := .int v) (by assumption) rfl rfl) Ev.none op_isNotNoneI) (Tr.cmp (Ev.callT fe2 (by with_unfolding_all rfl) bl b_type (Evs.cons (Ev.nm (p := .int v) (by assumption) rfl rfl) Evs.nil (by with_unfolding_all rfl)) fn_typeI) (Ev.typ fe2 (by with_unfolding_all rfl) bl b_int) op_isNotT)
    have hsg : ((-1 : Int) ^ ((i + 1 : Nat) : Int).toNat = 1 ∨ (-1 : Int) ^ ((i + 1 : Nat) : Int).toNat = -1) := by
      rw [Int.toNat_natCast]
      exact sg_pow (i + 1)
    have hsp := spelt_ok (w := w) (d := d + 1 + 1) (rd := carsL (roadL sc) i) (by rw [lenC]; exact hpos) (by rw [lenC]; exact hle) hsg (fun k => by rcases K.c01 i (by (clear hsc K fe h6 hA hpad hD hrl hsl hz1 hsz63 hp ei lenC lenX hpos hle hfl mk1 mk2 mk3 mk4 h hways hweq hwlen hsg; omega)) k with q | q <;> rw [q] <;> decide) (by rw [lenC]; exact K.num i hi)
    rw [lenC, K.spel i hi] at hsp
    with_unfolding_all refine ExC.assign (p := .lst (iL (carsL (roadL sc) (i + 1)))) fe (.inl (by with_unfolding_all rfl)) (Ev.callF (r := rw_ 16) fe (by with_unfolding_all rfl) m_16 (Evs.cons (Ev.nm (by assumption) (by with_unfolding_all rfl) (by with_unfolding_all rfl)) (Evs.cons (Ev.bin (Ev.un Ev.int op_neg) (Ev.nm (by assumption) (by with_unfolding_all rfl) (by with_unfolding_all rfl)) (op_pow (by (clear hsc K fe h6 hA hpad hD hrl hsl hz1 hsz63 hp ei lenC lenX hpos hle hfl mk1 mk2 mk3 mk4 h hways hweq hwlen hsg hsp; omega)) (by (clear hsc K fe h6 hA hpad hD hrl hsl hz1 hsz63 hp ei lenC lenX hpos hle hfl mk1 mk2 mk3 mk4 h hways hweq hwlen hsg hsp; omega)) (by decide))) Evs.nil (by with_unfolding_all rfl)) (by with_unfolding_all rfl)) (CallOk.re hsp _ _)) ?_
    with_unfolding_all refine ExC.ifF (Tr.cmp (Ev.nm (by assumption) (by with_unfolding_all rfl) (by with_unfolding_all rfl)) (Ev.nm (by assumption) (by with_unfolding_all rfl) (by with_unfolding_all rfl)) (op_neSame (iL_lev2 _))) ?_
    have lenF : (floL (gainL sc) ((carsL (roadL sc) i).map (lampF ((totL sc).fmod 16) (brigL sc))) m).length = (roadL sc).length := by
      rw [hfl]; simp [lenX]
    have htn : topL sc ≠ 0 := by have := K.t0; (clear hsc K fe h6 hA hpad hD hrl hsl hz1 hsz63 hi hp ei lenC lenX hpos hle hfl mk1 mk2 mk3 mk4 h hways hweq hwlen hsg hsp lenF; omega)
    have htb : (topL sc).natAbs < 1073741824 := by have := K.t0; have := K.t1; (clear hsc K fe h6 hA hpad hD hrl hsl hz1 hsz63 hi hp ei lenC lenX hpos hle hfl mk1 mk2 mk3 mk4 h hways hweq hwlen hsg hsp lenF htn; omega)
    with_unfolding_all refine ExC.assign (p := .lst (iL (carsL (roadL sc) (i + 1)))) fe (.inr ⟨by with_unfolding_all rfl, by with_unfolding_all rfl⟩) (Ev.comp (cel := false) (items := rng 0 (roadL sc).length 1) (qs := iL (carsL (roadL sc) (i + 1))) fe (CSc.of (by with_unfolding_all rfl) (by decide +kernel) (by with_unfolding_all rfl) (by with_unfolding_all rfl) (by intro _ _; with_unfolding_all rfl) (by intro _; with_unfolding_all rfl)) (Itb.range1 fe (by with_unfolding_all rfl) bl b_range (Ev.nm (by assumption) (by with_unfolding_all rfl) (by with_unfolding_all rfl)) (by first | exact small0 (Nat.le_trans hn2 (by decide)) | exact small0 (by (clear hsc K fe h6 hA hpad hz1 hsz63 hi hp ei lenC lenX hle hfl mk1 mk2 mk3 mk4 h hways hweq hwlen hsg hsp htn htb; omega)) | exact small1 (by omega) (by omega)) (by first | exact rangeSize0 _ | exact rangeSize1 _ _ _ (by omega))) (by simp [rng_length, iL, lenC]) (by rw [rng_length]; (clear hsc K fe h6 hA hpad hz1 hsz63 hi hp ei lenC lenX hle hfl mk1 mk2 mk3 mk4 h hways hweq hwlen hsg hsp htn htb; omega)) ?_) ?_
    · intro k p q hp hq
      have hk : k < (roadL sc).length := by
        have := (List.getElem?_eq_some_iff.mp hp).1
        rwa [rng_length] at this
      rw [rng_get hk] at hp
      (first | obtain rfl := Option.some.inj hp | cases hp)
      have ek : (0 : Int) + (k : Int) * 1 = k := by (clear hsc K fe h6 hA hpad hD hrl hsl hz1 hsz63 hi ei lenC lenX hpos hle hfl mk1 mk2 mk3 mk4 h hways hweq hwlen hsg hsp lenF htn htb hq hk hp; omega)
      rw [ek]
      have eq : q = .int (at_ (carsL (roadL sc) i) k + (at_ (floL (gainL sc) ((carsL (roadL sc) i).map (lampF ((totL sc).fmod 16) (brigL sc))) m) k).fdiv (topL sc) - (at_ (floL (gainL sc) ((carsL (roadL sc) i).map (lampF ((totL sc).fmod 16) (brigL sc))) m) ((k : Int) + 1)).fdiv (topL sc)) := by
        rw [← K.seen i hi, iL, List.getElem?_map, List.getElem?_map, List.getElem?_range hk] at hq
        (first | obtain rfl := Option.some.inj hq | cases hq); rfl
      subst eq
      refine ⟨rfl, fun F fe2 => ?_⟩
      have ef : (k : Int) = (k : Int).fmod (roadL sc).length := (Int.fmod_eq_of_lt (by (clear hsc K fe h6 hA hpad hD hrl hsl hz1 hsz63 hi ei lenC lenX hpos hle hfl mk1 mk2 mk3 mk4 h hways hweq hwlen hsg hsp lenF htn htb hk hp ek hq fe2; omega)) (by (clear hsc K fe h6 hA hpad hD hz1 hsz63 hi ei lenC lenX hpos hle hfl mk1 mk2 mk3 mk4 h hways hweq hwlen hsg hsp htn htb hp ek hq fe2; omega))).symm
      with_unfolding_all exact Ev.bin (Ev.bin (at_get' (rd := carsL (roadL sc) i) (i := (k : Int)) (by rw [lenC]; exact hpos) (Ev.nm (by assumption) (by with_unfolding_all rfl) (by with_unfolding_all rfl)) (Ev.nm (by assumption) (by with_unfolding_all rfl) (by with_unfolding_all rfl)) (by rw [lenC]; exact ef) (by rw [lenC]; (clear hsc K fe h6 hA hpad hz1 hsz63 hi ei lenC lenX hle hfl mk1 mk2 mk3 mk4 h hways hweq hwlen hsg hsp htn htb hk hp ek hq fe2 ef; omega))) (Ev.bin (at_get' (rd := floL (gainL sc) ((carsL (roadL sc) i).map (lampF ((totL sc).fmod 16) (brigL sc))) m) (i := (k : Int)) (by rw [lenF]; exact hpos) (Ev.nm (by assumption) (by with_unfolding_all rfl) (by with_unfolding_all rfl)) (Ev.nm (by assumption) (by with_unfolding_all rfl) (by with_unfolding_all rfl)) (by rw [lenF]; exact ef) (by rw [lenF]; (clear hsc K fe h6 hA hpad hz1 hsz63 hi ei lenC lenX hle hfl mk1 mk2 mk3 mk4 h hways hweq hwlen hsg hsp htn htb hk hp ek hq fe2 ef; omega))) (Ev.nm (by assumption) (by with_unfolding_all rfl) (by with_unfolding_all rfl)) (op_fdiv htn htb)) op_add) (Ev.bin (at_get' (rd := floL (gainL sc) ((carsL (roadL sc) i).map (lampF ((totL sc).fmod 16) (brigL sc))) m) (i := (k : Int) + 1) (by rw [lenF]; exact hpos) (Ev.nm (by assumption) (by with_unfolding_all rfl) (by with_unfolding_all rfl)) (Ev.bin (Ev.bin (Ev.nm (by assumption) (by with_unfolding_all rfl) (by with_unfolding_all rfl)) Ev.int op_add) (Ev.nm (by assumption) (by with_unfolding_all rfl) (by with_unfolding_all rfl)) (op_mod (by (clear hsc K fe h6 hA hpad hz1 hsz63 hi ei lenC lenX hle hfl mk1 mk2 mk3 mk4 h hways hweq hwlen hsg hsp htn htb hk hp ek hq fe2 ef; omega)))) (by rw [lenF]) (by rw [lenF]; (clear hsc K fe h6 hA hpad hz1 hsz63 hi ei lenC lenX hle hfl mk1 mk2 mk3 mk4 h hways hweq hwlen hsg hsp htn htb hk hp ek hq fe2 ef; omega))) (Ev.nm (by assumption) (by with_unfolding_all rfl) (by with_unfolding_all rfl)) (op_fdiv htn htb)) op_sub
    have hled := led_ok (w := w) (d := d + 1 + 1 + 1) (l := wayI (carsL (roadL sc) i) (stonL sc) (roadL sc).length) (n := (roadL sc).length) hpos hle (by (clear hsc K fe h6 hA hpad hD hrl hsl hz1 hsz63 hi hp ei lenC lenX hpos hle hfl mk1 mk2 mk3 mk4 h hways hweq hsg hsp lenF htn htb; omega))
    rw [K.led i hi] at hled
    with_unfolding_all refine ExC.assign (p := .lst (iL (carsL (roadL sc) (i + 1)))) fe (.inl (by with_unfolding_all rfl)) (Ev.callF (r := rw_ 15) fe (by with_unfolding_all rfl) m_15 (Evs.cons (Ev.nm (by assumption) (by with_unfolding_all rfl) (by with_unfolding_all rfl)) (Evs.cons (Ev.nm (by assumption) (by with_unfolding_all rfl) (by with_unfolding_all rfl)) Evs.nil (by with_unfolding_all rfl)) (by with_unfolding_all rfl)) (CallOk.re hled _ _)) ?_
    with_unfolding_all refine ExC.assignSwap (xs := ["last", "before"]) (ps := [.lst (iL (carsL (roadL sc) (i + 1))), .lst (iL (crossL (roadL sc) (i + 1)))]) fe ?_ (Ev.tuple (Evs.cons (Ev.nm (by assumption) (by with_unfolding_all rfl) (by with_unfolding_all rfl)) (Evs.cons (Ev.nm (by assumption) (by with_unfolding_all rfl) (by with_unfolding_all rfl)) Evs.nil (by with_unfolding_all rfl)) (by with_unfolding_all rfl)) (by rw [sizeLine_eq]; show 2 ≤ _; decide)) rfl (by with_unfolding_all rfl) ?_
    · intro x hx
      simp only [List.mem_cons, List.not_mem_nil, or_false] at hx
      rcases hx with rfl | rfl
      · with_unfolding_all exact (.inl (by with_unfolding_all rfl))
      · with_unfolding_all exact (.inl (by with_unfolding_all rfl))
    with_unfolding_all refine ExC.canon (lawVars sc (i + 1)) (ExC.of (Ex.nil ⟨rfl, rfl⟩)) ⟨rfl, rfl, rfl, rfl, rfl, rfl, rfl, rfl, rfl, rfl, rfl, rfl, trivial⟩
  · rintro σ' rfl
    with_unfolding_all refine ExC.of (Ex.ret Ev.bool rfl)
end Mine
end
section
open PySem PySem.Calls PyProof.Rows
set_option maxRecDepth 100000
namespace Mine
theorem CallU.of {w : World} {d : Nat} {r : DefRow} {ps : List PV} {q : PV} {ns : List Str}
    (hb : ∀ vs : List Value, vs.length = ps.length → ∀ pm cd doc, bindArgs (docDef r.name r.params r.body r.scope pm cd doc) ⟨vs, []⟩ = Pure.pure (ns.zip vs))
    (hn : ns.Nodup) (hl : ns.length = ps.length) (hk : (ns.all fun x => r.scope.names.lookup x == some .local || r.scope.names.lookup x == some .cell) = true)
    (hnd : ((cellsFrom 0 r.scope.names []).map (·.1)).Nodup)
    (hco : r.scope.isCoroutine = false) (hgen : r.scope.isGenerator = false) (hkf : r.scope.kind = .function)
    (body : ∀ L f cd, ExC (CX w {} (lawFr (fenv r L f cd))) d (fenv r L f cd) ⟨ns.zip ps, Option.none⟩ r.body (fun o _ => o = some q)) :
    ∀ A, AOk (CC w) (d + 1) A → A.frames = some [] → ∀ (s : Shared) (g : Ghost), GSub g s.heap → Glo (CC w).blt (CC w).defs s.heap → ∀ f o pm cd doc, s.heap.get? f = some o → o.data = .func (docDef r.name r.params r.body r.scope pm cd doc) → s.heap.CodeRec cd r.name →
    ∀ vs, Reps g vs ps → ∀ (Q : Value → Shared → Prop) (E : Value → Shared → Prop), (∀ v g' h' tk, Grow g s.heap g' h' → Rep g' v q → Q v { s with heap := h', toks := tk }) → wpC (CC w).M A (call (.ref f) vs) Q E s := fun A hA hfs s g hs hg f o pm cd doc ho hd hcd vs rs Q E hQ => by
  have hlen : vs.length = ns.length := rs.length.trans hl.symm
  obtain ⟨mg, mb, _, _, hlim, _, _⟩ := hg.ex
  refine Mine.C.call (K.call_cells (binds := ns.zip vs) (by have := hA.depth; omega) ho hd hlim hcd (hb vs rs.length pm cd doc) (PySem.W.kindsX (enter_kinds hlen hk) _) (fun h₁ tk F X => ?_) hco hgen hkf)
  have S := enter_SA (C := CX w {} (lawFr (fenv r s.heap.objs.size f cd))) (f := f) (cd := cd) rfl hs hg rs hlen hn hk hnd F X
  have hA' : AOk (CX w {} (lawFr (fenv r s.heap.objs.size f cd))) d (A.deeper (fenv r s.heap.objs.size f cd)) := ⟨hA.handled, by show A.depth + 1 + d < _; have := hA.depth; omega, by show A.units + 3 + 8 * d + 8 < _; have := hA.units; omega, Around.frames_deeper hfs⟩
  refine body s.heap.objs.size f cd _ hA' _ s.heap g Option.none g S _ _ (fun σ' μ' g' h' tk' hp => nomatch hp) fun p σ' v g' h' tk' hp G r => ?_
  (first | obtain rfl := Option.some.inj hp | cases hp)
  exact hQ v g' h' tk' G.grow r

theorem Reps.ofI (g : Ghost) {vs : List Value} {ns : List Int} (h : IntsAre vs ns) : Reps g vs (Mine.iL ns) :=
  IntsAre.rec (motive := fun vs ns _ => Reps g vs (Mine.iL ns)) .nil (fun n t _ _ _ ih => .cons (.int n t) ih) h
theorem law_call {w : World} {sc : List Int} {m : Nat} (hsc : sc.length ≤ 63) (K : LawOk (roadL sc) (stonL sc) m ((totL sc).fmod 16) (brigL sc) (gainL sc) (topL sc))
    {s : Shared} (hg : Glo (CC w).blt (CC w).defs s.heap) {f : Addr} {o : Obj} {pm cd doc : Value} (ho : s.heap.get? f = some o) (hd : o.data = .func (docDef (rw_ 17).name (rw_ 17).params (rw_ 17).body (rw_ 17).scope pm cd doc)) (hcd : s.heap.CodeRec cd (rw_ 17).name)
    {l : Addr} {its : List Value} (hl : s.heap.IsList l its.toArray) (hi : IntsAre its sc) (Q : Value → Shared → Prop) (E : Value → Shared → Prop)
    (hQ : ∀ h' tk, Kp s.heap h' → Q (.bool true) { s with heap := h', toks := tk }) : wpC (CC w).M callerA (call (.ref f) [.ref l]) Q E s := by
  obtain ⟨ol, el, cl, n, dl⟩ := hl
  refine CallU.of (d := 4) (r := rw_ 17) (ps := [.scr (iL sc)]) (q := .bool true) (ns := ["script"]) ?_ (by decide +kernel) rfl (by decide +kernel) (by decide +kernel) (by decide +kernel) (by decide +kernel) (by decide +kernel) (fun L f cd => law_body hsc K) callerA ⟨rfl, by decide +kernel, by decide +kernel, trivial⟩ rfl s (fun b => if b = l then some ol else Option.none) ?_ hg f o pm cd doc ho hd hcd [.ref l] (.cons (.scr l ol its n _ (if_pos rfl) cl dl (Reps.ofI _ hi)) .nil) Q E ?_
  · intro vs hv pm cd doc
    obtain ⟨a, rfl⟩ := ofLen1 hv
    with_unfolding_all rfl
  · intro b ob e
    dsimp only at e
    split at e
    · rename_i q; (first | obtain rfl := Option.some.inj e | cases e); rw [q]; exact el
    · (first | obtain rfl := Option.some.inj e | cases e)
  · intro v g' h' tk G r
    obtain rfl := r.inv
    exact hQ h' tk G.kp
/-- the rows of a text's defs -/
noncomputable def rowD (d : DefRec) : DefRow := ⟨d.name, d.params, d.body, d.scope⟩
theorem glo_of {p : Program} {loose : List Str} {mean : ExcName → Option Value} {mg mb : Str → Option Value} {h : Heap} (T : Top p loose mean mg mb h) (blt : List Str) (defs : List DefRow)
    (hdefs : ∀ r ∈ defs, r ∈ (recsOf p).map rowD) (hblt : ∀ x ∈ blt, mg x = Option.none) (hn : ∀ x ∈ blt, x ≠ "__name__") : Glo blt defs h := by
  refine ⟨mg, mb, T.g, T.b, T.nolimit, fun x hx v hv => ⟨hblt x hx, (T.builtins x (hn x hx)).trans hv⟩, fun r hr => ?_⟩
  obtain ⟨d, hd, rfl⟩ := List.mem_map.mp (hdefs r hr)
  obtain ⟨a, o, pm, code, doc, h1, h2, h3, h4⟩ := T.fn d hd
  exact ⟨a, o, pm, code, doc, h1, h2, h3, h4⟩
end Mine
end
section
namespace Mine
section
variable (rd : List Int)
noncomputable def gp : Nat → Int
  | 0 => 0
  | n + 1 => gp n + 1 - 2 * at_ rd (n : Int)
noncomputable def gn : Nat → Int
  | 0 => 0
  | n + 1 => gn n - 1 + 2 * at_ rd (-((n : Int) + 1))
noncomputable def gG : Int → Int
  | .ofNat n => gp rd n
  | .negSucc n => gn rd (n + 1)
theorem gG_step (i : Int) : gG rd (i + 1) = gG rd i + 1 - 2 * at_ rd i := by
  match i with
  | .ofNat n => rfl
  | .negSucc 0 =>
    show gp rd 0 = gn rd 1 + 1 - 2 * at_ rd (-1)
    show (0 : Int) = (gn rd 0 - 1 + 2 * at_ rd (-(((0 : Nat) : Int) + 1))) + 1 - 2 * at_ rd (-1)
    have : (-(((0 : Nat) : Int) + 1)) = -1 := rfl
    rw [this]; show (0 : Int) = 0 - 1 + _ + 1 - _; omega
  | .negSucc (n + 1) =>
    have e : (Int.negSucc (n + 1) + 1 : Int) = .negSucc n := by omega
    rw [e]
    show gn rd (n + 1) = (gn rd (n + 1) - 1 + 2 * at_ rd (-(((n + 1 : Nat) : Int) + 1))) + 1 - 2 * at_ rd (Int.negSucc (n + 1))
    have : (Int.negSucc (n + 1) : Int) = -(((n + 1 : Nat) : Int) + 1) := by omega
    rw [this]; omega
theorem hgt_eq (h : Nat) : ∀ i : Nat, hgt rd h i = gG rd ((i : Int) - h) - gG rd (-(h : Int))
  | 0 => by
    have : ((0 : Nat) : Int) - h = -(h : Int) := by omega
    rw [this, Int.sub_self]; rfl
  | i + 1 => by
    have e : ((i + 1 : Nat) : Int) - h = ((i : Int) - h) + 1 := by omega
    rw [e, gG_step]
    show hgt rd h i + 1 - 2 * at_ rd ((i : Int) - h) = _
    rw [hgt_eq h i]; omega
theorem minTo_shift (f : Nat → Int) : ∀ n, minTo f (n + 1) = min (minTo f n) (minTo (fun k => f (k + 1)) n)
  | 0 => rfl
  | n + 1 => by
    have ih := minTo_shift f n
    show min (minTo f (n + 1)) (f (n + 2)) = min (minTo f (n + 1)) (min (minTo (fun k => f (k + 1)) n) (f (n + 2)))
    rw [← Int.min_assoc, ih, Int.min_assoc _ _ (minTo (fun k => f (k + 1)) n), Int.min_self]
theorem minTo_congr {f g : Nat → Int} : ∀ n, (∀ k, k ≤ n → f k = g k) → minTo f n = minTo g n
  | 0, h => h 0 (Nat.le_refl _)
  | n + 1, h => by
    show min (minTo f n) (f (n + 1)) = min (minTo g n) (g (n + 1))
    rw [minTo_congr n fun k hk => h k (by omega), h (n + 1) (Nat.le_refl _)]
theorem minTo_add (f : Nat → Int) (c : Int) : ∀ n, minTo (fun k => f k + c) n = minTo f n + c
  | 0 => rfl
  | n + 1 => by
    show min (minTo (fun k => f k + c) n) (f (n + 1) + c) = min (minTo f n) (f (n + 1)) + c
    rw [minTo_add f c n]
    rcases Int.le_total (minTo f n) (f (n + 1)) with h | h
    · rw [Int.min_eq_left h, Int.min_eq_left (Int.add_le_add_right h c)]
    · rw [Int.min_eq_right h, Int.min_eq_right (Int.add_le_add_right h c)]
/-- the least height, the hour's -/
noncomputable def lL (h : Nat) (e : Int) : Int := h + minTo (fun k => gG rd (e + 2 * (k : Int) - h)) h
theorem low_eq (h e : Nat) : low rd h e = lL rd h e - gG rd (-(h : Int)) := by
  unfold low lL
  have : minTo (fun k => hgt rd h (e + 2 * k)) h = minTo (fun k => gG rd ((e : Int) + 2 * (k : Int) - h) + -gG rd (-(h : Int))) h :=
    minTo_congr h fun k _ => by
      rw [hgt_eq]
      have : ((e + 2 * k : Nat) : Int) - h = (e : Int) + 2 * (k : Int) - h := by omega
      rw [this]; omega
  rw [this, minTo_add]; (clear this; omega)
theorem lL_zero (e : Int) : lL rd 0 e = gG rd e := by
  unfold lL minTo
  have : e + 2 * ((0 : Nat) : Int) - ((0 : Nat) : Int) = e := by omega
  rw [this]; simp
theorem lL_succ (h : Nat) (e : Int) : lL rd (h + 1) e = 1 + min (lL rd h (e - 1)) (lL rd h (e + 1)) := by
  unfold lL
  rw [minTo_shift]
  have e1 : minTo (fun k => gG rd (e + 2 * (k : Int) - ((h + 1 : Nat) : Int))) h = minTo (fun k => gG rd (e - 1 + 2 * (k : Int) - h)) h := minTo_congr h fun k _ => by
    have : e + 2 * (k : Int) - ((h + 1 : Nat) : Int) = e - 1 + 2 * (k : Int) - h := by omega
    rw [this]
  have e2 : minTo (fun k => gG rd (e + 2 * ((k + 1 : Nat) : Int) - ((h + 1 : Nat) : Int))) h = minTo (fun k => gG rd (e + 1 + 2 * (k : Int) - h)) h := minTo_congr h fun k _ => by
    have : e + 2 * ((k + 1 : Nat) : Int) - ((h + 1 : Nat) : Int) = e + 1 + 2 * (k : Int) - h := by (clear e1; omega)
    rw [this]
  rw [e1, e2]; omega
theorem add_min {L p q c : Int} (h : 1 + min (-1 + p) (1 - q) = c) : 1 + min (L - 1 + p) (L + 1 - q) = L + c := by
  have e1 : L - 1 + p = (-1 + p) + L := by (clear h; omega)
  have e2 : L + 1 - q = (1 - q) + L := by omega
  rw [e1, e2, ← h]
  rcases Int.le_total (-1 + p) (1 - q) with g | g
  · rw [Int.min_eq_left g, Int.min_eq_left (Int.add_le_add_right g L)]; omega
  · rw [Int.min_eq_right g, Int.min_eq_right (Int.add_le_add_right g L)]; omega
/-- a car that crosses the edge -/
noncomputable def crr (f : Int → Int) (e : Int) : Int := if f (e - 1) = 1 ∧ f e = 0 then 1 else 0
noncomputable def rr : Nat → Int → Int
  | 0, e => at_ rd e
  | h + 1, e => rr h e + crr (rr h) e - crr (rr h) (e + 1)
noncomputable def xx : Nat → Int → Int
  | 0, _ => 0
  | h + 1, e => xx h e + crr (rr rd h) e
end
section
variable {rd : List Int}
theorem rr_01 (h01 : ∀ i, at_ rd i = 0 ∨ at_ rd i = 1) : ∀ h e, rr rd h e = 0 ∨ rr rd h e = 1
  | 0, e => h01 e
  | h + 1, e => by
    have i1 := rr_01 h01 h (e - 1)
    have i2 := rr_01 h01 h e
    have i3 := rr_01 h01 h (e + 1)
    show rr rd h e + crr (rr rd h) e - crr (rr rd h) (e + 1) = 0 ∨ rr rd h e + crr (rr rd h) e - crr (rr rd h) (e + 1) = 1
    unfold crr
    rw [Int.add_sub_cancel]
    generalize rr rd h (e - 1) = a at i1 ⊢
    generalize rr rd h e = b at i2 ⊢
    generalize rr rd h (e + 1) = c at i3 ⊢
    rcases i1 with rfl | rfl <;> rcases i2 with rfl | rfl <;> rcases i3 with rfl | rfl <;> decide
theorem lL_step (h01 : ∀ i, at_ rd i = 0 ∨ at_ rd i = 1) : ∀ h e, lL rd h (e + 1) = lL rd h e + 1 - 2 * rr rd h e ∧ lL rd h e = gG rd e + 2 * xx rd h e
  | 0, e => by
    rw [lL_zero, lL_zero, gG_step]
    exact ⟨rfl, by show _ = _ + 2 * 0; omega⟩
  | h + 1, e => by
    have up : ∀ e, lL rd (h + 1) e = lL rd h e + 2 * crr (rr rd h) e := fun e => by
      rw [lL_succ]
      have a1 := (lL_step h01 h (e - 1)).1
      have a2 := (lL_step h01 h e).1
      rw [Int.sub_add_cancel] at a1
      have b1 := rr_01 h01 h (e - 1)
      have b2 := rr_01 h01 h e
      unfold crr
      rw [a2]
      generalize rr rd h (e - 1) = a at a1 b1 ⊢
      generalize rr rd h e = b at b2 ⊢
      have a3 : lL rd h (e - 1) = lL rd h e - 1 + 2 * a := by rw [a1]; omega
      rw [a3]
      clear a1 a2 a3 h01
      generalize lL rd h e = L
      rcases b1 with rfl | rfl <;> rcases b2 with rfl | rfl
      · exact add_min (by decide)
      · exact add_min (by decide)
      · exact add_min (by decide)
      · exact add_min (by decide)
    have a2 := lL_step h01 h e
    refine ⟨?_, ?_⟩
    · rw [up, up]
      show _ = _ + 1 - 2 * (rr rd h e + crr (rr rd h) e - crr (rr rd h) (e + 1))
      omega
    · rw [up]
      show _ = _ + 2 * (xx rd h e + crr (rr rd h) e)
      omega
theorem at_per (i : Int) : at_ rd (i + rd.length) = at_ rd i := by
  unfold at_; rw [Int.add_fmod_right]
theorem rr_per : ∀ h (i : Int), rr rd h (i + rd.length) = rr rd h i
  | 0, i => at_per i
  | h + 1, i => by
    have c : ∀ i, crr (rr rd h) (i + rd.length) = crr (rr rd h) i := fun i => by
      unfold crr
      have : i + rd.length - 1 = (i - 1) + rd.length := by omega
      rw [this, rr_per h, rr_per h]
    show rr rd h (i + rd.length) + crr (rr rd h) (i + rd.length) - crr (rr rd h) (i + rd.length + 1) = _
    have : i + rd.length + 1 = (i + 1) + rd.length := by omega
    rw [this, c, c, rr_per h]; rfl
theorem rr_perM (h : Nat) (i : Int) : ∀ k : Nat, rr rd h (i + rd.length * (k : Int)) = rr rd h i
  | 0 => by simp
  | k + 1 => by
    have : i + rd.length * ((k + 1 : Nat) : Int) = (i + rd.length * (k : Int)) + rd.length := by
      rw [Int.natCast_add, Int.mul_add]; simp; omega
    rw [this, rr_per, rr_perM h i k]
theorem rr_fmod (hn : 0 < rd.length) (h : Nat) (i : Int) : rr rd h (i.fmod rd.length) = rr rd h i := by
  have e := Int.mul_fdiv_add_fmod i rd.length
  rcases Int.le_total 0 (i.fdiv rd.length) with q | q
  · obtain ⟨k, hk⟩ := Int.eq_ofNat_of_zero_le q
    rw [hk] at e
    have := rr_perM (rd := rd) h (i.fmod rd.length) k
    rw [← this]; congr 1; (clear hn q hk this; omega)
  · obtain ⟨k, hk⟩ := Int.eq_ofNat_of_zero_le (a := -(i.fdiv rd.length)) (by omega)
    have := rr_perM (rd := rd) h i k
    rw [← this]; congr 1
    have e2 : (rd.length : Int) * k = -(rd.length * (i.fdiv rd.length)) := by
      rw [← Int.mul_neg, hk]
    (clear hn q hk this; omega)
theorem cars_eq (h01 : ∀ i, at_ rd i = 0 ∨ at_ rd i = 1) (h : Nat) : carsL rd h = (List.range rd.length).map fun (s : Nat) => rr rd h s := by
  unfold carsL
  refine List.map_congr_left fun s _ => ?_
  rw [low_eq, low_eq]
  have a := (lL_step h01 h (s : Int)).1
  have : ((s + 1 : Nat) : Int) = (s : Int) + 1 := by omega
  rw [this, a]
  have : (1 - (lL rd h s + 1 - 2 * rr rd h s - gG rd (-(h : Int))) + (lL rd h s - gG rd (-(h : Int)))) = rr rd h s * 2 := by omega
  rw [this]
  exact Int.mul_fdiv_cancel _ (by decide)
theorem cross_eq (h01 : ∀ i, at_ rd i = 0 ∨ at_ rd i = 1) (h : Nat) : crossL rd h = (List.range rd.length).map fun (s : Nat) => xx rd h s := by
  unfold crossL
  refine List.map_congr_left fun s _ => ?_
  rw [low_eq, hgt_eq]
  have a := (lL_step h01 h (s : Int)).2
  have : ((s + h : Nat) : Int) - h = s := by (clear h01 a; omega)
  rw [this, a]
  have : gG rd s + 2 * xx rd h s - gG rd (-(h : Int)) - (gG rd s - gG rd (-(h : Int))) = xx rd h s * 2 := by omega
  rw [this]
  exact Int.mul_fdiv_cancel _ (by decide)
theorem at_map {n : Nat} (hn : 0 < n) (f : Int → Int) (i : Int) : at_ ((List.range n).map fun (s : Nat) => f s) i = f (i.fmod n) := by
  unfold at_
  have h1 : 0 ≤ i.fmod n := Int.fmod_nonneg_of_pos _ (by omega)
  have h2 : i.fmod n < n := Int.fmod_lt_of_pos _ (by omega)
  rw [List.length_map, List.length_range, List.getD_eq_getElem?_getD, List.getElem?_map, List.getElem?_range (by omega)]
  show f ((i.fmod n).toNat : Int) = _
  rw [Int.toNat_of_nonneg h1]
theorem at_cars (hn : 0 < rd.length) (h01 : ∀ i, at_ rd i = 0 ∨ at_ rd i = 1) (h : Nat) (i : Int) : at_ (carsL rd h) i = rr rd h i := by
  rw [cars_eq h01, at_map hn, rr_fmod hn]
end
end Mine
end
section
namespace Mine
section
variable {rd : List Int}
theorem cars_zero (h01 : ∀ i, at_ rd i = 0 ∨ at_ rd i = 1) : carsL rd 0 = rd := by
  rw [cars_eq h01]
  refine List.ext_getElem (by simp) fun j h1 h2 => ?_
  rw [List.getElem_map, List.getElem_range]
  exact at_of rd j h2
theorem cross_zero (h01 : ∀ i, at_ rd i = 0 ∨ at_ rd i = 1) : crossL rd 0 = List.replicate rd.length 0 := by
  rw [cross_eq h01]
  refine List.ext_getElem (by simp) fun j h1 h2 => ?_
  rw [List.getElem_map, List.getElem_replicate]; rfl
theorem crr_fmod (hn : 0 < rd.length) (h : Nat) (i : Int) : crr (rr rd h) (i.fmod rd.length) = crr (rr rd h) i := by
  unfold crr
  have e : rr rd h (i.fmod rd.length - 1) = rr rd h (i - 1) := by
    rw [← rr_fmod hn h (i.fmod rd.length - 1), ← rr_fmod hn h (i - 1)]
    congr 1
    have := fmod_add (n := rd.length) i (-1)
    exact this
  rw [e, rr_fmod hn]
noncomputable def flowP (rd : List Int) (top : Int) (h : Nat) : List Int := (List.range rd.length).map fun (s : Nat) => top * crr (rr rd h) s
theorem flow_eq (h01 : ∀ i, at_ rd i = 0 ∨ at_ rd i = 1) (top : Int) (h : Nat) : ((crossL rd (h + 1)).zip (crossL rd h)).map (fun p => top * (p.1 - p.2)) = flowP rd top h := by
  rw [cross_eq h01, cross_eq h01, List.zip_map', List.map_map]
  refine List.map_congr_left fun s _ => ?_
  show top * ((xx rd h s + crr (rr rd h) s) - xx rd h s) = _
  congr 1; omega
theorem seen_eq (hn : 0 < rd.length) (h01 : ∀ i, at_ rd i = 0 ∨ at_ rd i = 1) {top : Int} (ht : 0 < top) (h : Nat) :
    (List.range rd.length).map (fun (s : Nat) => at_ (carsL rd h) s + (at_ (flowP rd top h) s).fdiv top - (at_ (flowP rd top h) ((s : Int) + 1)).fdiv top) = carsL rd (h + 1) := by
  rw [cars_eq h01 (h + 1)]
  refine List.map_congr_left fun s _ => ?_
  have f : ∀ i, (at_ (flowP rd top h) i).fdiv top = crr (rr rd h) i := fun i => by
    unfold flowP
    rw [at_map hn fun i => top * crr (rr rd h) i, crr_fmod hn]
    exact Int.mul_fdiv_cancel_left _ (by omega)
  rw [f, f, at_cars hn h01]; rfl
theorem gap_zero {r : List Int} {s : Int} (hn : 0 < r.length) (hs : at_ r s = 1) : gap r s = 0 ↔ at_ r (s + 1) = 1 := by
  obtain ⟨g1, g2, g3⟩ := gap_lt hn hs
  constructor
  · intro h
    rw [h] at g2
    simpa using g2
  · intro h
    rcases Nat.eq_zero_or_pos (gap r s) with q | q
    · exact q
    · exact absurd (by simpa using h) (g3 0 q)
theorem nmb_none {st : List Int} {s : Int} : ∀ k, (nmb st s k).isNone = (k == 0)
  | 0 => rfl
  | _ + 1 => rfl
noncomputable def plj (r : List Int) (j : Nat) : Int := if at_ r ((j : Int) + 1) = 1 then j else ((j : Int) + 1).fmod r.length
theorem ways_count {r st : List Int} (hn : 0 < r.length) (s : Int) : ∀ i, (((wayI r st i).map (plc r.length)).count s) = (List.range i).countP fun (j : Nat) => at_ r j == 1 && plj r j == s
  | 0 => rfl
  | i + 1 => by
    unfold wayI
    rw [List.map_append, List.count_append, ways_count hn s i, List.range_succ, List.countP_append]
    congr 1
    by_cases h : at_ r i = 1
    · rw [if_pos h]
      have e : plc r.length ((i : Int), nmb st i (gap r i)) = plj r i := by
        unfold plc plj
        show (if (nmb st i (gap r i)).isNone = true then (i : Int) else ((i : Int) + 1).fmod r.length) = _
        rw [nmb_none]
        by_cases hg : at_ r ((i : Int) + 1) = 1
        · rw [(gap_zero hn h).mpr hg, if_pos hg]; rfl
        · have : gap r i ≠ 0 := fun q => hg ((gap_zero hn h).mp q)
          rw [if_neg hg, if_neg (by simpa using this)]
      rw [List.map_cons, List.map_nil, e, List.countP_singleton, List.count_singleton]
      have hb : (at_ r i == 1) = true := by rw [h]; rfl
      rw [hb, Bool.true_and]
    · rw [if_neg h, List.countP_singleton]
      have hb : (at_ r i == 1) = false := by simpa using h
      rw [hb]; rfl
theorem countP_one {p : Nat → Bool} {n j0 : Nat} (h0 : j0 < n) (hp : ∀ j, j < n → (p j = true ↔ j = j0)) : (List.range n).countP p = 1 := by
  have : (List.range n).countP p = (List.range n).count j0 := by
    unfold List.count
    refine List.countP_congr fun j hj => ?_
    rw [hp j (List.mem_range.mp hj)]
    simp
  rw [this]
  have h1 : 0 < (List.range n).count j0 := List.count_pos_iff.mpr (List.mem_range.mpr h0)
  have h2 := List.nodup_iff_count.mp (List.nodup_range (n := n)) j0
  omega
theorem countP_none {p : Nat → Bool} {n : Nat} (hp : ∀ j, j < n → ¬ p j = true) : (List.range n).countP p = 0 :=
  List.countP_eq_zero.mpr fun j hj => hp j (List.mem_range.mp hj)
theorem led_eq (hn : 0 < rd.length) (h01 : ∀ i, at_ rd i = 0 ∨ at_ rd i = 1) (st : List Int) (h : Nat) : ledL (wayI (carsL rd h) st rd.length) rd.length = carsL rd (h + 1) := by
  have hl : (carsL rd h).length = rd.length := by simp [carsL]
  rw [cars_eq h01 (h + 1)]
  unfold ledL
  refine List.map_congr_left fun s hs => ?_
  have hs := List.mem_range.mp hs
  have hc := ways_count (r := carsL rd h) (st := st) (by rw [hl]; exact hn) (s : Int) rd.length
  rw [hl] at hc
  rw [hc]
  have at_r : ∀ i, at_ (carsL rd h) i = rr rd h i := at_cars hn h01 h
  have sf : (s : Int).fmod rd.length = s := Int.fmod_eq_of_lt (by (clear hn h01 hl hs hc at_r; omega)) (by (clear hn h01 hc at_r; omega))
  have P : ∀ j : Nat, (at_ (carsL rd h) j == 1 && plj (carsL rd h) j == (s : Int)) = true ↔ rr rd h j = 1 ∧ ((rr rd h (j + 1) = 1 ∧ (j : Int) = s) ∨ (rr rd h (j + 1) = 0 ∧ ((j : Int) + 1).fmod rd.length = s)) := fun j => by
    unfold plj
    rw [at_r, at_r, hl, Bool.and_eq_true, beq_iff_eq, beq_iff_eq]
    rcases rr_01 h01 h ((j : Int) + 1) with q | q
    · rw [q]; simp
    · rw [q]; simp
  have back : ∀ j : Nat, ((j : Int) + 1).fmod rd.length = s → rr rd h (j + 1) = rr rd h s ∧ rr rd h j = rr rd h ((s : Int) - 1) := fun j hj => by
    refine ⟨by rw [← rr_fmod hn h ((j : Int) + 1), hj], ?_⟩
    rw [← rr_fmod hn h ((s : Int) - 1), ← hj]
    have := fmod_add (n := rd.length) ((j : Int) + 1) (-1)
    have e : ((j : Int) + 1).fmod rd.length - 1 = ((j : Int) + 1).fmod rd.length + -1 := rfl
    rw [e, this, show (j : Int) + 1 + -1 = j from by (clear hn h01 hl hs hc at_r sf P hj this e; omega), rr_fmod hn]
  show (((List.range rd.length).countP fun (j : Nat) => at_ (carsL rd h) j == 1 && plj (carsL rd h) j == (s : Int)) : Int) = rr rd h s + crr (rr rd h) s - crr (rr rd h) ((s : Int) + 1)
  have e1 : (s : Int) + 1 - 1 = s := by (clear hn h01 hl hs hc at_r sf P back; omega)
  unfold crr
  rw [e1]
  rcases rr_01 h01 h s with r0 | r1
  · -- a free cell
    have c2 : ¬ (rr rd h s = 1 ∧ rr rd h ((s : Int) + 1) = 0) := fun q => by rw [r0] at q; cases q.1
    rw [if_neg c2]
    by_cases hp : rr rd h ((s : Int) - 1) = 1
    · rw [if_pos ⟨hp, r0⟩, r0]
      have hj0 := fmod_abs (a := (s : Int) - 1) (b := rd.length) (by (clear h01 hs hc at_r sf P back e1 r0 c2 hp; omega))
      have hj : ((((s : Int) - 1).fmod rd.length).toNat : Int) = ((s : Int) - 1).fmod rd.length := Int.toNat_of_nonneg hj0.1
      have e := countP_one (p := fun (j : Nat) => at_ (carsL rd h) j == 1 && plj (carsL rd h) j == (s : Int)) (n := rd.length) (j0 := (((s : Int) - 1).fmod rd.length).toNat) (by (clear hn h01 hs hc at_r sf P back e1 r0 c2 hp; omega)) fun j hjn => by
        rw [P j]
        constructor
        · rintro ⟨q1, ⟨_, q2⟩ | ⟨_, q2⟩⟩
          · rw [q2] at q1; rw [r0] at q1; cases q1
          · have : ((s : Int) - 1).fmod rd.length = j := by
              rw [← q2]
              have := fmod_add (n := rd.length) ((j : Int) + 1) (-1)
              have e : ((j : Int) + 1).fmod rd.length - 1 = ((j : Int) + 1).fmod rd.length + -1 := rfl
              rw [e, this, show (j : Int) + 1 + -1 = j from by (clear hn h01 hl hs hc at_r sf P back e1 r0 c2 hp hj0 hj hjn q1 q2 this e; omega)]
              exact Int.fmod_eq_of_lt (by (clear hn h01 hl hs hc at_r sf P back e1 r0 c2 hp hj0 hj hjn q1 q2 this e; omega)) (by (clear hn h01 hs hc at_r sf P back e1 r0 c2 hp hj0 hj q1 q2 this e; omega))
            (clear hn h01 hl hs hc at_r sf P back e1 r0 c2 hp hj0 hjn q1 q2; omega)
        · rintro rfl
          have q2 : (((((s : Int) - 1).fmod rd.length).toNat : Int) + 1).fmod rd.length = s := by
            rw [hj, fmod_add, show (s : Int) - 1 + 1 = s from by (clear hn h01 hl hs hc at_r sf P back e1 r0 c2 hp hj0 hj hjn; omega)]; exact sf
          have q3 := back _ q2
          exact ⟨q3.2.trans hp, .inr ⟨q3.1.trans r0, q2⟩⟩
      rw [e]; rfl
    · rw [if_neg (fun q => hp q.1), r0]
      have e := countP_none (p := fun (j : Nat) => at_ (carsL rd h) j == 1 && plj (carsL rd h) j == (s : Int)) (n := rd.length) fun j hjn => by
        rw [P j]
        rintro ⟨q1, ⟨_, q2⟩ | ⟨_, q2⟩⟩
        · rw [q2] at q1; rw [r0] at q1; cases q1
        · exact hp ((back j q2).2 ▸ q1)
      rw [e]; rfl
  · have c1 : ¬ (rr rd h ((s : Int) - 1) = 1 ∧ rr rd h s = 0) := fun q => by rw [r1] at q; cases q.2
    rw [if_neg c1, r1]
    rcases rr_01 h01 h ((s : Int) + 1) with n0 | n1
    · rw [if_pos ⟨rfl, n0⟩]
      have e := countP_none (p := fun (j : Nat) => at_ (carsL rd h) j == 1 && plj (carsL rd h) j == (s : Int)) (n := rd.length) fun j hjn => by
        rw [P j]
        rintro ⟨q1, ⟨q3, q2⟩ | ⟨q3, q2⟩⟩
        · rw [q2, n0] at q3; cases q3
        · rw [(back j q2).1, r1] at q3; cases q3
      rw [e]; rfl
    · rw [if_neg (fun q => by rw [n1] at q; cases q.2)]
      have e := countP_one (p := fun (j : Nat) => at_ (carsL rd h) j == 1 && plj (carsL rd h) j == (s : Int)) (n := rd.length) (j0 := s) hs fun j hjn => by
        rw [P j]
        constructor
        · rintro ⟨q1, ⟨q3, q2⟩ | ⟨q3, q2⟩⟩
          · (clear hn h01 hl hs hc at_r P back e1 r1 c1 n1 hjn q1 q3; omega)
          · rw [(back j q2).1, r1] at q3; cases q3
        · rintro rfl
          exact ⟨r1, .inl ⟨n1, rfl⟩⟩
      rw [e]; rfl
end
end Mine
end
section
namespace Mine
/-- the word's number, digit by digit -/
noncomputable def tN (d : Nat → Nat) : Nat → Nat
  | 0 => 0
  | k + 1 => tN d k + d k * 16 ^ k
theorem tN_small {d : Nat → Nat} (hd : ∀ j, d j ≤ 1) : ∀ k, 15 * tN d k < 16 ^ k
  | 0 => by show 15 * 0 < 1; decide
  | k + 1 => by
    have ih := tN_small hd k
    have h := hd k
    show 15 * (tN d k + d k * 16 ^ k) < 16 ^ (k + 1)
    rw [Nat.pow_succ]
    have : d k * 16 ^ k ≤ 1 * 16 ^ k := Nat.mul_le_mul_right _ h
    omega
theorem tN_split (d : Nat → Nat) (s : Nat) : ∀ m, ∃ B, tN d (s + 3 + m) = tN d s + 16 ^ s * (d s + 16 * d (s + 1) + 256 * d (s + 2) + 4096 * B)
  | 0 => ⟨0, by
    show tN d s + d s * 16 ^ s + d (s + 1) * 16 ^ (s + 1) + d (s + 2) * 16 ^ (s + 2) = _
    rw [show (16 : Nat) ^ (s + 2) = 16 ^ s * 16 * 16 from by rw [Nat.pow_succ, Nat.pow_succ], show (16 : Nat) ^ (s + 1) = 16 ^ s * 16 from Nat.pow_succ .., Nat.mul_add, Nat.mul_add, Nat.mul_add]
    have e1 : d s * 16 ^ s = 16 ^ s * d s := Nat.mul_comm _ _
    have e2 : d (s + 1) * (16 ^ s * 16) = 16 ^ s * (16 * d (s + 1)) := by rw [Nat.mul_comm, Nat.mul_assoc]
    have e3 : d (s + 2) * (16 ^ s * 16 * 16) = 16 ^ s * (256 * d (s + 2)) := by rw [Nat.mul_comm, Nat.mul_assoc, Nat.mul_assoc, ← Nat.mul_assoc 16 16]
    rw [e1, e2, e3]; (clear e1 e2 e3; omega)⟩
  | m + 1 => by
    obtain ⟨B, hB⟩ := tN_split d s m
    refine ⟨B + d (s + 3 + m) * 16 ^ m, ?_⟩
    show tN d (s + 3 + m) + d (s + 3 + m) * 16 ^ (s + 3 + m) = _
    rw [hB]
    have e : d (s + 3 + m) * 16 ^ (s + 3 + m) = 16 ^ s * (4096 * (d (s + 3 + m) * 16 ^ m)) := by
      rw [Nat.pow_add, Nat.pow_add, show (16 : Nat) ^ 3 = 4096 from rfl]
      rw [Nat.mul_comm, Nat.mul_assoc, Nat.mul_assoc, Nat.mul_comm (16 ^ m)]
    rw [e, Nat.add_assoc, ← Nat.mul_add]
    congr 2
    (clear hB e; omega)
theorem digit_of {d : Nat → Nat} (hd : ∀ j, d j ≤ 1) (s m : Nat) : 1057 * tN d (s + 3 + m) / 16 ^ (s + 2) % 16 = 4 * d s + 2 * d (s + 1) + d (s + 2) := by
  obtain ⟨B, hB⟩ := tN_split d s m
  have hT := tN_small hd s
  have h0 := hd s
  have h1 := hd (s + 1)
  have h2 := hd (s + 2)
  have hq : 0 < 16 ^ s := Nat.pow_pos (by decide)
  rw [hB, Nat.pow_succ, Nat.pow_succ, Nat.mul_assoc, ← Nat.div_div_eq_div_mul]
  have e : 1057 * (tN d s + 16 ^ s * (d s + 16 * d (s + 1) + 256 * d (s + 2) + 4096 * B)) / 16 ^ s = 1057 * tN d s / 16 ^ s + 1057 * (d s + 16 * d (s + 1) + 256 * d (s + 2) + 4096 * B) := by
    rw [Nat.mul_add, Nat.mul_left_comm, Nat.add_mul_div_left _ _ hq]
  rw [e]
  have u : 1057 * tN d s / 16 ^ s ≤ 70 := by
    have : 1057 * tN d s < 71 * 16 ^ s := by (clear hd hB h0 h1 h2 e; omega)
    have := (Nat.div_lt_iff_lt_mul hq).mpr this
    (clear hd hB hT h0 h1 h2 hq e; omega)
  generalize 1057 * tN d s / 16 ^ s = x at u ⊢
  rw [show (16 * 16 : Nat) = 256 from rfl]
  have y : (x + 1057 * (d s + 16 * d (s + 1) + 256 * d (s + 2) + 4096 * B)) / 256 = 4 * d s + 66 * d (s + 1) + 1057 * d (s + 2) + 16912 * B := by omega
  rw [y]
  (clear hd hB hT hq e u y; omega)
theorem num_tN {r : List Int} (h01 : ∀ i, at_ r i = 0 ∨ at_ r i = 1) : ∀ k, ((List.range k).map fun (s : Nat) => at_ r ((s : Int) - 1) * 16 ^ s).sum = (tN (fun j => (at_ r ((j : Int) - 1)).toNat) k : Nat)
  | 0 => rfl
  | k + 1 => by
    rw [List.range_succ, List.map_append, List.sum_append, num_tN h01 k]
    show _ + (at_ r ((k : Int) - 1) * 16 ^ k + 0) = ((tN _ k + (at_ r ((k : Int) - 1)).toNat * 16 ^ k : Nat) : Int)
    rcases h01 ((k : Int) - 1) with q | q <;> rw [q] <;> simp
theorem spw_val : ∀ a b c : Fin 2, (if (#[68, 69, 70, 72] : Array UInt8).contains (apC (4 * a.val + 2 * b.val + c.val)) then (1 : Int) else 0) = (b.val : Int) + (if a.val = 1 ∧ b.val = 0 then 1 else 0) - (if b.val = 1 ∧ c.val = 0 then 1 else 0) := by decide +kernel
theorem spw_nat (a b c : Nat) (ha : a ≤ 1) (hb : b ≤ 1) (hc : c ≤ 1) : (if (#[68, 69, 70, 72] : Array UInt8).contains (apC (4 * a + 2 * b + c)) then (1 : Int) else 0) = (b : Int) + (if a = 1 ∧ b = 0 then 1 else 0) - (if b = 1 ∧ c = 0 then 1 else 0) :=
  spw_val ⟨a, by omega⟩ ⟨b, by omega⟩ ⟨c, by omega⟩
section
variable {rd : List Int}
theorem word_num (hn : 0 < rd.length) (h01 : ∀ i, at_ rd i = 0 ∨ at_ rd i = 1) (h : Nat) : (1057 * (numL (carsL rd h)).sum).natAbs = 1057 * tN (fun j => (rr rd h ((j : Int) - 1)).toNat) (rd.length + 2) := by
  have hl : (carsL rd h).length = rd.length := by simp [carsL]
  have at_r : ∀ i, at_ (carsL rd h) i = rr rd h i := at_cars hn h01 h
  unfold numL
  rw [num_tN (fun i => by rw [at_r]; exact rr_01 h01 h i), hl]
  simp only [at_r]
  omega
theorem rr_nat (h01 : ∀ i, at_ rd i = 0 ∨ at_ rd i = 1) (h : Nat) (e : Int) : (rr rd h e).toNat ≤ 1 := by
  rcases rr_01 h01 h e with q | q <;> rw [q] <;> decide
theorem num_eq (hn : 0 < rd.length) (h01 : ∀ i, at_ rd i = 0 ∨ at_ rd i = 1) (h : Nat) : (1057 * (numL (carsL rd h)).sum).natAbs < 16 ^ (rd.length + 4) := by
  rw [word_num hn h01]
  have := tN_small (d := fun j => (rr rd h ((j : Int) - 1)).toNat) (fun j => rr_nat h01 h _) (rd.length + 2)
  rw [show rd.length + 4 = (rd.length + 2) + 2 from rfl, Nat.pow_add 16 (rd.length + 2) 2]
  generalize 16 ^ (rd.length + 2) = q at this ⊢
  have e : (16 : Nat) ^ 2 = 256 := rfl
  rw [e]
  omega
theorem spel_eq (hn : 0 < rd.length) (h01 : ∀ i, at_ rd i = 0 ∨ at_ rd i = 1) (h : Nat) : (List.range rd.length).map (spW (1057 * (numL (carsL rd h)).sum).natAbs) = carsL rd (h + 1) := by
  rw [cars_eq h01 (h + 1), word_num hn h01]
  refine List.map_congr_left fun s hs => ?_
  have hs := List.mem_range.mp hs
  unfold spW
  have e := digit_of (d := fun j => (rr rd h ((j : Int) - 1)).toNat) (fun j => rr_nat h01 h _) s (rd.length - 1 - s)
  rw [show s + 3 + (rd.length - 1 - s) = rd.length + 2 from by (clear hn h01 e; omega)] at e
  have e1 : ((s + 1 : Nat) : Int) - 1 = s := by (clear hn h01 hs e; omega)
  have e2 : ((s + 2 : Nat) : Int) - 1 = (s : Int) + 1 := by (clear hn h01 hs e e1; omega)
  rw [e1, e2] at e
  rw [e, spw_nat _ _ _ (rr_nat h01 h _) (rr_nat h01 h _) (rr_nat h01 h _)]
  show _ = rr rd h s + crr (rr rd h) s - crr (rr rd h) ((s : Int) + 1)
  unfold crr
  have e3 : (s : Int) + 1 - 1 = s := by (clear hn h01 hs e e1 e2; omega)
  rw [e3]
  rcases rr_01 h01 h ((s : Int) - 1) with q1 | q1 <;> rcases rr_01 h01 h s with q2 | q2 <;> rcases rr_01 h01 h ((s : Int) + 1) with q3 | q3 <;> rw [q1, q2, q3] <;> decide
end
end Mine
end
section
open PySem PySem.Calls PyProof.Rows
set_option maxRecDepth 100000
namespace Mine
open PySem.Float64 in
theorem V_repr : ∀ k q : Nat, q ≤ 2 ^ 53 → ∃ t, V t = q * 2 ^ k
  | 0, q, h => ⟨0 * 2 ^ 52 + q, V_at h (.inr rfl)⟩
  | k + 1, q, h => by
    by_cases h2 : 2 ^ 52 ≤ q
    · exact ⟨_, V_at h (.inl h2)⟩
    · obtain ⟨t, ht⟩ := V_repr k (2 * q) (by omega)
      refine ⟨t, ht.trans ?_⟩
      rw [Nat.pow_succ, Nat.mul_comm 2 q, Nat.mul_assoc, Nat.mul_comm 2]
open PySem.Float64 in
/-- rounding: how far at most -/
theorem right_err {r : UInt64} {neg : Bool} {W D k : Nat} (h : Right r neg W D) (hD : 0 < D) (hk : k ≤ 1500) (hW : W < D * 2 ^ k * 2 ^ 53) :
    ∃ (m : Nat) (e : Int) (t : Nat), decode r = .fin neg m e ∧ val r = sgn neg t ∧ dist W (D * t) ≤ D * 2 ^ k := by
  obtain ⟨t, rfl, _, h2, h3⟩ := h
  have hk2 : (2 : Nat) ^ k ≤ 2 ^ 1500 := Nat.pow_le_pow_right (by decide) hk
  have hov : t < infMag := by
    rcases Nat.lt_or_ge t infMag with q | q
    · exact q
    · exfalso
      have e : t = infMag := by (clear hD hk hW h2 h3 hk2; omega)
      have h4 := h2.mp e
      have h5 : D * 2 ^ k * 2 ^ 53 ≤ D * 2 ^ 1500 * 2 ^ 53 := Nat.mul_le_mul_right _ (Nat.mul_le_mul_left _ hk2)
      have h6 : D * 2 ^ 1500 * 2 ^ 53 * 2 ≤ D * ((2 ^ 54 - 1) * 2 ^ 2045) := by
        rw [Nat.mul_assoc, Nat.mul_assoc]
        exact Nat.mul_le_mul_left _ (by decide +kernel)
      omega
  obtain ⟨m, e, hd, hv⟩ := decode_pack neg hov
  refine ⟨m, e, V t, hd, val_pack neg hov, ?_⟩
  have hg : 0 < D * 2 ^ k := Nat.mul_pos hD (Nat.two_pow_pos k)
  obtain ⟨t', ht'⟩ := V_repr k (W / (D * 2 ^ k)) (Nat.le_of_lt ((Nat.div_lt_iff_lt_mul hg).mpr (by rw [Nat.mul_comm]; exact hW)))
  refine Nat.le_trans (h3 hov t').1 ?_
  rw [ht']
  have e1 : D * (W / (D * 2 ^ k) * 2 ^ k) = (D * 2 ^ k) * (W / (D * 2 ^ k)) := by
    rw [Nat.mul_comm (W / (D * 2 ^ k)), ← Nat.mul_assoc]
  rw [e1]
  have e2 := Nat.div_add_mod W (D * 2 ^ k)
  have e3 := Nat.mod_lt W hg
  unfold Float64.dist
  (clear hD hk hW h2 h3 hk2 hov hd hv ht' e1; omega)
open PySem.Float64 in
/-- a finite figure within e of v, in units of 2^-1074 -/
noncomputable def near (x : UInt64) (v e : Int) : Prop := (∃ s m ex, decode x = .fin s m ex) ∧ v - e ≤ val x ∧ val x ≤ v + e
open PySem.Float64 in
theorem near_fin {x : UInt64} {v e : Int} (h : near x v e) : isFinite x = true := by
  obtain ⟨⟨s, m, ex, hd⟩, _⟩ := h
  unfold isFinite; rw [hd]
open PySem.Float64 in
theorem sgn_dist {neg : Bool} {W t g : Nat} {z : Int} (hz : z.natAbs = W) (hn : z < 0 → neg = true) (hp : 0 < z → neg = false) (h : dist W t ≤ g) : z - g ≤ sgn neg t ∧ sgn neg t ≤ z + g := by
  unfold Float64.dist at h
  unfold sgn
  rcases Int.lt_trichotomy z 0 with q | q | q
  · rw [hn q]; simp only [if_true]; omega
  · subst q; cases neg <;> simp only [if_true, Bool.false_eq_true, if_false] <;> omega
  · rw [hp q]; simp only [Bool.false_eq_true, if_false]; omega
open PySem.Float64 in
theorem zero_near (b : Bool) : (∃ s m ex, decode (zero b) = .fin s m ex) ∧ val (zero b) = 0 := by
  cases b
  · exact ⟨⟨false, 0, -1074, by with_unfolding_all rfl⟩, by decide +kernel⟩
  · exact ⟨⟨true, 0, -1074, by with_unfolding_all rfl⟩, by decide +kernel⟩
theorem abs_of {v w f : Int} (y1 : w - f ≤ v) (y2 : v ≤ w + f) : (v - w).natAbs ≤ f.natAbs := by omega
theorem abs_of2 {v w f : Int} (y : (v - w).natAbs ≤ f.natAbs) : v.natAbs ≤ w.natAbs + f.natAbs := by
  have h := Int.natAbs_add_le w (v - w)
  rw [Int.add_comm, Int.sub_add_cancel] at h
  exact Nat.le_trans h (Nat.add_le_add_left y _)
open PySem.Float64 in
theorem near_of {r : UInt64} {z c g : Int} {b : Bool} {k : Nat} (h0 : z = 0 → r = zero b) (h1 : z ≠ 0 → Right r (decide (z < 0)) z.natAbs 1) (hk : k ≤ 1500) (z1 : c - g ≤ z) (z2 : z ≤ c + g) (hb : c.natAbs + g.natAbs < 2 ^ k * 2 ^ 53) : near r c (g + ((2 ^ k : Nat) : Int)) := by
  by_cases hz : z = 0
  · rw [h0 hz]
    refine ⟨(zero_near _).1, ?_, ?_⟩ <;> rw [(zero_near _).2] <;> omega
  · obtain ⟨m2, e2, t, r1, r2, r3⟩ := right_err (h1 hz) (by decide) hk (by rw [Nat.one_mul]; exact Nat.lt_of_le_of_lt (abs_of2 (abs_of z1 z2)) hb)
    rw [Nat.one_mul, Nat.one_mul] at r3
    have r4 := sgn_dist (neg := decide (z < 0)) (z := z) rfl (fun q => decide_eq_true q) (fun q => decide_eq_false (Int.not_lt.mpr (Int.le_of_lt q))) r3
    rw [← r2] at r4
    exact ⟨⟨_, _, _, r1⟩, by (clear h0 h1 hk z2 hb hz r1 r3; omega), by (clear h0 h1 hk z1 hb hz r1 r3; omega)⟩
open PySem.Float64 in
theorem near_add {x y : UInt64} {v w e f : Int} {k : Nat} (hx : near x v e) (hy : near y w f) (hk : k ≤ 1500) (hb : (v + w).natAbs + (e + f).natAbs < 2 ^ k * 2 ^ 53) : near (add x y) (v + w) (e + f + ((2 ^ k : Nat) : Int)) := by
  obtain ⟨⟨s, m, ex, hd⟩, x1, x2⟩ := hx
  obtain ⟨⟨s', m', ex', hd'⟩, y1, y2⟩ := hy
  obtain ⟨h0, h1⟩ := add_right hd hd'
  exact near_of h0 h1 hk (by (clear hk hb hd x2 hd' y2 h0 h1; omega)) (by (clear hk hb hd x1 hd' y1 h0 h1; omega)) hb
open PySem.Float64 in
theorem near_sub {x y : UInt64} {v w e f : Int} {k : Nat} (hx : near x v e) (hy : near y w f) (hk : k ≤ 1500) (hb : (v - w).natAbs + (e + f).natAbs < 2 ^ k * 2 ^ 53) : near (sub x y) (v - w) (e + f + ((2 ^ k : Nat) : Int)) := by
  obtain ⟨⟨s, m, ex, hd⟩, x1, x2⟩ := hx
  obtain ⟨⟨s', m', ex', hd'⟩, y1, y2⟩ := hy
  obtain ⟨h0, h1⟩ := sub_right hd hd'
  exact near_of h0 h1 hk (by (clear hk hb hd x2 hd' y1 h0 h1; omega)) (by (clear hk hb hd x1 hd' y2 h0 h1; omega)) hb
end Mine
end
section
open PySem PySem.Calls PyProof.Rows
set_option maxRecDepth 100000
namespace Mine
open PySem.Float64
theorem sgn_pos (a : Bool) (M : Nat) : (a = true → sgn a M ≤ 0) ∧ (a = false → 0 ≤ sgn a M) := by
  unfold sgn
  cases a
  · exact ⟨fun h => (by cases h), fun _ => (by simp only [Bool.false_eq_true, if_false]; omega)⟩
  · exact ⟨fun _ => (by simp only [if_true]; omega), fun h => (by cases h)⟩
theorem mul_sign {a b : Bool} {M N : Nat} : (sgn a M * sgn b N < 0 → (a != b) = true) ∧ (0 < sgn a M * sgn b N → (a != b) = false) := by
  have h1 := sgn_pos a M
  have h2 := sgn_pos b N
  cases a <;> cases b
  · have := Int.mul_nonneg (h1.2 rfl) (h2.2 rfl)
    exact ⟨fun h => by omega, fun _ => rfl⟩
  · have := Int.mul_nonpos_of_nonneg_of_nonpos (h1.2 rfl) (h2.1 rfl)
    exact ⟨fun _ => rfl, fun h => by omega⟩
  · have := Int.mul_nonpos_of_nonpos_of_nonneg (h1.1 rfl) (h2.2 rfl)
    exact ⟨fun _ => rfl, fun h => by omega⟩
  · have := Int.mul_nonneg_of_nonpos_of_nonpos (h1.1 rfl) (h2.1 rfl)
    exact ⟨fun h => by omega, fun _ => rfl⟩
/-- the product, exactly: within 2^k of the true one -/
theorem mul_err {x y : UInt64} {k : Nat} (hx : ∃ s m ex, decode x = .fin s m ex) (hy : ∃ s m ex, decode y = .fin s m ex) (hk : k ≤ 1500) (hb : (val x * val y).natAbs < 2 ^ 1074 * 2 ^ k * 2 ^ 53) :
    (∃ s m ex, decode (mul x y) = .fin s m ex) ∧ val x * val y - ((2 ^ 1074 * 2 ^ k : Nat) : Int) ≤ ((2 ^ 1074 : Nat) : Int) * val (mul x y) ∧ ((2 ^ 1074 : Nat) : Int) * val (mul x y) ≤ val x * val y + ((2 ^ 1074 * 2 ^ k : Nat) : Int) := by
  obtain ⟨s, m, ex, hd⟩ := hx
  obtain ⟨s', m', ex', hd'⟩ := hy
  have hr := mul_right hd hd'
  rw [Int.natAbs_mul] at hb
  obtain ⟨m2, e2, t, r1, r2, r3⟩ := right_err hr (Nat.two_pow_pos _) hk hb
  have hs := mul_sign (a := s) (b := s') (M := m * 2 ^ (ex + 1074).toNat) (N := m' * 2 ^ (ex' + 1074).toNat)
  rw [← val_eq hd, ← val_eq hd'] at hs
  have r4 := sgn_dist (neg := s != s') (z := val x * val y) (Int.natAbs_mul _ _) hs.1 hs.2 r3
  have e : sgn (s != s') (2 ^ 1074 * t) = ((2 ^ 1074 : Nat) : Int) * val (mul x y) := by
    rw [r2, Nat.mul_comm, sgn_mul, Int.mul_comm]
  rw [e] at r4
  exact ⟨⟨_, _, _, r1⟩, r4.1, r4.2⟩
theorem abs_to {z : Int} {n : Nat} (h : z.natAbs ≤ n) : z ≤ (n : Int) ∧ -(n : Int) ≤ z := by omega
theorem near_lo {a z1 z2 z3 r : Int} (n1 : a - z3 ≤ r) (d : -z2 ≤ a - z1) : z1 - (z2 + z3) ≤ r := by omega
theorem near_hi {a z1 z2 z3 r : Int} (n2 : r ≤ a + z3) (d : a - z1 ≤ z2) : r ≤ z1 + (z2 + z3) := by omega
theorem near_mulc {x y : UInt64} {C w0 f : Int} {cc k : Nat} (hx : ∃ s m ex, decode x = .fin s m ex) (hc : val x = C * ((2 ^ 1014 : Nat) : Int)) (hcc : C.natAbs ≤ cc * 2 ^ 60) (hy : near y (w0 * ((2 ^ 60 : Nat) : Int)) f) (hk : k ≤ 1500)
    (hb : cc * (w0 * ((2 ^ 60 : Nat) : Int)).natAbs + cc * f.natAbs < 2 ^ k * 2 ^ 53) : near (mul x y) (C * w0) ((cc : Int) * f + ((2 ^ k : Nat) : Int)) := by
  obtain ⟨hdy, y1, y2⟩ := hy
  have hf : 0 ≤ f := by clear hb hcc hk hc hx; omega
  have e60 : (2 : Nat) ^ 1074 = 2 ^ 60 * 2 ^ 1014 := by rw [← Nat.pow_add]
  have p60 : (0 : Nat) < 2 ^ 60 := Nat.two_pow_pos _
  have p1014 : (0 : Nat) < 2 ^ 1014 := Nat.two_pow_pos _
  have pk : (0 : Nat) < 2 ^ k := Nat.two_pow_pos _
  have hBw : (val y - w0 * ((2 ^ 60 : Nat) : Int)).natAbs ≤ f.natAbs := abs_of y1 y2
  have hB : (val y).natAbs ≤ (w0 * ((2 ^ 60 : Nat) : Int)).natAbs + f.natAbs := abs_of2 hBw
  have hdif : (C * (val y - w0 * ((2 ^ 60 : Nat) : Int))).natAbs ≤ cc * 2 ^ 60 * f.natAbs := by
    rw [Int.natAbs_mul]; exact Nat.mul_le_mul hcc hBw
  have hCB : (C * val y).natAbs ≤ cc * 2 ^ 60 * ((w0 * ((2 ^ 60 : Nat) : Int)).natAbs + f.natAbs) := by
    rw [Int.natAbs_mul]; exact Nat.mul_le_mul hcc hB
  have hbig : (val x * val y).natAbs < 2 ^ 1074 * 2 ^ k * 2 ^ 53 := by
    have e1 : val x * val y = (C * val y) * ((2 ^ 1014 : Nat) : Int) := by rw [hc]; ac_rfl
    rw [e1, Int.natAbs_mul, Int.natAbs_natCast, e60]
    have e2 : 2 ^ 60 * 2 ^ 1014 * 2 ^ k * 2 ^ 53 = (2 ^ 60 * (2 ^ k * 2 ^ 53)) * 2 ^ 1014 := by ac_rfl
    rw [e2]
    refine Nat.mul_lt_mul_of_pos_right ?_ p1014
    refine Nat.lt_of_le_of_lt hCB ?_
    have e3 : cc * 2 ^ 60 * ((w0 * ((2 ^ 60 : Nat) : Int)).natAbs + f.natAbs) = 2 ^ 60 * (cc * (w0 * ((2 ^ 60 : Nat) : Int)).natAbs + cc * f.natAbs) := by
      rw [Nat.mul_comm cc, Nat.mul_assoc, Nat.mul_add]
    rw [e3]
    exact Nat.mul_lt_mul_of_pos_left hb p60
  obtain ⟨hd, m1, m2⟩ := mul_err hx hdy hk hbig
  refine ⟨hd, ?_⟩
  generalize val (mul x y) = r at m1 m2 ⊢
  have e1 : val x * val y = ((2 ^ 1014 : Nat) : Int) * (C * val y) := by rw [hc]; ac_rfl
  have e2 : ((2 ^ 1074 * 2 ^ k : Nat) : Int) = ((2 ^ 1014 : Nat) : Int) * (((2 ^ 60 : Nat) : Int) * ((2 ^ k : Nat) : Int)) := by rw [e60, Int.natCast_mul, Int.natCast_mul]; ac_rfl
  have e3 : ((2 ^ 1074 : Nat) : Int) * r = ((2 ^ 1014 : Nat) : Int) * (((2 ^ 60 : Nat) : Int) * r) := by rw [e60, Int.natCast_mul]; ac_rfl
  rw [e1, e2, e3, ← Int.mul_sub] at m1
  rw [e1, e2, e3, ← Int.mul_add] at m2
  have q1014 : (0 : Int) < ((2 ^ 1014 : Nat) : Int) := Int.ofNat_lt.mpr p1014
  have n1 := Int.le_of_mul_le_mul_left m1 q1014
  have n2 := Int.le_of_mul_le_mul_left m2 q1014
  have q60 : (0 : Int) < ((2 ^ 60 : Nat) : Int) := Int.ofNat_lt.mpr p60
  have e4 : C * (val y - w0 * ((2 ^ 60 : Nat) : Int)) = C * val y - ((2 ^ 60 : Nat) : Int) * (C * w0) := by rw [Int.mul_sub]; congr 1; ac_rfl
  rw [e4] at hdif
  have e5 : ((cc * 2 ^ 60 * f.natAbs : Nat) : Int) = ((2 ^ 60 : Nat) : Int) * ((cc : Int) * f) := by
    rw [Int.natCast_mul, Int.natCast_mul, Int.natAbs_of_nonneg hf]; ac_rfl
  have d1 : C * val y - ((2 ^ 60 : Nat) : Int) * (C * w0) ≤ ((2 ^ 60 : Nat) : Int) * ((cc : Int) * f) := by rw [← e5]; exact (abs_to hdif).1
  have d2 : -(((2 ^ 60 : Nat) : Int) * ((cc : Int) * f)) ≤ C * val y - ((2 ^ 60 : Nat) : Int) * (C * w0) := by rw [← e5]; exact (abs_to hdif).2
  refine ⟨Int.le_of_mul_le_mul_left (a := ((2 ^ 60 : Nat) : Int)) ?_ q60, Int.le_of_mul_le_mul_left (a := ((2 ^ 60 : Nat) : Int)) ?_ q60⟩
  · rw [Int.mul_sub, Int.mul_add]; exact near_lo n1 d2
  · rw [Int.mul_add, Int.mul_add]; exact near_hi n2 d1
end Mine
end
section
open PySem PySem.Calls PyProof.Rows
set_option maxRecDepth 100000
namespace Mine
open PySem.Float64
noncomputable def uU : Int := ((2 ^ 889 : Nat) : Int)
noncomputable def nU (x : UInt64) (v e : Int) : Prop := near x (v * uU) (e * uU)
theorem uU_pos : 0 < uU := Int.ofNat_lt.mpr (Nat.two_pow_pos _)
theorem uU_abs : uU.natAbs = 2 ^ 889 := Int.natAbs_natCast _
theorem k_u : ((2 ^ 1026 : Nat) : Int) = 2 ^ 137 * uU := by
  unfold uU
  rw [show (1026 : Nat) = 137 + 889 from rfl, Nat.pow_add, Int.natCast_mul]; rfl
theorem big_u {z g : Int} (hg : 0 ≤ g) (h : z.natAbs + g.natAbs < 2 ^ 190) : (z * uU).natAbs + (g * uU).natAbs < 2 ^ 1026 * 2 ^ 53 := by
  rw [Int.natAbs_mul, Int.natAbs_mul, uU_abs, ← Nat.add_mul]
  have e : (2 : Nat) ^ 1026 * 2 ^ 53 = 2 ^ 190 * 2 ^ 889 := by rw [← Nat.pow_add, ← Nat.pow_add]
  rw [e]
  exact Nat.mul_lt_mul_of_pos_right h (Nat.two_pow_pos _)
theorem nU_add {x y : UInt64} {v w e f : Int} (hx : nU x v e) (hy : nU y w f) (hg : 0 ≤ e + f) (hb : (v + w).natAbs + (e + f).natAbs < 2 ^ 190) : nU (add x y) (v + w) (e + f + 2 ^ 137) := by
  have h := near_add (k := 1026) hx hy (by decide) (by rw [← Int.add_mul, ← Int.add_mul]; exact big_u hg hb)
  unfold nU
  rw [k_u, ← Int.add_mul, ← Int.add_mul, ← Int.add_mul] at h
  exact h
theorem nU_sub {x y : UInt64} {v w e f : Int} (hx : nU x v e) (hy : nU y w f) (hg : 0 ≤ e + f) (hb : (v - w).natAbs + (e + f).natAbs < 2 ^ 190) : nU (sub x y) (v - w) (e + f + 2 ^ 137) := by
  have h := near_sub (k := 1026) hx hy (by decide) (by rw [← Int.sub_mul, ← Int.add_mul]; exact big_u hg hb)
  unfold nU
  rw [k_u, ← Int.sub_mul, ← Int.add_mul, ← Int.add_mul] at h
  exact h
noncomputable def isC (x : UInt64) (C : Int) : Prop := (∃ s m ex, decode x = .fin s m ex) ∧ val x = C * ((2 ^ 1014 : Nat) : Int)
theorem nU_mul {x y : UInt64} {C w0 f : Int} (cc : Nat) (hx : isC x C) (hcc : C.natAbs ≤ cc * 2 ^ 60) (hy : nU y (w0 * 2 ^ 60) f) (hg : 0 ≤ f) (hb : cc * (w0 * 2 ^ 60).natAbs + cc * f.natAbs < 2 ^ 190) : nU (mul x y) (C * w0) ((cc : Int) * f + 2 ^ 137) := by
  have e1 : w0 * 2 ^ 60 * uU = (w0 * uU) * ((2 ^ 60 : Nat) : Int) := by
    rw [show ((2 ^ 60 : Nat) : Int) = 2 ^ 60 from rfl]; ac_rfl
  have hy' : near y ((w0 * uU) * ((2 ^ 60 : Nat) : Int)) (f * uU) := e1 ▸ hy
  have h := near_mulc (cc := cc) (k := 1026) hx.1 hx.2 hcc hy' (by decide) (by
    rw [← e1, Int.natAbs_mul (w0 * 2 ^ 60), Int.natAbs_mul f, uU_abs, ← Nat.mul_assoc, ← Nat.mul_assoc, ← Nat.add_mul]
    have e : (2 : Nat) ^ 1026 * 2 ^ 53 = 2 ^ 190 * 2 ^ 889 := by rw [← Nat.pow_add, ← Nat.pow_add]
    rw [e]
    exact Nat.mul_lt_mul_of_pos_right hb (Nat.two_pow_pos _))
  unfold nU
  rw [k_u, ← Int.mul_assoc, ← Int.mul_assoc, ← Int.add_mul] at h
  exact h
theorem is_c1 : isC 0x3fd3333333333333 345876451382054080 := ⟨⟨_, _, _, by with_unfolding_all rfl⟩, by decide +kernel⟩
theorem is_c2 : isC 0x3fe2e147ae147ae1 680223687718039680 := ⟨⟨_, _, _, by with_unfolding_all rfl⟩, by decide +kernel⟩
theorem is_c3 : isC 0x3fbc28f5c28f5c29 126821365506753168 := ⟨⟨_, _, _, by with_unfolding_all rfl⟩, by decide +kernel⟩
theorem is_c4 : isC 0x3fe7ae147ae147ae 853161913409066752 := ⟨⟨_, _, _, by with_unfolding_all rfl⟩, by decide +kernel⟩
theorem is_c5 : isC 0x3fd147ae147ae148 311288806243848704 := ⟨⟨_, _, _, by with_unfolding_all rfl⟩, by decide +kernel⟩
theorem is_c6 : isC 0x3fdeb851eb851eb8 553402322211286528 := ⟨⟨_, _, _, by with_unfolding_all rfl⟩, by decide +kernel⟩
theorem is_c7 : isC 0x3fda3d70a3d70a3d 472697816888807232 := ⟨⟨_, _, _, by with_unfolding_all rfl⟩, by decide +kernel⟩
theorem is_r1 : isC 0x3fee4cdbef721b32 1091680870412949760 := ⟨⟨_, _, _, by with_unfolding_all rfl⟩, by decide +kernel⟩
theorem is_r2 : isC 0x3fe3f42ceedac0be 718911792710967040 := ⟨⟨_, _, _, by with_unfolding_all rfl⟩, by decide +kernel⟩
theorem is_g1 : isC 0x3fd1961eec8cbb3a 316808586618392192 := ⟨⟨_, _, _, by with_unfolding_all rfl⟩, by decide +kernel⟩
theorem is_g2 : isC 0x3fe45794d16efff3 732901915481864576 := ⟨⟨_, _, _, by with_unfolding_all rfl⟩, by decide +kernel⟩
theorem is_b1 : isC 0x3ff1bc99b7dee436 1278065409263941120 := ⟨⟨_, _, _, by with_unfolding_all rfl⟩, by decide +kernel⟩
theorem is_b2 : isC 0x3ffb5817a6224a7f 1970350839281909504 := ⟨⟨_, _, _, by with_unfolding_all rfl⟩, by decide +kernel⟩
theorem lamp_near : ∀ n : Fin 32, isFinite (ofFrac false n.val 32) = true ∧ val (ofFrac false n.val 32) = ((n.val : Nat) : Int) * 2 ^ 180 * uU := by decide +kernel
end Mine
end
section
open PySem PySem.Calls PyProof.Rows
namespace Mine
noncomputable def dY (gain : Int) (xa xb xc xd : UInt64) : UInt64 := diff gain (yiqY xa xb xc) (yiqY xb xc xd)
noncomputable def dI (gain : Int) (xa xb xc xd : UInt64) : UInt64 := diff gain (yiqI xa xb xc) (yiqI xb xc xd)
noncomputable def dQ (gain : Int) (xa xb xc xd : UInt64) : UInt64 := diff gain (yiqQ xa xb xc) (yiqQ xb xc xd)
noncomputable def kR (gain : Int) (xa xb xc xd : UInt64) : UInt64 := hi1 (lo0 (rgbR (dY gain xa xb xc xd) (dI gain xa xb xc xd) (dQ gain xa xb xc xd)))
noncomputable def kG (gain : Int) (xa xb xc xd : UInt64) : UInt64 := hi1 (lo0 (rgbG (dY gain xa xb xc xd) (dI gain xa xb xc xd) (dQ gain xa xb xc xd)))
noncomputable def kB (gain : Int) (xa xb xc xd : UInt64) : UInt64 := hi1 (lo0 (rgbB (dY gain xa xb xc xd) (dI gain xa xb xc xd) (dQ gain xa xb xc xd)))
noncomputable def jmp (a b : Int) : Int := if a = 1 ∧ b = 0 then 1 else 0
noncomputable def topG (bright gain : Int) : Int := 2 ^ 20 * (if gain * bright < 32 then gain * bright else 32)
end Mine
end
section
open PySem PySem.Calls PyProof.Rows
set_option maxRecDepth 100000
set_option maxHeartbeats 1000000
set_option exponentiation.threshold 3000
namespace Mine
open PySem.Float64
/-! ## linear forms in the four lamps -/
noncomputable abbrev Co := Int × Int × Int × Int
noncomputable def evC (p : Co) (n m k l : Int) : Int := p.1 * n + (p.2.1 * m + (p.2.2.1 * k + p.2.2.2 * l))
noncomputable def addC (p q : Co) : Co := (p.1 + q.1, p.2.1 + q.2.1, p.2.2.1 + q.2.2.1, p.2.2.2 + q.2.2.2)
noncomputable def mulC (c : Int) (p : Co) : Co := (c * p.1, c * p.2.1, c * p.2.2.1, c * p.2.2.2)
noncomputable def subC (p q : Co) : Co := addC p (mulC (-1) q)
noncomputable def divC (p : Co) : Co := (p.1 / 2 ^ 60, p.2.1 / 2 ^ 60, p.2.2.1 / 2 ^ 60, p.2.2.2 / 2 ^ 60)
noncomputable def magC (p : Co) : Nat := p.1.natAbs + (p.2.1.natAbs + (p.2.2.1.natAbs + p.2.2.2.natAbs))
section
variable {n m k l : Int} {p q : Co}
theorem add4 (a b c d : Int) : (a + b) + (c + d) = (a + c) + (b + d) := by rw [Int.add_assoc, Int.add_assoc, Int.add_left_comm b]
theorem evC_add : evC (addC p q) n m k l = evC p n m k l + evC q n m k l := by
  simp only [evC, addC, Int.add_mul]
  rw [add4 (p.2.2.1 * k), add4 (p.2.1 * m), add4 (p.1 * n)]
theorem evC_mul {c : Int} : evC (mulC c p) n m k l = c * evC p n m k l := by simp only [evC, mulC, Int.mul_add, Int.mul_assoc]
theorem evC_sub : evC (subC p q) n m k l = evC p n m k l - evC q n m k l := by
  rw [subC, evC_add, evC_mul, Int.neg_mul, Int.one_mul]; rfl
theorem evC_out {c : Int} : evC p (c * n) (c * m) (c * k) (c * l) = c * evC p n m k l := by simp only [evC, Int.mul_add, Int.mul_left_comm c]
structure Bd (B : Nat) (n m k l : Int) : Prop where
  n : n.natAbs ≤ B
  m : m.natAbs ≤ B
  k : k.natAbs ≤ B
  l : l.natAbs ≤ B
theorem evC_mag {B : Nat} (H : Bd B n m k l) : (evC p n m k l).natAbs ≤ magC p * B := by
  have t : ∀ {a b : Int}, b.natAbs ≤ B → (a * b).natAbs ≤ a.natAbs * B := fun h => by rw [Int.natAbs_mul]; exact Nat.mul_le_mul_left _ h
  have s : ∀ {a b : Int} {c d : Nat}, a.natAbs ≤ c → b.natAbs ≤ d → (a + b).natAbs ≤ c + d := fun h1 h2 => Nat.le_trans (Int.natAbs_add_le _ _) (Nat.add_le_add h1 h2)
  simp only [evC, magC, Nat.add_mul]
  exact s (t H.n) (s (t H.m) (s (t H.k) (t H.l)))
noncomputable def nL (n m k l : Int) (x : UInt64) (p : Co) (e : Int) : Prop := nU x (evC p n m k l) e
variable {B : Nat} {x y : UInt64} {e f : Int}
theorem L_add (H : Bd B n m k l) (hx : nL n m k l x p e) (hy : nL n m k l y q f) (hc : 0 ≤ e + f ∧ magC (addC p q) * B + (e + f).natAbs < 2 ^ 190) : nL n m k l (add x y) (addC p q) (e + f + 2 ^ 137) := by
  have h := nU_add hx hy hc.1 (by rw [← evC_add]; exact Nat.lt_of_le_of_lt (Nat.add_le_add_right (evC_mag H) _) hc.2)
  rw [← evC_add] at h
  exact h
theorem L_sub (H : Bd B n m k l) (hx : nL n m k l x p e) (hy : nL n m k l y q f) (hc : 0 ≤ e + f ∧ magC (subC p q) * B + (e + f).natAbs < 2 ^ 190) : nL n m k l (sub x y) (subC p q) (e + f + 2 ^ 137) := by
  have h := nU_sub hx hy hc.1 (by rw [← evC_sub]; exact Nat.lt_of_le_of_lt (Nat.add_le_add_right (evC_mag H) _) hc.2)
  rw [← evC_sub] at h
  exact h
theorem L_mulW {C : Int} (cc : Nat) (H : Bd B n m k l) (hx : isC x C) (hC : C.natAbs ≤ cc * 2 ^ 60) (hy : nL n m k l y q f) (hc : q = mulC (2 ^ 60) (divC q) ∧ 0 ≤ f ∧ cc * (magC q * B) + cc * f.natAbs < 2 ^ 190) : nU (mul x y) (C * evC (divC q) n m k l) ((cc : Int) * f + 2 ^ 137) := by
  have e1 : evC q n m k l = evC (divC q) n m k l * 2 ^ 60 := by
    have h := congrArg (fun q => evC q n m k l) hc.1
    rw [evC_mul, Int.mul_comm] at h
    exact h
  have hy' : nU y (evC (divC q) n m k l * 2 ^ 60) f := e1 ▸ hy
  exact nU_mul cc hx hC hy' hc.2.1 (by rw [← e1]; exact Nat.lt_of_le_of_lt (Nat.add_le_add_right (Nat.mul_le_mul_left _ (evC_mag H)) _) hc.2.2)
theorem L_mul {C : Int} (cc : Nat) (H : Bd B n m k l) (hx : isC x C) (hC : C.natAbs ≤ cc * 2 ^ 60) (hy : nL n m k l y q f) (hc : q = mulC (2 ^ 60) (divC q) ∧ 0 ≤ f ∧ cc * (magC q * B) + cc * f.natAbs < 2 ^ 190) : nL n m k l (mul x y) (mulC C (divC q)) ((cc : Int) * f + 2 ^ 137) := by
  have h := L_mulW cc H hx hC hy hc
  rw [← evC_mul] at h
  exact h
theorem L_gain {g : Int} (H : Bd B n m k l) (hx : isC x (g * 2 ^ 60)) (hC : (g * 2 ^ 60).natAbs ≤ 4 * 2 ^ 60) (hy : nL n m k l y q f) (hc : q = mulC (2 ^ 60) (divC q) ∧ 0 ≤ f ∧ 4 * (magC q * B) + 4 * f.natAbs < 2 ^ 190) : nL (g * n) (g * m) (g * k) (g * l) (mul x y) q (4 * f + 2 ^ 137) := by
  have h := L_mulW 4 H hx hC hy hc
  rw [Int.mul_assoc, ← evC_mul, ← hc.1, ← evC_out] at h
  exact h
/-- to a form near by -/
theorem L_to (H : Bd B n m k l) (hx : nL n m k l x p e) (hc : e + (magC (subC p q) * B : Nat) ≤ f) : nL n m k l x q f := by
  have h1 := evC_mag (p := subC p q) H
  rw [evC_sub] at h1
  have u := Int.le_of_lt uU_pos
  refine ⟨hx.1, Int.le_trans ?_ hx.2.1, Int.le_trans hx.2.2 ?_⟩
  · rw [← Int.sub_mul, ← Int.sub_mul]
    exact Int.mul_le_mul_of_nonneg_right (by omega) u
  · rw [← Int.add_mul, ← Int.add_mul]
    exact Int.mul_le_mul_of_nonneg_right (by omega) u
end
structure Lamps (xa xb xc xd : UInt64) (n m k l : Int) : Prop where
  a : nU xa (n * 2 ^ 180) 0
  b : nU xb (m * 2 ^ 180) 0
  c : nU xc (k * 2 ^ 180) 0
  d : nU xd (l * 2 ^ 180) 0
  bd : Bd 31 n m k l
theorem is_gain {gain : Int} (h : gain = 1 ∨ gain = 2 ∨ gain = 3 ∨ gain = 4) : isC (ofInt gain) (gain * 2 ^ 60) := by
  rcases h with rfl | rfl | rfl | rfl
  · exact ⟨⟨false, 2 ^ 52, -52, by with_unfolding_all rfl⟩, by decide +kernel⟩
  · exact ⟨⟨false, 2 ^ 52, -51, by with_unfolding_all rfl⟩, by decide +kernel⟩
  · exact ⟨⟨false, 3 * 2 ^ 51, -51, by with_unfolding_all rfl⟩, by decide +kernel⟩
  · exact ⟨⟨false, 2 ^ 52, -50, by with_unfolding_all rfl⟩, by decide +kernel⟩
section
variable {x r g b : UInt64} {n m k l : Int} {p q s : Co} {B : Nat}
noncomputable def fY (p q s : Co) : Co := addC (addC (mulC 345876451382054080 (divC p)) (mulC 680223687718039680 (divC q))) (mulC 126821365506753168 (divC s))
noncomputable def fI (p q s : Co) : Co := subC (mulC 853161913409066752 (divC (subC p (fY p q s)))) (mulC 311288806243848704 (divC (subC s (fY p q s))))
noncomputable def fQ (p q s : Co) : Co := addC (mulC 553402322211286528 (divC (subC p (fY p q s)))) (mulC 472697816888807232 (divC (subC s (fY p q s))))
noncomputable def okM (cc B : Nat) (f : Int) (q : Co) : Bool := decide (q = mulC (2 ^ 60) (divC q) ∧ 0 ≤ f ∧ cc * (magC q * B) + cc * f.natAbs < 2 ^ 190)
noncomputable def okA (B : Nat) (e : Int) (q : Co) : Bool := decide (0 ≤ e ∧ magC q * B + e.natAbs < 2 ^ 190)
noncomputable def eY : Int := 1 * 0 + 2 ^ 137 + (1 * 0 + 2 ^ 137) + 2 ^ 137 + (1 * 0 + 2 ^ 137) + 2 ^ 137
noncomputable def eS : Int := 0 + eY + 2 ^ 137
noncomputable def eI : Int := 1 * eS + 2 ^ 137 + (1 * eS + 2 ^ 137) + 2 ^ 137
noncomputable def okY (p q s : Co) : Bool := okM 1 31 0 p && okM 1 31 0 q && okM 1 31 0 s && okA 31 (1 * 0 + 2 ^ 137 + (1 * 0 + 2 ^ 137)) (addC (mulC 345876451382054080 (divC p)) (mulC 680223687718039680 (divC q))) && okA 31 (1 * 0 + 2 ^ 137 + (1 * 0 + 2 ^ 137) + 2 ^ 137 + (1 * 0 + 2 ^ 137)) (fY p q s)
theorem near_Y (H : Bd 31 n m k l) (hr : nL n m k l r p 0) (hg : nL n m k l g q 0) (hb : nL n m k l b s 0) (hc : okY p q s = true) : nL n m k l (yiqY r g b) (fY p q s) eY := by
  simp only [okY, okM, okA, Bool.and_eq_true, decide_eq_true_eq] at hc
  obtain ⟨⟨⟨⟨c1, c2⟩, c3⟩, c4⟩, c5⟩ := hc
  exact L_add H (L_add H (L_mul 1 H is_c1 (by decide) hr c1) (L_mul 1 H is_c2 (by decide) hg c2) c4) (L_mul 1 H is_c3 (by decide) hb c3) c5
noncomputable def okI (p q s : Co) : Bool := okY p q s && okA 31 (0 + eY) (subC p (fY p q s)) && okA 31 (0 + eY) (subC s (fY p q s)) && okM 1 31 eS (subC p (fY p q s)) && okM 1 31 eS (subC s (fY p q s)) && okA 31 (1 * eS + 2 ^ 137 + (1 * eS + 2 ^ 137)) (fI p q s) && okA 31 (1 * eS + 2 ^ 137 + (1 * eS + 2 ^ 137)) (fQ p q s)
theorem near_IQ (H : Bd 31 n m k l) (hr : nL n m k l r p 0) (hg : nL n m k l g q 0) (hb : nL n m k l b s 0) (hc : okI p q s = true) : nL n m k l (yiqY r g b) (fY p q s) eY ∧ nL n m k l (yiqI r g b) (fI p q s) eI ∧ nL n m k l (yiqQ r g b) (fQ p q s) eI := by
  simp only [okI, okM, okA, Bool.and_eq_true, decide_eq_true_eq] at hc
  obtain ⟨⟨⟨⟨⟨⟨c1, c2⟩, c3⟩, c4⟩, c5⟩, c6⟩, c7⟩ := hc
  have hy := near_Y H hr hg hb c1
  have h1 := L_sub H hr hy c2
  have h2 := L_sub H hb hy c3
  exact ⟨hy, L_sub H (L_mul 1 H is_c4 (by decide) h1 c4) (L_mul 1 H is_c5 (by decide) h2 c5) c6, L_add H (L_mul 1 H is_c6 (by decide) h1 c4) (L_mul 1 H is_c7 (by decide) h2 c5) c7⟩
end
noncomputable def uA : Co := (2 ^ 180, 0, 0, 0)
noncomputable def uB : Co := (0, 2 ^ 180, 0, 0)
noncomputable def uC : Co := (0, 0, 2 ^ 180, 0)
noncomputable def uD : Co := (0, 0, 0, 2 ^ 180)
noncomputable def gY : Co := subC (fY uA uB uC) (fY uB uC uD)
noncomputable def gI : Co := subC (fI uA uB uC) (fI uB uC uD)
noncomputable def gQ : Co := subC (fQ uA uB uC) (fQ uB uC uD)
section
variable {xa xb xc xd : UInt64} {n m k l gain : Int}
theorem near_d (H : Lamps xa xb xc xd n m k l) (hg : gain = 1 ∨ gain = 2 ∨ gain = 3 ∨ gain = 4) :
    nL (gain * n) (gain * m) (gain * k) (gain * l) (dY gain xa xb xc xd) gY (45 * 2 ^ 137) ∧ nL (gain * n) (gain * m) (gain * k) (gain * l) (dI gain xa xb xc xd) gI (141 * 2 ^ 137) ∧ nL (gain * n) (gain * m) (gain * k) (gain * l) (dQ gain xa xb xc xd) gQ (141 * 2 ^ 137) ∧ Bd 124 (gain * n) (gain * m) (gain * k) (gain * l) := by
  have B := H.bd
  have ha : nL n m k l xa uA 0 := by have h := H.a; simpa [nL, evC, uA, Int.mul_comm] using h
  have hb : nL n m k l xb uB 0 := by have h := H.b; simpa [nL, evC, uB, Int.mul_comm] using h
  have hc : nL n m k l xc uC 0 := by have h := H.c; simpa [nL, evC, uC, Int.mul_comm] using h
  have hd : nL n m k l xd uD 0 := by have h := H.d; simpa [nL, evC, uD, Int.mul_comm] using h
  obtain ⟨y1, i1, q1⟩ := near_IQ B ha hb hc (by decide +kernel)
  obtain ⟨y2, i2, q2⟩ := near_IQ B hb hc hd (by decide +kernel)
  have h4 : gain.natAbs ≤ 4 := by omega
  have hcc : (gain * 2 ^ 60).natAbs ≤ 4 * 2 ^ 60 := by rw [Int.natAbs_mul]; exact Nat.mul_le_mul_right _ h4
  have bd : ∀ {z : Int}, z.natAbs ≤ 31 → (gain * z).natAbs ≤ 124 := fun h => by rw [Int.natAbs_mul]; exact Nat.mul_le_mul h4 h
  have B2 : Bd 124 (gain * n) (gain * m) (gain * k) (gain * l) := ⟨bd B.n, bd B.m, bd B.k, bd B.l⟩
  have is := is_gain hg
  exact ⟨L_to B2 (L_gain B is hcc (L_sub B y1 y2 (by decide +kernel)) (by decide +kernel)) (by decide +kernel), L_to B2 (L_gain B is hcc (L_sub B i1 i2 (by decide +kernel)) (by decide +kernel)) (by decide +kernel), L_to B2 (L_gain B is hcc (L_sub B q1 q2 (by decide +kernel)) (by decide +kernel)) (by decide +kernel), B2⟩
theorem near_R (H : Lamps xa xb xc xd n m k l) (hg : gain = 1 ∨ gain = 2 ∨ gain = 3 ∨ gain = 4) : nU (rgbR (dY gain xa xb xc xd) (dI gain xa xb xc xd) (dQ gain xa xb xc xd)) (gain * (n - m) * 2 ^ 180) (2 ^ 148) := by
  obtain ⟨y, i, q, B⟩ := near_d H hg
  have h : nL _ _ _ _ _ (subC uA uB) (2 ^ 148) := L_to B (L_add B (L_add B y (L_mul 1 B is_r1 (by decide) i (by decide +kernel)) (by decide +kernel)) (L_mul 1 B is_r2 (by decide) q (by decide +kernel)) (by decide +kernel)) (by decide +kernel)
  unfold nL at h
  rw [evC_sub, evC_out, evC_out, ← Int.mul_sub] at h
  have e : evC uA n m k l - evC uB n m k l = (n - m) * 2 ^ 180 := by simp [evC, uA, uB, Int.sub_mul, Int.mul_comm]
  rw [e, ← Int.mul_assoc] at h
  exact h
theorem near_G (H : Lamps xa xb xc xd n m k l) (hg : gain = 1 ∨ gain = 2 ∨ gain = 3 ∨ gain = 4) : nU (rgbG (dY gain xa xb xc xd) (dI gain xa xb xc xd) (dQ gain xa xb xc xd)) (gain * (m - k) * 2 ^ 180) (2 ^ 148) := by
  obtain ⟨y, i, q, B⟩ := near_d H hg
  have h : nL _ _ _ _ _ (subC uB uC) (2 ^ 148) := L_to B (L_sub B (L_sub B y (L_mul 1 B is_g1 (by decide) i (by decide +kernel)) (by decide +kernel)) (L_mul 1 B is_g2 (by decide) q (by decide +kernel)) (by decide +kernel)) (by decide +kernel)
  unfold nL at h
  rw [evC_sub, evC_out, evC_out, ← Int.mul_sub] at h
  have e : evC uB n m k l - evC uC n m k l = (m - k) * 2 ^ 180 := by simp [evC, uB, uC, Int.sub_mul, Int.mul_comm]
  rw [e, ← Int.mul_assoc] at h
  exact h
theorem near_B (H : Lamps xa xb xc xd n m k l) (hg : gain = 1 ∨ gain = 2 ∨ gain = 3 ∨ gain = 4) : nU (rgbB (dY gain xa xb xc xd) (dI gain xa xb xc xd) (dQ gain xa xb xc xd)) (gain * (k - l) * 2 ^ 180) (2 ^ 148) := by
  obtain ⟨y, i, q, B⟩ := near_d H hg
  have h : nL _ _ _ _ _ (subC uC uD) (2 ^ 148) := L_to B (L_add B (L_sub B y (L_mul 2 B is_b1 (by decide) i (by decide +kernel)) (by decide +kernel)) (L_mul 2 B is_b2 (by decide) q (by decide +kernel)) (by decide +kernel)) (by decide +kernel)
  unfold nL at h
  rw [evC_sub, evC_out, evC_out, ← Int.mul_sub] at h
  have e : evC uC n m k l - evC uD n m k l = (k - l) * 2 ^ 180 := by simp [evC, uC, uD, Int.sub_mul, Int.mul_comm]
  rw [e, ← Int.mul_assoc] at h
  exact h
end
end Mine
end
section
open PySem PySem.Calls PyProof.Rows
set_option maxRecDepth 100000
set_option maxHeartbeats 2000000
namespace Mine
open PySem.Float64
noncomputable def clm (T : Int) : Int := if T < 0 then 0 else if 32 < T then 32 else T
theorem z_near : (∃ s m ex, decode (0 : UInt64) = .fin s m ex) ∧ val (0 : UInt64) = 0 := ⟨⟨false, 0, -1074, by with_unfolding_all rfl⟩, by decide +kernel⟩
theorem o_near : (∃ s m ex, decode (0x3ff0000000000000 : UInt64) = .fin s m ex) ∧ val (0x3ff0000000000000 : UInt64) = 32 * 2 ^ 180 * uU := ⟨⟨false, 2 ^ 52, -52, by with_unfolding_all rfl⟩, by decide +kernel⟩
theorem nU_zero {e : Int} (h : 0 ≤ e) : nU 0 0 e := ⟨z_near.1, by rw [z_near.2, Int.zero_mul]; have := Int.mul_nonneg h (Int.le_of_lt uU_pos); omega, by rw [z_near.2, Int.zero_mul]; have := Int.mul_nonneg h (Int.le_of_lt uU_pos); omega⟩
theorem grid {U e v T c : Int} (he : 2 * e < U) (h1 : T * U - e ≤ v) (h2 : v ≤ T * U + e) : (v ≤ c * U → T ≤ c) ∧ (c * U ≤ v → c ≤ T) := by
  have hU : 0 ≤ U := by omega
  refine ⟨fun h => Int.not_lt.mp fun q => ?_, fun h => Int.not_lt.mp fun q => ?_⟩
  · have k : (c + 1) * U ≤ T * U := Int.mul_le_mul_of_nonneg_right q hU
    rw [Int.add_mul, Int.one_mul] at k
    clear q hU; omega
  · have k : (T + 1) * U ≤ c * U := Int.mul_le_mul_of_nonneg_right q hU
    rw [Int.add_mul, Int.one_mul] at k
    clear q hU; omega
theorem clm_lo {T : Int} (h : T ≤ 0) : clm T = 0 := by unfold clm; split <;> (try split) <;> omega
theorem clm_mid {T : Int} (h : 0 ≤ T) (h2 : T ≤ 32) : clm T = T := by unfold clm; rw [if_neg (Int.not_lt.mpr h), if_neg (Int.not_lt.mpr h2)]
theorem clm_hi {T : Int} (h : 32 ≤ T) : clm T = 32 := by unfold clm; split <;> (try split) <;> omega
theorem near_clamp {x : UInt64} {T : Int} (h : nU x (T * 2 ^ 180) (2 ^ 148)) : nU (hi1 (lo0 x)) (clm T * 2 ^ 180) (2 ^ 148) := by
  have hn := h
  obtain ⟨⟨s, m, ex, hd⟩, h1, h2⟩ := h
  obtain ⟨⟨s0, m0, e0, hd0⟩, v0⟩ := z_near
  obtain ⟨⟨s1, m1, e1, hd1⟩, v1⟩ := o_near
  have u := uU_pos
  have U2 : 2 * (2 ^ 148 * uU) < 2 ^ 180 * uU := by clear h1 h2 v1; omega
  rw [Int.mul_assoc] at h1 h2 v1
  have g := fun c => grid (c := c) U2 h1 h2
  unfold lo0
  rw [cmp_right hd hd0, v0]
  by_cases hx : val x < 0
  · rw [Int.compare_eq_lt.mpr hx, if_pos (by decide), show hi1 0 = 0 from by decide +kernel, clm_lo ((g 0).1 (by rw [Int.zero_mul]; exact Int.le_of_lt hx)), Int.zero_mul]
    exact nU_zero (by decide)
  · rw [if_neg fun q => hx (Int.compare_eq_lt.mp (Option.some.inj (eq_of_beq q)))]
    have hT := (g 0).2 (by rw [Int.zero_mul]; exact Int.not_lt.mp hx)
    unfold hi1
    rw [cmp_right hd hd1, v1]
    by_cases hy : 32 * (2 ^ 180 * uU) < val x
    · rw [Int.compare_eq_gt.mpr hy, if_pos (by decide), clm_hi ((g 32).2 (Int.le_of_lt hy))]
      refine ⟨⟨_, _, _, hd1⟩, ?_, ?_⟩ <;> rw [v1, Int.mul_assoc]
      · exact Int.sub_le_self _ (Int.mul_nonneg (by decide) (Int.le_of_lt u))
      · exact Int.le_add_of_nonneg_right (Int.mul_nonneg (by decide) (Int.le_of_lt u))
    · rw [if_neg fun q => hy (Int.compare_eq_gt.mp (Option.some.inj (eq_of_beq q))), clm_mid hT ((g 32).1 (Int.not_lt.mp hy))]
      exact hn
end Mine
end
section
open PySem PySem.Calls PyProof.Rows
set_option maxRecDepth 100000
set_option maxHeartbeats 2000000
set_option exponentiation.threshold 3000
namespace Mine
open PySem.Float64
theorem half_is {n d N : Nat} (hd : 0 < d) (h : 2 * Float64.dist n (d * N) < d) : halfEven n d = N := by
  have h1 := halfEven_nearest n d hd N
  generalize halfEven n d = q at *
  unfold Float64.dist at *
  rcases Nat.lt_trichotomy q N with p | p | p
  · exfalso
    have : d * (q + 1) ≤ d * N := Nat.mul_le_mul_left _ p
    rw [Nat.mul_add, Nat.mul_one] at this
    omega
  · exact p
  · exfalso
    have : d * (N + 1) ≤ d * q := Nat.mul_le_mul_left _ p
    rw [Nat.mul_add, Nat.mul_one] at this
    (clear p; omega)
theorem round_is {z : UInt64} {N : Nat} {e : Int} (h : near z ((N : Int) * ((2 ^ 1074 : Nat) : Int)) e) (he : 2 * e < ((2 ^ 1074 : Nat) : Int)) : PySem.Flt.toInt nearestOf z = N := by
  obtain ⟨⟨s, m, ex, hd⟩, h1, h2⟩ := h
  unfold PySem.Flt.toInt
  rw [hd]
  show sgn s (halfEven (shift m 1 ex).1 (shift m 1 ex).2) = N
  have hdp := shift_pos m 1 ex (by decide)
  have hs := shift_one m ex 1074 (by have := decode_ge hd; (clear he hd h1 h2 hdp; omega))
  rw [val_eq hd] at h1 h2
  generalize (shift m 1 ex).1 = a at *
  generalize (shift m 1 ex).2 = d at *
  generalize m * 2 ^ (ex + ((1074 : Nat) : Int)).toNat = M at *
  have hP : (0 : Nat) < 2 ^ 1074 := Nat.two_pow_pos _
  generalize (2 : Nat) ^ 1074 = P at *
  have hNP : N = 0 ∨ (P : Int) ≤ (N : Int) * P := by
    rcases Nat.eq_zero_or_pos N with q | q
    · exact .inl q
    · right
      have := Nat.mul_le_mul_right P q
      rw [Nat.one_mul] at this
      have h := Int.ofNat_le.mpr this
      rwa [Int.natCast_mul] at h
  have key : 2 * Float64.dist M (N * P) < P ∧ (s = true → N = 0) := by
    have e1 : ((N * P : Nat) : Int) = (N : Int) * P := Int.natCast_mul ..
    unfold Float64.dist
    cases s
    · have e2 : sgn false M = M := rfl
      rw [e2] at h1 h2
      refine ⟨by (clear hdp hs hP hNP e1 hd; omega), fun h => by cases h⟩
    · have e2 : sgn true M = -(M : Int) := rfl
      rw [e2] at h1 h2
      have : N = 0 := by (clear hdp hs hP e1 hd; omega)
      subst this
      refine ⟨by (clear hdp hs hd e2 hNP e1 h2; omega), fun _ => rfl⟩
  have hD : 2 * Float64.dist a (d * N) < d := by
    have e1 : P * Float64.dist a (d * N) = d * Float64.dist M (N * P) := by
      rw [← dist_mul, ← dist_mul, Nat.mul_comm P a, hs, show P * (d * N) = d * (N * P) by ac_rfl, Nat.mul_comm M d]
    have e2 : d * (2 * Float64.dist M (N * P)) < d * P := Nat.mul_lt_mul_of_pos_left key.1 hdp
    have e3 : P * (2 * Float64.dist a (d * N)) < P * d := by
      rw [show P * (2 * Float64.dist a (d * N)) = 2 * (P * Float64.dist a (d * N)) by ac_rfl, e1, show 2 * (d * Float64.dist M (N * P)) = d * (2 * Float64.dist M (N * P)) by ac_rfl, Nat.mul_comm P d]
      exact e2
    exact Nat.lt_of_mul_lt_mul_left e3
  rw [half_is hdp hD]
  cases s
  · rfl
  · rw [key.2 rfl]; rfl
theorem is_25 : (∃ s m ex, decode (ofInt ((2 : Int) ^ (25 : Int).toNat)) = .fin s m ex) ∧ val (ofInt ((2 : Int) ^ (25 : Int).toNat)) = 2 ^ 85 * ((2 ^ 1014 : Nat) : Int) := ⟨⟨false, 2 ^ 52, -27, by with_unfolding_all rfl⟩, by decide +kernel⟩
theorem scaled_is {x : UInt64} {T : Int} (h : nU x (T * 2 ^ 180) (2 ^ 148)) (t0 : 0 ≤ T) (t1 : T ≤ 32) : isFinite (Mine.scaled x) = true ∧ rnd x = 2 ^ 20 * T := by
  have e1 : T * 2 ^ 180 * uU = (T * 2 ^ 120 * uU) * ((2 ^ 60 : Nat) : Int) := by
    rw [show ((2 ^ 60 : Nat) : Int) = 2 ^ 60 from rfl]
    have : T * 2 ^ 180 = T * 2 ^ 120 * 2 ^ 60 := by omega
    rw [this]; ac_rfl
  have hy : near x ((T * 2 ^ 120 * uU) * ((2 ^ 60 : Nat) : Int)) (2 ^ 148 * uU) := e1 ▸ h
  have hs := near_mulc (cc := 2 ^ 25) (k := 1047) is_25.1 is_25.2 (by decide) hy (by decide) (by
    rw [← e1, Int.natAbs_mul (T * 2 ^ 180), Int.natAbs_mul (2 ^ 148), uU_abs, ← Nat.mul_assoc, ← Nat.mul_assoc, ← Nat.add_mul]
    have e : (2 : Nat) ^ 1047 * 2 ^ 53 = 2 ^ 211 * 2 ^ 889 := by rw [← Nat.pow_add]
    rw [e]
    exact Nat.mul_lt_mul_of_pos_right (by (clear h e1 hy e; omega)) (Nat.two_pow_pos _))
  have hs' : near (Mine.scaled x) ((2 ^ 85 : Int) * (T * 2 ^ 120 * uU)) (((2 ^ 25 : Nat) : Int) * (2 ^ 148 * uU) + ((2 ^ 1047 : Nat) : Int)) := hs
  refine ⟨near_fin hs', ?_⟩
  have eN : (2 ^ 85 : Int) * (T * 2 ^ 120 * uU) = (((2 ^ 20 * T).toNat : Nat) : Int) * ((2 ^ 1074 : Nat) : Int) := by
    rw [Int.toNat_of_nonneg (by omega)]
    have e2 : ((2 ^ 1074 : Nat) : Int) = 2 ^ 185 * uU := by
      unfold uU
      rw [show (1074 : Nat) = 185 + 889 from rfl, Nat.pow_add, Int.natCast_mul]; rfl
    rw [e2]
    have e3 : (2 ^ 85 : Int) * (T * 2 ^ 120 * uU) = (2 ^ 85 * (T * 2 ^ 120)) * uU := by ac_rfl
    have e4 : 2 ^ 20 * T * (2 ^ 185 * uU) = (2 ^ 20 * T * 2 ^ 185) * uU := by ac_rfl
    rw [e3, e4]
    congr 1
    omega
  rw [eN] at hs'
  have := round_is hs' (by
    have e2 : ((2 ^ 1074 : Nat) : Int) = 2 ^ 185 * uU := by
      unfold uU
      rw [show (1074 : Nat) = 185 + 889 from rfl, Nat.pow_add, Int.natCast_mul]; rfl
    have e3 : ((2 ^ 1047 : Nat) : Int) = 2 ^ 158 * uU := by
      unfold uU
      rw [show (1047 : Nat) = 158 + 889 from rfl, Nat.pow_add, Int.natCast_mul]; rfl
    rw [e2, e3]
    have := uU_pos
    rw [show ((2 ^ 25 : Nat) : Int) = 2 ^ 25 from rfl]
    (clear h t0 t1 e1 hy hs hs' eN e3 this; omega))
  unfold rnd
  rw [this, Int.toNat_of_nonneg (by omega)]
end Mine
end
section
open PySem PySem.Calls PyProof.Rows
set_option maxRecDepth 100000
set_option maxHeartbeats 2000000
namespace Mine
theorem lamp_nU {dark bright c : Int} (d0 : 0 ≤ dark) (d1 : dark ≤ 15) (b0 : 1 ≤ bright) (b1 : bright ≤ 16) (hc : c = 0 ∨ c = 1) :
    nU (lampF dark bright c) ((dark + bright * c) * 2 ^ 180) 0 ∧ 0 ≤ dark + bright * c ∧ dark + bright * c ≤ 31 := by
  have h0 : 0 ≤ dark + bright * c ∧ dark + bright * c ≤ 31 := by rcases hc with rfl | rfl <;> omega
  refine ⟨?_, h0⟩
  have e : lampF dark bright c = Float64.ofFrac false (dark + bright * c).natAbs 32 := by
    unfold lampF
    rw [decide_eq_false (by omega)]; rfl
  rw [e]
  obtain ⟨h1, h2⟩ := lamp_near ⟨(dark + bright * c).natAbs, by omega⟩
  dsimp only at h1 h2
  have e2 : (((dark + bright * c).natAbs : Nat) : Int) = dark + bright * c := by (clear d0 d1 b0 b1 hc e h1 h2; omega)
  rw [e2] at h2
  refine ⟨?_, ?_, ?_⟩
  · unfold Float64.isFinite at h1
    cases hd : Float64.decode (Float64.ofFrac false (dark + bright * c).natAbs 32) with
    | fin s m ex => exact ⟨s, m, ex, rfl⟩
    | nan => rw [hd] at h1; cases h1
    | inf s => rw [hd] at h1; cases h1
  · rw [h2, Int.zero_mul, Int.sub_zero]; exact Int.le_refl _
  · rw [h2, Int.zero_mul, Int.add_zero]; exact Int.le_refl _
theorem clm_jmp {dark bright gain a b : Int} (b0 : 1 ≤ bright) (g0 : 1 ≤ gain) (ha : a = 0 ∨ a = 1) (hb : b = 0 ∨ b = 1) : 2 ^ 20 * clm (gain * ((dark + bright * a) - (dark + bright * b))) = topG bright gain * jmp a b := by
  have hp : 0 < gain * bright := Int.mul_pos (by omega) (by omega)
  have e20 : (2 : Int) ^ 20 = 1048576 := by decide
  have e : (dark + bright * a) - (dark + bright * b) = bright * (a - b) := by rw [Int.mul_sub]; (clear b0 g0 ha hb hp e20; omega)
  rw [e, ← Int.mul_assoc]
  unfold topG jmp clm
  rw [e20]
  generalize gain * bright = x at *
  rcases ha with rfl | rfl <;> rcases hb with rfl | rfl
  · simp
  · simp; omega
  · simp; split <;> split <;> (try split) <;> omega
  · simp
theorem flt_core {dark bright gain a b c d : Int} (d0 : 0 ≤ dark) (d1 : dark ≤ 15) (b0 : 1 ≤ bright) (b1 : bright ≤ 16) (g0 : 1 ≤ gain) (g1 : gain ≤ 4)
    (ha : a = 0 ∨ a = 1) (hb : b = 0 ∨ b = 1) (hc : c = 0 ∨ c = 1) (hd : d = 0 ∨ d = 1) :
    (Float64.isFinite (scaled (kR gain (lampF dark bright a) (lampF dark bright b) (lampF dark bright c) (lampF dark bright d))) = true ∧ rnd (kR gain (lampF dark bright a) (lampF dark bright b) (lampF dark bright c) (lampF dark bright d)) = topG bright gain * jmp a b) ∧
    (Float64.isFinite (scaled (kG gain (lampF dark bright a) (lampF dark bright b) (lampF dark bright c) (lampF dark bright d))) = true ∧ rnd (kG gain (lampF dark bright a) (lampF dark bright b) (lampF dark bright c) (lampF dark bright d)) = topG bright gain * jmp b c) ∧
    (Float64.isFinite (scaled (kB gain (lampF dark bright a) (lampF dark bright b) (lampF dark bright c) (lampF dark bright d))) = true ∧ rnd (kB gain (lampF dark bright a) (lampF dark bright b) (lampF dark bright c) (lampF dark bright d)) = topG bright gain * jmp c d) := by
  have hg : gain = 1 ∨ gain = 2 ∨ gain = 3 ∨ gain = 4 := by omega
  obtain ⟨la, a0, a1⟩ := lamp_nU d0 d1 b0 b1 ha
  obtain ⟨lb, c0, c1⟩ := lamp_nU d0 d1 b0 b1 hb
  obtain ⟨lc, e0, e1⟩ := lamp_nU d0 d1 b0 b1 hc
  obtain ⟨ld, f0, f1⟩ := lamp_nU d0 d1 b0 b1 hd
  have ab : ∀ {z : Int}, 0 ≤ z → z ≤ 31 → z.natAbs ≤ 31 := by (clear d0 d1 b0 b1 g0 g1 ha hb hc hd hg la a0 a1 lb c0 c1 lc e0 e1 ld f0 f1; omega)
  have H : Lamps _ _ _ _ _ _ _ _ := ⟨la, lb, lc, ld, ab a0 a1, ab c0 c1, ab e0 e1, ab f0 f1⟩
  have cl : ∀ T, 0 ≤ clm T ∧ clm T ≤ 32 := fun T => by unfold clm; split <;> (try split) <;> (clear d0 d1 b0 b1 g0 g1 ha hb hc hd hg la a0 a1 lb c0 c1 lc e0 e1 ld f0 f1 ab H; omega)
  have r1 := scaled_is (near_clamp (near_R H hg)) (cl _).1 (cl _).2
  have r2 := scaled_is (near_clamp (near_G H hg)) (cl _).1 (cl _).2
  have r3 := scaled_is (near_clamp (near_B H hg)) (cl _).1 (cl _).2
  rw [clm_jmp b0 g0 ha hb] at r1
  rw [clm_jmp b0 g0 hb hc] at r2
  rw [clm_jmp b0 g0 hc hd] at r3
  exact ⟨r1, r2, r3⟩
end Mine
end
section
open PySem PySem.Calls PyProof.Rows
namespace Mine
theorem lmp_map {R : List Int} (hn : 0 < R.length) (dark bright : Int) (i : Int) : lmp (R.map (lampF dark bright)) i = lampF dark bright (at_ R i) := by
  have h := fmod_abs (a := i) (b := R.length) (by omega)
  unfold lmp at_
  rw [List.length_map, List.getD_eq_getElem?_getD, List.getD_eq_getElem?_getD, List.getElem?_map, List.getElem?_eq_getElem (by omega)]
  rfl
theorem floL_map {gain : Int} {L : List UInt64} {f : Int → Int} : ∀ m, (∀ i : Nat, i < m → flo3 gain L (3 * (i : Int)) = [f (3 * (i : Int)), f (3 * (i : Int) + 1), f (3 * (i : Int) + 2)]) → floL gain L m = (List.range (3 * m)).map fun (s : Nat) => f s
  | 0, _ => rfl
  | m + 1, h => by
    show floL gain L m ++ flo3 gain L (3 * (m : Int)) = _
    rw [floL_map m fun i hi => h i (by omega), h m (by omega), show 3 * (m + 1) = 3 * m + 1 + 1 + 1 from by omega, List.range_succ, List.range_succ, List.range_succ]
    simp only [List.map_append, List.append_assoc]
    rfl
section
variable {rd : List Int}
theorem cols {dark bright gain : Int} (hn : 0 < rd.length) (h01 : ∀ i, at_ rd i = 0 ∨ at_ rd i = 1) (h : Nat) (i : Int) :
    colR gain ((carsL rd h).map (lampF dark bright)) i = kR gain (lampF dark bright (rr rd h (i - 1))) (lampF dark bright (rr rd h i)) (lampF dark bright (rr rd h (i + 1))) (lampF dark bright (rr rd h (i + 2))) ∧
    colG gain ((carsL rd h).map (lampF dark bright)) i = kG gain (lampF dark bright (rr rd h (i - 1))) (lampF dark bright (rr rd h i)) (lampF dark bright (rr rd h (i + 1))) (lampF dark bright (rr rd h (i + 2))) ∧
    colB gain ((carsL rd h).map (lampF dark bright)) i = kB gain (lampF dark bright (rr rd h (i - 1))) (lampF dark bright (rr rd h i)) (lampF dark bright (rr rd h (i + 1))) (lampF dark bright (rr rd h (i + 2))) := by
  have hl : 0 < (carsL rd h).length := by simpa [carsL] using hn
  have e : ∀ j, lmp ((carsL rd h).map (lampF dark bright)) j = lampF dark bright (rr rd h j) := fun j => by rw [lmp_map hl, at_cars hn h01]
  unfold colR colG colB kR kG kB mY mI mQ dY dI dQ
  rw [e, e, e, e]
  exact ⟨rfl, rfl, rfl⟩
theorem flow_flt {dark bright gain : Int} {m : Nat} (hm : rd.length = 3 * m) (hm1 : 1 ≤ m) (h01 : ∀ i, at_ rd i = 0 ∨ at_ rd i = 1) (d0 : 0 ≤ dark) (d1 : dark ≤ 15) (b0 : 1 ≤ bright) (b1 : bright ≤ 16) (g0 : 1 ≤ gain) (g1 : gain ≤ 4) (h : Nat) :
    floL gain ((carsL rd h).map (lampF dark bright)) m = flowP rd (topG bright gain) h ∧
    ∀ i : Nat, i < m → ∀ x ∈ [colR gain ((carsL rd h).map (lampF dark bright)) (3 * (i : Int)), colG gain ((carsL rd h).map (lampF dark bright)) (3 * (i : Int)), colB gain ((carsL rd h).map (lampF dark bright)) (3 * (i : Int))], Float64.isFinite (scaled x) = true := by
  have hn : 0 < rd.length := by omega
  have core := fun i : Int => flt_core (dark := dark) (bright := bright) (gain := gain) d0 d1 b0 b1 g0 g1 (rr_01 h01 h (i - 1)) (rr_01 h01 h i) (rr_01 h01 h (i + 1)) (rr_01 h01 h (i + 2))
  refine ⟨?_, fun i _ x hx => ?_⟩
  · unfold flowP
    rw [hm]
    refine floL_map (f := fun s => topG bright gain * crr (rr rd h) s) m fun i _ => ?_
    obtain ⟨⟨_, c1⟩, ⟨_, c2⟩, _, c3⟩ := core (3 * (i : Int))
    obtain ⟨k1, k2, k3⟩ := cols (dark := dark) (bright := bright) (gain := gain) hn h01 h (3 * (i : Int))
    unfold flo3
    rw [k1, k2, k3, c1, c2, c3]
    have e2 : 3 * (i : Int) + 1 - 1 = 3 * (i : Int) := by (clear hm hm1 h01 d0 d1 b0 b1 g0 g1 hn core c1 c2 c3 k1 k2 k3; omega)
    have e3 : 3 * (i : Int) + 2 - 1 = 3 * (i : Int) + 1 := by (clear hm hm1 h01 d0 d1 b0 b1 g0 g1 hn core c1 c2 c3 k1 k2 k3 e2; omega)
    unfold crr jmp
    rw [e2, e3]
  · obtain ⟨⟨c1, _⟩, ⟨c2, _⟩, c3, _⟩ := core (3 * (i : Int))
    obtain ⟨k1, k2, k3⟩ := cols (dark := dark) (bright := bright) (gain := gain) hn h01 h (3 * (i : Int))
    rw [k1, k2, k3] at hx
    simp only [List.mem_cons, List.not_mem_nil, or_false] at hx
    rcases hx with rfl | rfl | rfl
    · exact c1
    · exact c2
    · exact c3
end
theorem at_mem {l : List Int} (hn : 0 < l.length) (i : Int) : at_ l i ∈ l := by
  have h := fmod_abs (a := i) (b := l.length) (by omega)
  unfold at_
  rw [List.getD_eq_getElem?_getD, List.getElem?_eq_getElem (by omega)]
  exact List.getElem_mem _
theorem top_bd {x : Int} (h : 0 < x) : 0 < (2 : Int) ^ 20 * (if x < 32 then x else 32) ∧ (2 : Int) ^ 20 * (if x < 32 then x else 32) < 1073741824 := by
  have e : (2 : Int) ^ 20 = 1048576 := by decide
  rw [e]
  split
  · constructor <;> omega
  · decide
theorem plain (sc : List Int) : ∃ m, LawOk (roadL sc) (stonL sc) m ((totL sc).fmod 16) (brigL sc) (gainL sc) (topL sc) := by
  have h6 : (drawn6 sc).length ≤ 6 := by unfold drawn6; simp; omega
  have hA : (drawnA sc).length = (drawn6 sc).length + 6 := by unfold drawnA; simp
  have hD : (drawnL sc).length = (drawnA sc).length + ((-((drawnA sc).length : Int)).fmod 3).toNat := by
    unfold drawnL
    rw [List.length_append, List.length_flatten]; simp
  have hpad : (-((drawnA sc).length : Int)).fmod 3 = (-((drawnA sc).length : Int)) % 3 := Int.fmod_eq_emod_of_nonneg _ (by decide)
  have hrl : (roadL sc).length = (drawnL sc).length := by simp [roadL]
  have hsl : (stonL sc).length = (drawnL sc).length := by simp [stonL]
  have hlen : ∃ m : Nat, (drawnL sc).length = 3 * m ∧ 1 ≤ m ∧ m ≤ 4 := by
    rw [hpad] at hD
    refine ⟨(drawnL sc).length / 3, ?_⟩
    have key : ∀ A : Nat, A < 13 → 6 ≤ A → A + ((-(A : Int)) % 3).toNat = 3 * ((A + ((-(A : Int)) % 3).toNat) / 3) ∧ 1 ≤ (A + ((-(A : Int)) % 3).toNat) / 3 ∧ (A + ((-(A : Int)) % 3).toNat) / 3 ≤ 4 := by decide +kernel
    rw [hD]
    exact key _ (by omega) (by omega)
  obtain ⟨m, hm, hm1, hm2⟩ := hlen
  have hn : 0 < (roadL sc).length := by omega
  have hns : 0 < (stonL sc).length := by omega
  have h01 : ∀ i, at_ (roadL sc) i = 0 ∨ at_ (roadL sc) i = 1 := fun i => by
    have h := at_mem hn i
    unfold roadL at h
    obtain ⟨x, _, e⟩ := List.mem_map.mp h
    have := fmod_abs (a := x) (b := 2) (by decide)
    have e' : at_ (roadL sc) i = x.fmod 2 := e.symm
    rw [e']; (clear h6 hA hD hpad hrl hsl hm hm1 hm2 hn hns h; omega)
  have hst : ∀ i, 0 ≤ at_ (stonL sc) i ∧ at_ (stonL sc) i ≤ 9 := fun i => by
    have h := at_mem hns i
    unfold stonL at h
    obtain ⟨x, _, e⟩ := List.mem_map.mp h
    have := fmod_abs (a := x.fdiv 2) (b := 10) (by decide)
    have e' : at_ (stonL sc) i = (x.fdiv 2).fmod 10 := e.symm
    rw [e']; (clear h6 hA hD hpad hrl hsl hm hm1 hm2 hn hns h01 h; omega)
  have hd := fmod_abs (a := totL sc) (b := 16) (by decide)
  have hb := fmod_abs (a := (totL sc).fdiv 16) (b := 16) (by decide)
  have hg := fmod_abs (a := (totL sc).fdiv 256) (b := 4) (by decide)
  have b0 : 1 ≤ brigL sc := by unfold brigL; (clear h6 hA hD hpad hrl hsl hm hm1 hm2 hn hns h01 hst hd hg; omega)
  have b1 : brigL sc ≤ 16 := by unfold brigL; (clear h6 hA hD hpad hrl hsl hm hm1 hm2 hn hns h01 hst hd hg b0; omega)
  have g0 : 1 ≤ gainL sc := by unfold gainL; (clear h6 hA hD hpad hrl hsl hm hm1 hm2 hn hns h01 hst hd hb b0 b1; omega)
  have g1 : gainL sc ≤ 4 := by unfold gainL; (clear h6 hA hD hpad hrl hsl hm hm1 hm2 hn hns h01 hst hd hb b0 b1 g0; omega)
  have tb := top_bd (Int.mul_pos (show 0 < gainL sc from g0) (show 0 < brigL sc from b0))
  have t0 : 0 < topL sc := tb.1
  have t1 : topL sc < 1073741824 := tb.2
  have F := flow_flt (rd := roadL sc) (m := m) (by (clear h6 hA hm1 hm2 hn hns h01 hst hd hb hg b0 b1 g0 g1 tb t0 t1; omega)) hm1 h01 hd.1 (by (clear h6 hA hD hpad hrl hsl hm hm1 hm2 hn hns h01 hst hb hg b0 b1 g0 g1 tb t0 t1; omega) : (totL sc).fmod 16 ≤ 15) b0 b1 g0 g1
  have et : topG (brigL sc) (gainL sc) = topL sc := rfl
  rw [et] at F
  exact ⟨m, ⟨by omega, hm1, hm2, by (clear h6 hA hm hm1 hm2 hn hns h01 hst hd hb hg b0 b1 g0 g1 tb t0 t1 F et; omega), fun i => (hst i).1, fun i => (hst i).2, hd.1, by (clear h6 hA hD hpad hrl hsl hm hm1 hm2 hn hns h01 hst hb hg b0 b1 g0 g1 tb t0 t1 F et; omega), b0, b1, g0, g1, t0, t1, cars_zero h01, cross_zero h01, fun h _ i => by rw [at_cars hn h01]; exact rr_01 h01 h i,
    fun h _ => (F h).2, fun h _ => by rw [(F h).1, flow_eq h01], fun h _ => by rw [(F h).1]; exact seen_eq hn h01 t0 h, fun h _ => led_eq hn h01 _ h, fun h _ => num_eq hn h01 h, fun h _ => spel_eq hn h01 h⟩⟩
end Mine
end
open PySem PySem.W PyProof.Rows
namespace Mine
set_option maxHeartbeats 8000000 in
theorem joined : PySem.Challenge.rw_wu0006_01.Holds := by
  w_on
  o_law
  k_head
  case hw => w_witness2
  intro w s₀ s₁ mg mb G Y fa o pm cd doc dV kV ho hdt hcd hD hmg hg args vals as hpre hlay hrd hwl hlo
  refine Ground.open G ?_
  intro T B D TE TW
  wrow_args hpre hlay hrd hwl hlo
  rename_i sc _ _ _ _ _ _ _ l its _ hL _ _ _ hI _ hlen _
  have good : ∀ h' tk, (∀ b o, s₁.heap.get? b = some o → h'.get? b = some o) → GoodWG PySem.Challenge.rw_wu0006_01.row.claim (classAt s₀.heap) (ExcName.means s₀.heap) [ofPy (.list (sc.map PyData.int))] s₁ (.ok (.ret (.bool true))) { s₁ with heap := h', toks := tk } := fun h' tk k =>
    ⟨.inl ⟨.bool true, .bool true, [], rfl, fun _ => rfl, .bool true, by wrow_post, fun _ => ⟨List.nodup_nil, fun _ h => nomatch h⟩⟩, .of_keep k, rfl, .of_eq hg⟩
  refine ⟨good s₁.heap s₁.toks fun _ _ e => e, ?_⟩
  have he := Dflts.none hD rfl
  subst he
  have he2 := Dflts.kw_none hD rfl
  subst he2
  obtain ⟨m, K⟩ := plain sc
  refine law_call (m := m) (pm := pm) (cd := cd) (doc := doc) (by omega) K (glo_of T _ _ ?_ ?_ ?_) ho ?_ ?_ hL hI _ _ fun h' tk k => good h' tk k
  · have e : ∀ ds : List DefRow, ds = [rw_ 1, rw_ 2, rw_ 7, rw_ 9, rw_ 11, rw_ 12, rw_ 13, rw_ 14, rw_ 15, rw_ 16, rw_ 17] → ∀ r ∈ (CC w).defs, r ∈ ds := fun ds e r hr => by
      rw [e]
      exact List.mem_append_left [rw_ 17] hr
    exact e _ (by with_unfolding_all rfl)
  · intro x hx
    have hx' : x ∈ bltN := hx
    simp only [bltN, List.mem_cons, List.not_mem_nil, or_false] at hx'
    rcases hx' with rfl | rfl | rfl | rfl | rfl | rfl | rfl | rfl | rfl | rfl | rfl | rfl <;> exact T.free _ (by decide +kernel) (by decide +kernel) (by decide +kernel) (by decide +kernel) (by decide +kernel)
  · exact (by decide +kernel : ∀ x ∈ bltN, x ≠ Str.ofString "__name__")
  · exact hdt
  · exact hcd
end Mine
set_option maxRecDepth 100000 in
set_option maxHeartbeats 8000000 in
theorem PySem.Challenge.cw_wu0006_01_holds : PySem.Challenge.rw_wu0006_01.Holds := by
  exact Mine.joined
