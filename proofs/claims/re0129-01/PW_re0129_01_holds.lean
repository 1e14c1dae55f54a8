import PyProof.Rows.All
import Wide.All
import OpenK.AllK
import Wide.FinOn
import PySem.Challenge.RW_re0129_01
set_option Elab.async false
set_option linter.unusedVariables false
set_option linter.unusedSimpArgs false

/- L0 -/
section
open PySem
namespace Mine
structure Wd where
  prog : Program
  w : World
  h1 : Heap
  mg : Str → Option Value
  mb : Str → Option Value
abbrev Fz := Addr → Option Obj
def Fz.le (F F' : Fz) : Prop := ∀ a o, F a = some o → F' a = some o
theorem Fz.le.refl (F : Fz) : F.le F := fun _ _ e => e
theorem Fz.le.trans {F F' F'' : Fz} (x : F.le F') (y : F'.le F'') : F.le F'' := fun a o e => y a o (x a o e)
def Fz.put (F : Fz) (a : Addr) (o : Obj) : Fz := fun b => if b = a then some o else F b
theorem Fz.put_self (F : Fz) (a : Addr) (o : Obj) : F.put a o a = some o := if_pos rfl
theorem Fz.put_ne (F : Fz) {a b : Addr} (o : Obj) (h : b ≠ a) : F.put a o b = F b := if_neg h
def SubH (F : Fz) (h : Heap) : Prop := ∀ a o, F a = some o → h.get? a = some o
inductive D where
  | val (v : Value)
  | int (i : Int)
  | str (s : Str)
  | list (ds : List D)
  | tup (ds : List D)
  | dict (ks : List Str) (ds : List D)
  | hdr (ds : List D)
  | inst (l : Addr)
  | rng (a b c : Int)
abbrev lstObj (vs : List Value) (n : Nat) : Obj := { cls := .type "list", data := .seq vs.toArray n }
abbrev tupObj (vs : List Value) (n : Nat) : Obj := { cls := .type "tuple", data := .seq vs.toArray n }
def MapObj (W : Wd) (o : Obj) (kvs : List (Str × Value)) : Prop := o.IsDictOf (strKind W.prog W.w) kvs
/-- the address of the class Headers -/
def hdrCls : Addr := 210
abbrev hdrObj (dx : Addr) : Obj := { cls := .ref hdrCls, dict := some dx, data := .plain }
mutual
def Rd (W : Wd) (F : Fz) : D → Value → Prop
  | .val v, u => u = v
  | .int i, u => ∃ t, u = .int i t
  | .str s, u => ∃ t, u = .str s t
  | .list ds, u => ∃ a vs n, u = .ref a ∧ F a = some (lstObj vs n) ∧ Rds W F ds vs
  | .tup ds, u => ∃ a vs n, u = .ref a ∧ F a = some (tupObj vs n) ∧ Rds W F ds vs
  | .dict ks ds, u => ∃ a o vs, u = .ref a ∧ F a = some o ∧ MapObj W o (ks.zip vs) ∧ Rds W F ds vs
  | .hdr ds, u => ∃ a dx od l vs n t, u = .ref a ∧ F a = some (hdrObj dx) ∧ F dx = some od ∧ od.data = .dict #[⟨PyData.keyHash W.w.params (Str.ofString "_headers"), .str (Str.ofString "_headers") t, .ref l⟩] 1 ∧ F l = some (lstObj vs n) ∧ Rds W F ds vs
  | .inst l, u => ∃ a dx od t, u = .ref a ∧ F a = some (hdrObj dx) ∧ F dx = some od ∧ od.data = .dict #[⟨PyData.keyHash W.w.params (Str.ofString "_headers"), .str (Str.ofString "_headers") t, .ref l⟩] 1
  | .rng a b c, u => ∃ r t t' t'', u = .ref r ∧ F r = some { cls := .type "range", data := .fields #[.int a t, .int b t', .int c t''] }
def Rds (W : Wd) (F : Fz) : List D → List Value → Prop
  | [], [] => True
  | d :: ds, v :: vs => Rd W F d v ∧ Rds W F ds vs
  | _, _ => False
end
mutual
theorem Rd.mono {W : Wd} {F F' : Fz} (h : F.le F') : ∀ {d : D} {v : Value}, Rd W F d v → Rd W F' d v
  | .val _, _, x => by simpa only [Rd] using x
  | .int _, _, x => by simpa only [Rd] using x
  | .str _, _, x => by simpa only [Rd] using x
  | .list _, _, x => by
    simp only [Rd] at x ⊢
    obtain ⟨a, vs, n, e, ho, r⟩ := x
    exact ⟨a, vs, n, e, h _ _ ho, Rds.mono h r⟩
  | .tup _, _, x => by
    simp only [Rd] at x ⊢
    obtain ⟨a, vs, n, e, ho, r⟩ := x
    exact ⟨a, vs, n, e, h _ _ ho, Rds.mono h r⟩
  | .dict _ _, _, x => by
    simp only [Rd] at x ⊢
    obtain ⟨a, o, vs, e, ho, m, r⟩ := x
    exact ⟨a, o, vs, e, h _ _ ho, m, Rds.mono h r⟩
  | .hdr _, _, x => by
    simp only [Rd] at x ⊢
    obtain ⟨a, dx, od, l, vs, n, t, e, h1, h2, h3, h4, r⟩ := x
    exact ⟨a, dx, od, l, vs, n, t, e, h _ _ h1, h _ _ h2, h3, h _ _ h4, Rds.mono h r⟩
  | .inst _, _, x => by
    simp only [Rd] at x ⊢
    obtain ⟨a, dx, od, t, e, h1, h2, h3⟩ := x
    exact ⟨a, dx, od, t, e, h _ _ h1, h _ _ h2, h3⟩
  | .rng _ _ _, _, x => by
    simp only [Rd] at x ⊢
    obtain ⟨r, t, t', t'', e, ho⟩ := x
    exact ⟨r, t, t', t'', e, h _ _ ho⟩
theorem Rds.mono {W : Wd} {F F' : Fz} (h : F.le F') : ∀ {ds : List D} {vs : List Value}, Rds W F ds vs → Rds W F' ds vs
  | [], [], _ => trivial
  | [], _ :: _, x => x.elim
  | _ :: _, [], x => x.elim
  | _ :: _, _ :: _, x => ⟨Rd.mono h x.1, Rds.mono h x.2⟩
end
theorem Rds.length {W : Wd} {F : Fz} : ∀ {ds : List D} {vs : List Value}, Rds W F ds vs → vs.length = ds.length
  | [], [], _ => rfl
  | [], _ :: _, x => x.elim
  | _ :: _, [], x => x.elim
  | _ :: _, _ :: _, x => by simp only [List.length_cons]; rw [Rds.length x.2]
theorem Rds.get {W : Wd} {F : Fz} : ∀ {ds : List D} {vs : List Value}, Rds W F ds vs → ∀ {i : Nat} {d : D}, ds[i]? = some d → ∃ v, vs[i]? = some v ∧ Rd W F d v
  | [], [], _, i, d, e => by simp at e
  | [], _ :: _, x, _, _, _ => x.elim
  | _ :: _, [], x, _, _, _ => x.elim
  | d0 :: ds, v0 :: vs, x, 0, d, e => ⟨v0, rfl, by simp at e; exact e ▸ x.1⟩
  | d0 :: ds, v0 :: vs, x, i + 1, d, e => by
    simp only [List.getElem?_cons_succ] at e ⊢
    exact Rds.get x.2 e
theorem Rds.at {W : Wd} {F : Fz} {ds : List D} {vs : List Value} (h : Rds W F ds vs) {i : Nat} {v : Value} (e : vs[i]? = some v) : ∃ d, ds[i]? = some d ∧ Rd W F d v := by
  have hl := h.length
  obtain ⟨hi, _⟩ := List.getElem?_eq_some_iff.mp e
  have hd : ds[i]? = some ds[i] := List.getElem?_eq_getElem (by omega)
  obtain ⟨v', e', r⟩ := h.get hd
  rw [e] at e'; cases e'
  exact ⟨_, hd, r⟩
theorem Rds.append {W : Wd} {F : Fz} : ∀ {ds ds' : List D} {vs vs' : List Value}, Rds W F ds vs → Rds W F ds' vs' → Rds W F (ds ++ ds') (vs ++ vs')
  | [], _, [], _, _, y => y
  | [], _, _ :: _, _, x, _ => x.elim
  | _ :: _, _, [], _, x, _ => x.elim
  | _ :: _, _, _ :: _, _, x, y => ⟨x.1, Rds.append x.2 y⟩
theorem Rds.take {W : Wd} {F : Fz} : ∀ {ds : List D} {vs : List Value} (n : Nat), Rds W F ds vs → Rds W F (ds.take n) (vs.take n)
  | _, _, 0, _ => by simp [Rds]
  | [], [], _ + 1, _ => by simp [Rds]
  | [], _ :: _, _ + 1, x => x.elim
  | _ :: _, [], _ + 1, x => x.elim
  | _ :: _, _ :: _, n + 1, x => ⟨x.1, Rds.take n x.2⟩
theorem Rds.drop {W : Wd} {F : Fz} : ∀ {ds : List D} {vs : List Value} (n : Nat), Rds W F ds vs → Rds W F (ds.drop n) (vs.drop n)
  | _, _, 0, x => by simpa using x
  | [], [], _ + 1, _ => by simp [Rds]
  | [], _ :: _, _ + 1, x => x.elim
  | _ :: _, [], _ + 1, x => x.elim
  | _ :: _, _ :: _, n + 1, x => by simpa using Rds.drop n x.2
structure Ext (F F' : Fz) (s s' : Shared) : Prop where
  old : ∀ a o, s.heap.get? a = some o → s'.heap.get? a = some o
  sub : SubH F' s'.heap
  le : F.le F'
  fresh : ∀ a o, F' a = some o → F a = some o ∨ s.heap.get? a = none
  gens : s'.gens = s.gens
  os : s'.os = s.os
theorem none_of_old {h h' : Heap} (k : ∀ a o, h.get? a = some o → h'.get? a = some o) {a : Addr} (e : h'.get? a = none) : h.get? a = none := by
  cases q : h.get? a with
  | none => rfl
  | some o => rw [k a o q] at e; cases e
theorem Ext.trans {F F' F'' : Fz} {s s' s'' : Shared} (x : Ext F F' s s') (y : Ext F' F'' s' s'') : Ext F F'' s s'' :=
  ⟨fun a o e => y.old a o (x.old a o e), y.sub, x.le.trans y.le, fun a o e => (y.fresh a o e).elim (fun e' => x.fresh a o e') fun e' => .inr (none_of_old x.old e'), y.gens.trans x.gens, y.os.trans x.os⟩
theorem Ext.toks {F : Fz} {s : Shared} (h : SubH F s.heap) (tk : Nat) : Ext F F s { s with toks := tk } :=
  ⟨fun _ _ e => e, h, Fz.le.refl F, fun _ _ e => .inl e, rfl, rfl⟩
theorem Ext.refl {F : Fz} {s : Shared} (h : SubH F s.heap) : Ext F F s s := ⟨fun _ _ e => e, h, Fz.le.refl F, fun _ _ e => .inl e, rfl, rfl⟩
theorem SubH.lt {F : Fz} {h : Heap} (x : SubH F h) {a : Addr} {o : Obj} (e : F a = some o) : a < h.objs.size := Heap.lt_size (x a o e)
theorem SubH.put {F : Fz} {h : Heap} (x : SubH F h) {a : Addr} {o : Obj} (e : h.get? a = some o) : SubH (F.put a o) h := fun b p q => by
  unfold Fz.put at q
  split at q
  · rename_i hb; subst hb; cases q; exact e
  · exact x b p q
theorem SubH.none {F : Fz} {h : Heap} (x : SubH F h) {a : Addr} (e : h.get? a = none) : F a = none := by
  cases q : F a with
  | none => rfl
  | some o => rw [x a o q] at e; cases e
theorem get?_size (h : Heap) : h.get? h.objs.size = none := by
  cases q : h.get? h.objs.size with
  | none => rfl
  | some o => exact absurd (Heap.lt_size q) (Nat.lt_irrefl _)
theorem Fz.le_put {F : Fz} {a : Addr} (o : Obj) (ha : F a = Option.none) : F.le (F.put a o) := fun b p q => by
  by_cases h : b = a
  · subst h; rw [ha] at q; cases q
  · rw [Fz.put_ne F o h]; exact q
/-- a new object that nobody will turn -/
theorem Ext.put {F F' : Fz} {s s' : Shared} (x : Ext F F' s s') {a : Addr} {o : Obj} (e : s'.heap.get? a = some o) (hn : s.heap.get? a = none) (hF : F' a = none) : Ext F (F'.put a o) s s' :=
  ⟨x.old, x.sub.put e, x.le.trans (Fz.le_put o hF), fun b p q => by
    by_cases h : b = a
    · subst h; exact .inr hn
    · rw [Fz.put_ne _ _ h] at q; exact x.fresh b p q, x.gens, x.os⟩
theorem Ext.grow {F : Fz} {s : Shared} (h : SubH F s.heap) (h' : Heap) (tk : Nat) (hk : ∀ b o, s.heap.get? b = some o → h'.get? b = some o) : Ext F F s { s with heap := h', toks := tk } :=
  ⟨hk, fun a o e => hk a o (h a o e), Fz.le.refl F, fun _ _ e => .inl e, rfl, rfl⟩
theorem Ext.push {F : Fz} {s : Shared} (h : SubH F s.heap) (o : Obj) (hf : o.isFreed = false) (tk : Nat) : Ext F (F.put s.heap.objs.size o) s { s with heap := s.heap.push o, toks := tk } :=
  Ext.put (Ext.grow h (s.heap.push o) tk fun _ _ e => Heap.get?_push_of_some o e) (Heap.get?_push_size _ hf) (get?_size _) (h.none (get?_size _))
/-- what a name of the frame holds -/
inductive V where
  | d (d : D)
  | ol (ds : List D)
  | od (ks : List Str) (ds : List D)
  | oh (ds : List D)
def VRd (W : Wd) (F : Fz) (h : Heap) : V → Value → Prop
  | .d d, u => Rd W F d u
  | .ol ds, u => ∃ a vs n, u = .ref a ∧ h.get? a = some (lstObj vs n) ∧ Rds W F ds vs
  | .od ks ds, u => ∃ a o vs, u = .ref a ∧ h.get? a = some o ∧ MapObj W o (ks.zip vs) ∧ Rds W F ds vs
  | .oh ds, u => ∃ a dx od l vs n t, u = .ref a ∧ F a = some (hdrObj dx) ∧ F dx = some od ∧ od.data = .dict #[⟨PyData.keyHash W.w.params (Str.ofString "_headers"), .str (Str.ofString "_headers") t, .ref l⟩] 1 ∧ h.get? l = some (lstObj vs n) ∧ Rds W F ds vs
theorem VRd.ext {W : Wd} {F F' : Fz} {s s' : Shared} (x : Ext F F' s s') {V : V} {u : Value} (r : VRd W F s.heap V u) : VRd W F' s'.heap V u := by
  cases V with
  | d d => exact Rd.mono x.le r
  | ol ds => obtain ⟨a, vs, n, e, ho, q⟩ := r; exact ⟨a, vs, n, e, x.old _ _ ho, q.mono x.le⟩
  | od ks ds => obtain ⟨a, o, vs, e, ho, m, q⟩ := r; exact ⟨a, o, vs, e, x.old _ _ ho, m, q.mono x.le⟩
  | oh ds => obtain ⟨a, dx, od, l, vs, n, t, e, h1, h2, h3, ho, q⟩ := r; exact ⟨a, dx, od, l, vs, n, t, e, x.le _ _ h1, x.le _ _ h2, h3, x.old _ _ ho, q.mono x.le⟩
abbrev Vs := List (Str × V)
def Loads (env : Env) (h : Heap) (x : Str) (v : Value) : Prop :=
  (env.kindOf x = some .local ∧ ∃ m, h.Ns env.locals m ∧ m x = some v) ∨
  ((env.kindOf x = some .cell ∨ env.kindOf x = some .free) ∧ ∃ c, env.cells.lookup x = some c ∧ h.IsCell c (some v))
theorem Loads.keeps {env : Env} {h h' : Heap} {x : Str} {v : Value} (l : Loads env h x v) (hk : ∀ a o, h.get? a = some o → h'.get? a = some o) : Loads env h' x v := by
  rcases l with ⟨k, m, n, e⟩ | ⟨k, c, e, n⟩
  · exact .inl ⟨k, m, n.keeps hk, e⟩
  · exact .inr ⟨k, c, e, n.keeps hk⟩
def inFrame (sc : Scope) (x : Str) : Bool := match sc.names.lookup x with
  | some .local | some .cell | some .free => true
  | _ => false
structure Ctx (W : Wd) (env : Env) (ρ : Vs) (F : Fz) (s : Shared) : Prop where
  sub : SubH F s.heap
  gr : ∀ a o, W.h1.get? a = some o → F a = some o
  kind : env.scope.kind = .function
  glob : env.globals = mainGlobals
  bui : env.builtins = builtinsNs
  vars : ∀ x V, ρ.lookup x = some V → inFrame env.scope x = true → ∃ v, Loads env s.heap x v ∧ VRd W F s.heap V v
theorem Ctx.ext {W : Wd} {env : Env} {ρ : Vs} {F F' : Fz} {s s' : Shared} (c : Ctx W env ρ F s) (x : Ext F F' s s') : Ctx W env ρ F' s' :=
  ⟨x.sub, fun a o e => x.le a o (c.gr a o e), c.kind, c.glob, c.bui, fun y V h k => let ⟨v, l, r⟩ := c.vars y V h k; ⟨v, l.keeps x.old, r.ext x⟩⟩
structure AOk (n : Nat) (A : Around) : Prop where
  handled : A.handled = none
  depth : A.depth + n ≤ 900
  units : A.units + 16 * n ≤ 9000
theorem AOk.le {n m : Nat} {A : Around} (h : AOk n A) (hm : m ≤ n) : AOk m A := ⟨h.handled, by have := h.depth; omega, by have := h.units; omega⟩
def Gv (W : Wd) (A : Around) (F : Fz) (s : Shared) (t : Sem Value) (d : D) : Prop :=
  wpAny (model W.prog W.w) A t (fun v s' => ∃ F', Ext F F' s s' ∧ Rd W F' d v) (fun _ _ => False) s
theorem Gv.then {W : Wd} {A : Around} {F : Fz} {s : Shared} {t : Sem Value} {d : D} {Q : Value → Shared → Prop} {E : Value → Shared → Prop} (h : Gv W A F s t d)
    (k : ∀ v F' s', Ext F F' s s' → Rd W F' d v → Q v s') : wpAny (model W.prog W.w) A t Q E s :=
  wpAny_mono h (fun v s' ⟨F', e, r⟩ => k v F' s' e r) (fun _ _ x => x.elim)
theorem Gv.of_ext {W : Wd} {A : Around} {F F' : Fz} {s s' : Shared} {t : Sem Value} {d : D} (x : Ext F F' s s')
    (h : Gv W A F' s' t d) : wpAny (model W.prog W.w) A t (fun v s'' => ∃ F'', Ext F F'' s s'' ∧ Rd W F'' d v) (fun _ _ => False) s' :=
  h.then fun _ F'' _ e r => ⟨F'', x.trans e, r⟩
/-- the value of an expression, in a block of scope sc, whose names hold what ρ says -/
def Ev (W : Wd) (sc : Scope) (ρ : Vs) (n : Nat) (e : Expr) (d : D) : Prop :=
  ∀ env A F s, env.scope = sc → AOk n A → Ctx W env ρ F s → Gv W A F s (eval e env) d
def EvT (W : Wd) (sc : Scope) (ρ : Vs) (n : Nat) (e : Expr) (b : Bool) : Prop :=
  ∀ env A F s, env.scope = sc → AOk n A → Ctx W env ρ F s → wpAny (model W.prog W.w) A (isTrue e env (eval e env)) (fun c s' => c = b ∧ ∃ F', Ext F F' s s') (fun _ _ => False) s
theorem EvT.then {W : Wd} {A : Around} {F : Fz} {s : Shared} {t : Sem Bool} {b : Bool} {Q : Bool → Shared → Prop} {E : Value → Shared → Prop}
    (h : wpAny (model W.prog W.w) A t (fun c s' => c = b ∧ ∃ F', Ext F F' s s') (fun _ _ => False) s)
    (k : ∀ F' s', Ext F F' s s' → Q b s') : wpAny (model W.prog W.w) A t Q E s :=
  wpAny_mono h (fun _ s' ⟨e, F', x⟩ => e ▸ k F' s' x) (fun _ _ x => x.elim)
end Mine
end

/- L1 -/
section
open PySem
namespace Mine
variable {W : Wd} {sc : Scope} {ρ : Vs} {n : Nat}
theorem Ev.up {m : Nat} {e : Expr} {d : D} (h : Ev W sc ρ m e d) (hm : m ≤ n) : Ev W sc ρ n e d := fun env A F s hs hA c => h env A F s hs (hA.le hm) c
theorem EvT.up {m : Nat} {e : Expr} {b : Bool} (h : EvT W sc ρ m e b) (hm : m ≤ n) : EvT W sc ρ n e b := fun env A F s hs hA c => h env A F s hs (hA.le hm) c
theorem Ev.int (i : Int) (k : Nat) (pos : Pos) : Ev W sc ρ n (.Constant (.int i) k pos) (.int i) := fun env A F s _ _ c =>
  wpAny_Constant_int ⟨F, Ext.toks c.sub _, _, rfl⟩
theorem Ev.strC (x : Str) (k : Nat) (pos : Pos) : Ev W sc ρ n (.Constant (.str x) k pos) (.str x) := fun env A F s _ _ c =>
  Calls.Constant_str ⟨F, Ext.toks c.sub _, _, rfl⟩
theorem Ev.noneC (k : Nat) (pos : Pos) : Ev W sc ρ n (.Constant .none k pos) (.val .none) := fun env A F s _ _ c =>
  PyProof.Rows.Constant_none ⟨F, Ext.refl c.sub, rfl⟩
theorem Ev.boolC (b : Bool) (k : Nat) (pos : Pos) : Ev W sc ρ n (.Constant (.bool b) k pos) (.val (.bool b)) := fun env A F s _ _ c =>
  PyProof.Rows.Constant_bool ⟨F, Ext.refl c.sub, rfl⟩
theorem Loads.load {M : Model} {A : Around} {E : Value → Shared → Prop} {s : Shared} {env : Env} {x : Str} {v : Value} {Q : Value → Shared → Prop} (hk : env.scope.kind = .function)
    (l : Loads env s.heap x v) (h : Q v s) (hn : (x == ("__classdict__" : Str)) = false) : wpAny M A (loadName env x) Q E s := by
  rcases l with ⟨k, m, ns, e⟩ | ⟨k | k, c, e, cl⟩
  · exact wpAny_loadName_local hk k ns e h
  · exact wpAny_loadName_cell hk k e cl h
  · exact wpAny_loadName_free hk k e cl h hn
theorem Ev.name {x : Str} {pos : Pos} {d : D} (hx : ρ.lookup x = some (.d d)) (hf : inFrame sc x = true) (hd : (x == ("__debug__" : Str)) = false) (hn : (x == ("__classdict__" : Str)) = false) :
    Ev W sc ρ n (.Name x pos) d := fun env A F s hs _ c => by
  subst hs
  obtain ⟨v, l, r⟩ := c.vars x _ hx hf
  exact wpAny_Name (l.load c.kind ⟨F, Ext.refl c.sub, r⟩ hn) hd
structure Gd (W : Wd) : Prop where
  g : W.h1.Ns mainGlobals W.mg
  b : W.h1.Ns builtinsNs W.mb
  lim : W.h1.NoLimit
theorem Ctx.keeps1 {env : Env} {F : Fz} {s : Shared} (c : Ctx W env ρ F s) : ∀ a o, W.h1.get? a = some o → s.heap.get? a = some o := fun a o e => c.sub a o (c.gr a o e)
theorem Ev.glob {x : Str} {pos : Pos} {v : Value} {d : D} (G : Gd W) (hv : W.mg x = some v) (hr : ∀ F, Rd W F d v) (hx : sc.names.lookup x = some .globalImplicit) (hd : (x == ("__debug__" : Str)) = false) :
    Ev W sc ρ n (.Name x pos) d := fun env A F s hs _ c => by
  subst hs
  exact Calls.Name_function_global c.kind hx (Calls.loadGlobal_global (c.glob ▸ G.g.keeps c.keeps1) hv ⟨F, Ext.refl c.sub, hr F⟩) hd
theorem Ev.bui {x : Str} {pos : Pos} {v : Value} (G : Gd W) (hm : W.mg x = none) (hv : W.mb x = some v) (hx : sc.names.lookup x = some .globalImplicit) (hd : (x == ("__debug__" : Str)) = false) :
    Ev W sc ρ n (.Name x pos) (.val v) := fun env A F s hs _ c => by
  subst hs
  exact Calls.Name_function_global c.kind hx (Calls.loadGlobal_builtin (c.glob ▸ G.g.keeps c.keeps1) hm (c.bui ▸ G.b.keeps c.keeps1) hv ⟨F, Ext.refl c.sub, by simp only [Rd]⟩) hd
/-- an operation upon two values -/
def Op2 (W : Wd) (n : Nat) (t : Value → Value → Sem Value) (a b d : D) : Prop :=
  ∀ A F s u v, AOk n A → SubH F s.heap → Rd W F a u → Rd W F b v → Gv W A F s (t u v) d
theorem Ev.bin {l r : Expr} {op : Operator} {pos : Pos} {a b d : D} (hl : Ev W sc ρ n l a) (hr : Ev W sc ρ n r b) (ho : Op2 W n (binaryOp op) a b d) : Ev W sc ρ n (.BinOp l op r pos) d :=
  fun env A F s hs hA c => wpAny_BinOp ((hl env A F s hs hA c).then fun u F1 s1 x1 r1 => (hr env A F1 s1 hs hA (c.ext x1)).then fun v F2 s2 x2 r2 =>
    Gv.of_ext (x1.trans x2) (ho A F2 s2 u v hA x2.sub (r1.mono x2.le) r2))
theorem op_add (a b : Int) : Op2 W n (binaryOp .Add) (.int a) (.int b) (.int (a + b)) := fun A F s u v _ h ra rb => by
  simp only [Rd] at ra rb
  obtain ⟨t, rfl⟩ := ra; obtain ⟨t', rfl⟩ := rb
  exact PyProof.Rows.add_int ⟨F, Ext.toks h _, by simp only [Rd]; exact ⟨_, rfl⟩⟩
theorem op_sub (a b : Int) : Op2 W n (binaryOp .Sub) (.int a) (.int b) (.int (a - b)) := fun A F s u v _ h ra rb => by
  simp only [Rd] at ra rb
  obtain ⟨t, rfl⟩ := ra; obtain ⟨t', rfl⟩ := rb
  exact PyProof.Rows.sub_int ⟨F, Ext.toks h _, by simp only [Rd]; exact ⟨_, rfl⟩⟩
theorem op_mul (a b : Int) (ha : -1000000000 ≤ a) (hb : a ≤ 1000000000) : Op2 W n (binaryOp .Mult) (.int a) (.int b) (.int (a * b)) := fun A F s u v _ h ra rb => by
  simp only [Rd] at ra rb
  obtain ⟨t, rfl⟩ := ra; obtain ⟨t', rfl⟩ := rb
  exact PyProof.Rows.mul_int ⟨F, Ext.toks h _, by simp only [Rd]; exact ⟨_, rfl⟩⟩ (IntMulOk.of_left (intBits_le_64 (by omega) (by omega)))
theorem op_fdiv (a b : Int) (hb : b ≠ 0) (h1 : a.natAbs < 1000000000) (h2 : b.natAbs < 1000000000) : Op2 W n (binaryOp .FloorDiv) (.int a) (.int b) (.int (a.fdiv b)) := fun A F s u v _ h ra rb => by
  simp only [Rd] at ra rb
  obtain ⟨t, rfl⟩ := ra; obtain ⟨t', rfl⟩ := rb
  exact PyProof.Rows.floordiv_int hb ⟨F, Ext.toks h _, by simp only [Rd]; exact ⟨_, rfl⟩⟩ (Or.inl (PyProof.noPylong_small (by omega)))
theorem op_fmod (a b : Int) (hb : b ≠ 0) : Op2 W n (binaryOp .Mod) (.int a) (.int b) (.int (a.fmod b)) := fun A F s u v _ h ra rb => by
  simp only [Rd] at ra rb
  obtain ⟨t, rfl⟩ := ra; obtain ⟨t', rfl⟩ := rb
  exact PyProof.Rows.mod_int hb ⟨F, Ext.toks h _, by simp only [Rd]; exact ⟨_, rfl⟩⟩
theorem op_pow4 (b : Int) (h0 : 0 ≤ b) (h1 : b ≤ 10) : Op2 W n (binaryOp .Pow) (.int 4) (.int b) (.int (4 ^ b.toNat)) := fun A F s u v _ h ra rb => by
  simp only [Rd] at ra rb
  obtain ⟨t, rfl⟩ := ra; obtain ⟨t', rfl⟩ := rb
  refine PyProof.Rows.pow_int h0 ?_ ⟨F, Ext.toks h _, by simp only [Rd]; exact ⟨_, rfl⟩⟩
  have : (Builtin.Int.intBits 4 : Int) = 3 := by decide
  rw [this]; omega
theorem Ev.iadd {l r : Expr} {pos : Pos} {a b : Int} (hl : Ev W sc ρ n l (.int a)) (hr : Ev W sc ρ n r (.int b)) : Ev W sc ρ n (.BinOp l .Add r pos) (.int (a + b)) := Ev.bin hl hr (op_add a b)
theorem Ev.isub {l r : Expr} {pos : Pos} {a b : Int} (hl : Ev W sc ρ n l (.int a)) (hr : Ev W sc ρ n r (.int b)) : Ev W sc ρ n (.BinOp l .Sub r pos) (.int (a - b)) := Ev.bin hl hr (op_sub a b)
theorem Ev.imul {l r : Expr} {pos : Pos} {a b : Int} (hl : Ev W sc ρ n l (.int a)) (hr : Ev W sc ρ n r (.int b)) (h1 : -1000000000 ≤ a) (h2 : a ≤ 1000000000) : Ev W sc ρ n (.BinOp l .Mult r pos) (.int (a * b)) := Ev.bin hl hr (op_mul a b h1 h2)
def sOf (l : List Nat) : Str := ⟨l.toArray⟩
theorem sOf_length (l : List Nat) : (sOf l).length = l.length := by simp [sOf, Str.length]
theorem op_cat (x y : List Nat) (h1 : x.length ≤ 1000) (h2 : y.length ≤ 1000) : Op2 W n (binaryOp .Add) (.str (sOf x)) (.str (sOf y)) (.str (sOf (x ++ y))) := fun A F s u v _ h ra rb => by
  simp only [Rd] at ra rb
  obtain ⟨t, rfl⟩ := ra; obtain ⟨t', rfl⟩ := rb
  refine PyProof.Rows.add_str (fun t' tk => ⟨F, Ext.toks h _, ?_⟩) (by rw [sOf_length, sOf_length, sizeLine_eq]; omega)
  simp only [Rd]
  refine ⟨t', ?_⟩
  congr 1
  apply Str.ext'
  simp [sOf, Str.cps_append]
end Mine
end

/- L2 -/
section
open PySem
namespace Mine
variable {W : Wd} {sc : Scope} {ρ : Vs} {n : Nat}
/- comparisons -/
theorem Ev.cmp {l r : Expr} {op : CmpOp} {pos : Pos} {a b d : D} (hl : Ev W sc ρ n l a) (hr : Ev W sc ρ n r b) (ho : Op2 W n (compareOp op) a b d) (hm : behindInMarks op r = false) : Ev W sc ρ n (.Compare l [op] [r] pos) d :=
  fun env A F s hs hA c => wpAny_Compare1 ((hl env A F s hs hA c).then fun u F1 s1 x1 r1 => (hr env A F1 s1 hs hA (c.ext x1)).then fun v F2 s2 x2 r2 =>
    Gv.of_ext (x1.trans x2) (ho A F2 s2 u v hA x2.sub (r1.mono x2.le) r2)) hm
theorem EvT.cmp {l r : Expr} {op : CmpOp} {pos : Pos} {a b : D} {c : Bool} (hl : Ev W sc ρ n l a) (hr : Ev W sc ρ n r b) (ho : Op2 W n (compareOp op) a b (.val (.bool c))) (hm : behindInMarks op r = false) : EvT W sc ρ n (.Compare l [op] [r] pos) c :=
  fun env A F s hs hA cx => wpAny_isTrue_Compare1 ((hl env A F s hs hA cx).then fun u F1 s1 x1 r1 => (hr env A F1 s1 hs hA (cx.ext x1)).then fun v F2 s2 x2 r2 =>
    (ho A F2 s2 u v hA x2.sub (r1.mono x2.le) r2).then fun q F3 s3 x3 r3 => by
      simp only [Rd] at r3
      subst r3
      exact wpAny_truthy_bool ⟨rfl, F3, (x1.trans x2).trans x3⟩) hm
theorem op_eqI (a b : Int) : Op2 W n (compareOp .Eq) (.int a) (.int b) (.val (.bool (a == b))) := fun A F s u v _ h ra rb => by
  simp only [Rd] at ra rb
  obtain ⟨t, rfl⟩ := ra; obtain ⟨t', rfl⟩ := rb
  exact PyProof.Rows.eq_int ⟨F, Ext.refl h, by simp only [Rd]⟩
theorem op_neI (a b : Int) : Op2 W n (compareOp .NotEq) (.int a) (.int b) (.val (.bool (a != b))) := fun A F s u v _ h ra rb => by
  simp only [Rd] at ra rb
  obtain ⟨t, rfl⟩ := ra; obtain ⟨t', rfl⟩ := rb
  exact PyProof.Rows.ne_int ⟨F, Ext.refl h, by simp only [Rd]⟩
theorem op_ltI (a b : Int) : Op2 W n (compareOp .Lt) (.int a) (.int b) (.val (.bool (decide (a < b)))) := fun A F s u v _ h ra rb => by
  simp only [Rd] at ra rb
  obtain ⟨t, rfl⟩ := ra; obtain ⟨t', rfl⟩ := rb
  exact PyProof.Rows.lt_int ⟨F, Ext.refl h, by simp only [Rd]⟩
theorem op_gtI (a b : Int) : Op2 W n (compareOp .Gt) (.int a) (.int b) (.val (.bool (decide (b < a)))) := fun A F s u v _ h ra rb => by
  simp only [Rd] at ra rb
  obtain ⟨t, rfl⟩ := ra; obtain ⟨t', rfl⟩ := rb
  exact PyProof.Rows.gt_int ⟨F, Ext.refl h, by simp only [Rd]⟩
theorem op_leI (a b : Int) : Op2 W n (compareOp .LtE) (.int a) (.int b) (.val (.bool (decide (a ≤ b)))) := fun A F s u v _ h ra rb => by
  simp only [Rd] at ra rb
  obtain ⟨t, rfl⟩ := ra; obtain ⟨t', rfl⟩ := rb
  exact PyProof.Rows.le_int ⟨F, Ext.refl h, by simp only [Rd]⟩
theorem op_eqS (x y : Str) : Op2 W n (compareOp .Eq) (.str x) (.str y) (.val (.bool (x == y))) := fun A F s u v _ h ra rb => by
  simp only [Rd] at ra rb
  obtain ⟨t, rfl⟩ := ra; obtain ⟨t', rfl⟩ := rb
  exact PyProof.Rows.eq_str ⟨F, Ext.refl h, by simp only [Rd]⟩
theorem op_inS (x y : Str) : Op2 W n (compareOp .In) (.str y) (.str x) (.val (.bool !(Builtin.Str.occurrences x y 0 x.length 1).isEmpty)) := fun A F s u v _ h ra rb => by
  simp only [Rd] at ra rb
  obtain ⟨t, rfl⟩ := ra; obtain ⟨t', rfl⟩ := rb
  exact P.in_str ⟨F, Ext.refl h, by simp only [Rd]⟩
/- truth -/
def Tr (W : Wd) (n : Nat) (d : D) (b : Bool) : Prop :=
  ∀ A F s v, AOk n A → SubH F s.heap → Rd W F d v → wpAny (model W.prog W.w) A (truthy v) (fun c s' => c = b ∧ ∃ F', Ext F F' s s') (fun _ _ => False) s
theorem tr_int (i : Int) : Tr W n (.int i) (i != 0) := fun A F s v _ h r => by
  simp only [Rd] at r; obtain ⟨t, rfl⟩ := r
  exact PyProof.Rows.truthy_int ⟨rfl, F, Ext.refl h⟩
theorem tr_bool (b : Bool) : Tr W n (.val (.bool b)) b := fun A F s v _ h r => by
  simp only [Rd] at r; subst r
  exact wpAny_truthy_bool ⟨rfl, F, Ext.refl h⟩
theorem tr_none : Tr W n (.val .none) false := fun A F s v _ h r => by
  simp only [Rd] at r; subst r
  exact PyProof.Rows.truthy_none ⟨rfl, F, Ext.refl h⟩
theorem tr_str (l : List Nat) (hl : l.length ≤ 1000) : Tr W n (.str (sOf l)) (!l.isEmpty) := fun A F s v _ h r => by
  simp only [Rd] at r; obtain ⟨t, rfl⟩ := r
  refine P.truthy_str (by rw [sOf_length]; omega) ⟨?_, F, Ext.toks h _⟩
  rw [sOf_length]; cases l <;> simp <;> omega
theorem EvT.plain {e : Expr} {d : D} {b : Bool} (h : Ev W sc ρ n e d) (ht : Tr W n d b)
    (he : ∀ env whole, isTrue e env whole = (do let v ← whole; standAt e.pos; holding [v] (truthy v))) : EvT W sc ρ n e b := fun env A F s hs hA c =>
  PyProof.Rows.isTrue_plain ((h env A F s hs hA c).then fun v F1 s1 x1 r1 => wpAny_mono (ht A F1 s1 v hA x1.sub r1) (fun c s' ⟨e, F', x⟩ => ⟨e, F', x1.trans x⟩) fun _ _ x => x) (he env _)
theorem EvT.not {e : Expr} {pos : Pos} {b : Bool} (h : EvT W sc ρ n e b) : EvT W sc ρ n (.UnaryOp .Not e pos) (!b) := fun env A F s hs hA c =>
  PyProof.Rows.isTrue_not (EvT.then (h env A F s hs hA c) fun F' s' x => ⟨rfl, F', x⟩)
theorem EvT.and_nil {pos : Pos} : EvT W sc ρ n (.BoolOp .And [] pos) true := fun env A F s hs hA c => PyProof.Rows.isTrue_and_nil ⟨rfl, F, Ext.refl c.sub⟩
theorem EvT.or_nil {pos : Pos} : EvT W sc ρ n (.BoolOp .Or [] pos) false := fun env A F s hs hA c => PyProof.Rows.isTrue_or_nil ⟨rfl, F, Ext.refl c.sub⟩
theorem EvT.and {e : Expr} {r : List Expr} {pos : Pos} {a b : Bool} (h : EvT W sc ρ n e a) (hr : a = true → EvT W sc ρ n (.BoolOp .And r pos) b) : EvT W sc ρ n (.BoolOp .And (e :: r) pos) (a && b) := fun env A F s hs hA c =>
  PyProof.Rows.isTrue_and (EvT.then (h env A F s hs hA c) fun F' s' x => by
    cases a with
    | false => exact ⟨rfl, F', x⟩
    | true => exact EvT.then (hr rfl env A F' s' hs hA (c.ext x)) fun F'' s'' y => ⟨rfl, F'', x.trans y⟩)
theorem EvT.or {e : Expr} {r : List Expr} {pos : Pos} {a b : Bool} (h : EvT W sc ρ n e a) (hr : a = false → EvT W sc ρ n (.BoolOp .Or r pos) b) : EvT W sc ρ n (.BoolOp .Or (e :: r) pos) (a || b) := fun env A F s hs hA c =>
  PyProof.Rows.isTrue_or (EvT.then (h env A F s hs hA c) fun F' s' x => by
    cases a with
    | true => exact ⟨rfl, F', x⟩
    | false => exact EvT.then (hr rfl env A F' s' hs hA (c.ext x)) fun F'' s'' y => ⟨rfl, F'', x.trans y⟩)
theorem Ev.ite {t e f : Expr} {pos : Pos} {b : Bool} {d : D} (h : EvT W sc ρ n t b) (h1 : b = true → Ev W sc ρ n e d) (h2 : b = false → Ev W sc ρ n f d) : Ev W sc ρ n (.IfExp t e f pos) d := fun env A F s hs hA c =>
  PyProof.Rows.IfExp_ (EvT.then (h env A F s hs hA c) fun F' s' x => by
    cases b with
    | true => exact Gv.of_ext x (h1 rfl env A F' s' hs hA (c.ext x))
    | false => exact Gv.of_ext x (h2 rfl env A F' s' hs hA (c.ext x)))
/-- x or y, its value -/
theorem Ev.or2 {e f : Expr} {pos : Pos} {a d d' : D} {b : Bool} (h : Ev W sc ρ n e a) (ht : Tr W n a b) (h1 : b = true → d = a) (h2 : b = false → Ev W sc ρ n f d) : Ev W sc ρ n (.BoolOp .Or [e, f] pos) d := fun env A F s hs hA c =>
  PyProof.Rows.BoolOp_or ((h env A F s hs hA c).then fun v F1 s1 x1 r1 => wpAny_mono (ht A F1 s1 v hA x1.sub r1) (fun q s2 hq => by
    obtain ⟨rfl, F2, x2⟩ := hq
    cases q with
    | true =>
      rw [if_pos rfl, h1 rfl]
      exact ⟨F2, x1.trans x2, r1.mono x2.le⟩
    | false => exact Gv.of_ext (x1.trans x2) (h2 rfl env A F2 s2 hs hA (c.ext (x1.trans x2)))) fun _ _ x => x.elim)
/- displays, arguments -/
def Evs (W : Wd) (sc : Scope) (ρ : Vs) (n : Nat) (es : List Expr) (ds : List D) : Prop :=
  ∀ env A F s pos, env.scope = sc → AOk n A → Ctx W env ρ F s →
    wpAny (model W.prog W.w) A (spliced (backTo pos (starEach es env))) (fun vs s' => ∃ F', Ext F F' s s' ∧ Rds W F' ds vs) (fun _ _ => False) s
theorem Evs.nil : Evs W sc ρ n [] [] := fun env A F s pos _ _ c => Calls.spliced_nil ⟨F, Ext.refl c.sub, trivial⟩
theorem Evs.cons {e : Expr} {es : List Expr} {d : D} {ds : List D} (h : Ev W sc ρ n e d) (hs : Evs W sc ρ n es ds)
    (hp : ∀ env, starEach (e :: es) env = (false, eval e env) :: starEach es env) : Evs W sc ρ n (e :: es) (d :: ds) := fun env A F s pos hsc hA c => by
  rw [hp env]
  show wpAny _ A (spliced ((false, eval e env) :: backTo pos (starEach es env))) _ _ s
  refine Calls.spliced_cons ((h env A F s hsc hA c).then fun v F1 s1 x1 r1 => wpAny_mono (hs env A F1 s1 pos hsc hA (c.ext x1)) (fun vs s2 hq => ?_) fun _ _ x => x)
  obtain ⟨F2, x2, r2⟩ := hq
  exact ⟨F2, x1.trans x2, r1.mono x2.le, r2⟩
theorem Evs.up {m : Nat} {es : List Expr} {ds : List D} (h : Evs W sc ρ m es ds) (hm : m ≤ n) : Evs W sc ρ n es ds := fun env A F s pos hs hA c => h env A F s pos hs (hA.le hm) c
theorem Ext.lst {F : Fz} {s : Shared} (h : SubH F s.heap) (vs : List Value) : Ext F (F.put s.heap.objs.size (lstObj vs 0)) s { s with heap := s.heap.push (lstObj vs 0) } := Ext.push h (lstObj vs 0) rfl s.toks
theorem Ext.tup {F : Fz} {s : Shared} (h : SubH F s.heap) (vs : List Value) : Ext F (F.put s.heap.objs.size (tupObj vs 0)) s { s with heap := s.heap.push (tupObj vs 0) } := Ext.push h (tupObj vs 0) rfl s.toks
theorem gv_newList {A : Around} {F : Fz} {s : Shared} {vs : List Value} {ds : List D} (h : SubH F s.heap) (r : Rds W F ds vs) (hl : ds.length ≤ 10000) : Gv W A F s (newList vs) (.list ds) := by
  refine wpAny_newObj_type ⟨_, Ext.lst h vs, ?_⟩ (by show vs.toArray.size ≤ sizeLine; rw [List.size_toArray, r.length, sizeLine_eq]; omega)
  simp only [Rd]
  exact ⟨_, vs, 0, rfl, Fz.put_self .., r.mono (Fz.le_put _ (h.none (get?_size _)))⟩
theorem gv_newTuple {A : Around} {F : Fz} {s : Shared} {vs : List Value} {ds : List D} (h : SubH F s.heap) (r : Rds W F ds vs) (hl : ds.length ≤ 10000) : Gv W A F s (newTuple vs) (.tup ds) := by
  refine wpAny_newObj_type ⟨_, Ext.tup h vs, ?_⟩ (by show vs.toArray.size ≤ sizeLine; rw [List.size_toArray, r.length, sizeLine_eq]; omega)
  simp only [Rd]
  exact ⟨_, vs, 0, rfl, Fz.put_self .., r.mono (Fz.le_put _ (h.none (get?_size _)))⟩
theorem Ev.list {es : List Expr} {pos : Pos} {ds : List D} (h : Evs W sc ρ n es ds) (hl : ds.length ≤ 10000) : Ev W sc ρ n (.List es pos) (.list ds) := fun env A F s hs hA c => by
  show wpAny _ A (do standAt pos; newList (← spliced (backTo pos (starEach es env)))) _ _ s
  refine wpAny_bind (wpAny_standAt (wpAny_bind (wpAny_mono (h env A F s pos hs hA c) (fun vs s1 hq => ?_) fun _ _ x => x)))
  obtain ⟨F1, x1, r1⟩ := hq
  exact Gv.of_ext x1 (gv_newList x1.sub r1 hl)
theorem Ev.tup {es : List Expr} {k : Nat} {pos : Pos} {ds : List D} (h : Evs W sc ρ n es ds) (hl : ds.length ≤ 10000) : Ev W sc ρ n (.Tuple es k pos) (.tup ds) := fun env A F s hs hA c => by
  show wpAny _ A (do standAt pos; newTuple (← spliced (backTo pos (starEach es env)))) _ _ s
  refine wpAny_bind (wpAny_standAt (wpAny_bind (wpAny_mono (h env A F s pos hs hA c) (fun vs s1 hq => ?_) fun _ _ x => x)))
  obtain ⟨F1, x1, r1⟩ := hq
  exact Gv.of_ext x1 (gv_newTuple x1.sub r1 hl)
/- items -/
theorem lst_isList {h : Heap} {a : Addr} {vs : List Value} {m : Nat} (e : h.get? a = some (lstObj vs m)) : h.IsList a vs.toArray := ⟨_, e, rfl, m, rfl⟩
theorem tup_is {h : Heap} {a : Addr} {vs : List Value} {m : Nat} (e : h.get? a = some (tupObj vs m)) : IsT h a vs.toArray m := e
def Idx (W : Wd) (n : Nat) (slice : Expr) (a b d : D) : Prop := ∀ value, Op2 W n (PyProof.Rows.subscriptTail value slice) a b d
theorem Ev.sub {value slice : Expr} {pos : Pos} {a b d : D} (hv : Ev W sc ρ n value a) (hi : Ev W sc ρ n slice b) (ho : Idx W n slice a b d) : Ev W sc ρ n (.Subscript value slice pos) d :=
  fun env A F s hs hA c => PyProof.Rows.Subscript_ ((hv env A F s hs hA c).then fun u F1 s1 x1 r1 => (hi env A F1 s1 hs hA (c.ext x1)).then fun v F2 s2 x2 r2 =>
    Gv.of_ext (x1.trans x2) (ho value A F2 s2 u v hA x2.sub (r1.mono x2.le) r2))
def PlainIdx (slice : Expr) : Prop := ∀ o i, subscripted slice false o i = operate [o, i] (getItem o i)
theorem idx_list {slice : Expr} {ds : List D} {i : Nat} {d : D} (hp : PlainIdx slice) (hd : ds[i]? = some d) (hi : i < 100000) : Idx W n slice (.list ds) (.int i) d := fun value A F s u v _ h ra rb => by
  simp only [Rd] at ra rb
  obtain ⟨a, vs, m, rfl, ho, r⟩ := ra; obtain ⟨t, rfl⟩ := rb
  obtain ⟨x, hx, rx⟩ := r.get hd
  refine PyProof.Rows.tail_any (lst_isList (h _ _ ho)).typeIs slot_list_getitem.lookup ?_ (hp _ _)
  exact wpAny_getItem_list (lst_isList (h _ _ ho)) (by omega) (by omega) (by simpa using hx) ⟨F, Ext.refl h, rx⟩
theorem idx_tup {slice : Expr} {ds : List D} {i : Nat} {d : D} (hp : PlainIdx slice) (hd : ds[i]? = some d) (hi : i < 100000) : Idx W n slice (.tup ds) (.int i) d := fun value A F s u v _ h ra rb => by
  simp only [Rd] at ra rb
  obtain ⟨a, vs, m, rfl, ho, r⟩ := ra; obtain ⟨t, rfl⟩ := rb
  obtain ⟨x, hx, rx⟩ := r.get hd
  have hlt : i < vs.length := (List.getElem?_eq_some_iff.mp hx).1
  refine PyProof.Rows.tail_any (T := "tuple") ⟨_, h _ _ ho, rfl⟩ PySem.F.slot_tuple_getitem.lookup ?_ (hp _ _)
  refine P.getItem_tuple (tup_is (h _ _ ho)) (by omega) (by omega) (k := i) ?_ (by simpa using hx) ⟨_, Ext.refl h, rx⟩
  simp [seqIndex?]; omega
theorem idx_str {slice : Expr} {l : List Nat} {i : Int} {j : Nat} {c : Nat} (hp : PlainIdx slice) (hj : seqIndex? i l.length = some j) (hc : l[j]? = some c) (h1 : -1000 ≤ i) (h2 : i ≤ 1000) : Idx W n slice (.str (sOf l)) (.int i) (.str (sOf [c])) := fun value A F s u v _ h ra rb => by
  simp only [Rd] at ra rb
  obtain ⟨t, rfl⟩ := ra; obtain ⟨t', rfl⟩ := rb
  refine PyProof.Rows.tail_any (T := "str") (typeIs_str s _ _) PySem.F.slot_str_getitem.lookup ?_ (hp _ _)
  refine P.getItem_str (c := c) ?_ ?_ ⟨F, Ext.toks h _, ?_⟩
  · simp; omega
  · rw [sOf_length, hj]; simpa [sOf] using hc
  · simp only [Rd]; exact ⟨_, rfl⟩
end Mine
end

/- L3 -/
section
open PySem
namespace Mine
variable {W : Wd} {sc : Scope} {ρ : Vs} {n : Nat}
/- the frame of a running def -/
/-- the frame's own addresses: its table of locals, and the cells that were made behind it -/
def Mut (env : Env) (a : Addr) : Prop := a = env.locals ∨ (env.locals < a ∧ ∃ x, env.cells.lookup x = some a)
structure Fs (env : Env) (h : Heap) : Prop where
  ns : ∃ m, h.Ns env.locals m
  cell : ∀ x c, env.cells.lookup x = some c → ∃ v, h.IsCell c v
  apart : ∀ x y c, env.cells.lookup x = some c → env.cells.lookup y = some c → env.locals < c → x = y
  ne : ∀ x c, env.cells.lookup x = some c → c ≠ env.locals
  has : ∀ x, env.kindOf x = some .cell → (env.cells.lookup x).isSome = true
def VOwn (W : Wd) (F : Fz) (h : Heap) : V → Value → Addr → Prop
  | .d _, _, _ => False
  | .ol ds, u, a => ∃ vs n, u = .ref a ∧ h.get? a = some (lstObj vs n) ∧ Rds W F ds vs
  | .od ks ds, u, a => ∃ o vs, u = .ref a ∧ h.get? a = some o ∧ MapObj W o (ks.zip vs) ∧ Rds W F ds vs
  | .oh ds, u, l => ∃ a dx od vs n t, u = .ref a ∧ F a = some (hdrObj dx) ∧ F dx = some od ∧ od.data = .dict #[⟨PyData.keyHash W.w.params (Str.ofString "_headers"), .str (Str.ofString "_headers") t, .ref l⟩] 1 ∧ h.get? l = some (lstObj vs n) ∧ Rds W F ds vs
def V.own : V → Bool
  | .d _ => false
  | _ => true
theorem VOwn.rd {F : Fz} {h : Heap} {V : V} {u : Value} {a : Addr} (x : VOwn W F h V u a) : VRd W F h V u := by
  cases V with
  | d d => exact x.elim
  | ol ds => obtain ⟨vs, n, e, r⟩ := x; exact ⟨a, vs, n, e, r⟩
  | od ks ds => obtain ⟨o, vs, e, r⟩ := x; exact ⟨a, o, vs, e, r⟩
  | oh ds => obtain ⟨b, dx, od, vs, n, t, e, h1, h2, h3, r⟩ := x; exact ⟨b, dx, od, a, vs, n, t, e, h1, h2, h3, r⟩
theorem VOwn.live {F : Fz} {h : Heap} {V : V} {u : Value} {a : Addr} (x : VOwn W F h V u a) : ∃ o, h.get? a = some o := by
  cases V with
  | d d => exact x.elim
  | ol ds => obtain ⟨vs, n, e, r⟩ := x; exact ⟨_, r.1⟩
  | od ks ds => obtain ⟨o, vs, e, r⟩ := x; exact ⟨_, r.1⟩
  | oh ds => obtain ⟨b, dx, od, vs, n, t, e, h1, h2, h3, r⟩ := x; exact ⟨_, r.1⟩
theorem VOwn.move {F F' : Fz} {h h' : Heap} {V : V} {u : Value} {a : Addr} (x : VOwn W F h V u a) (hF : F.le F') (hk : ∀ o, h.get? a = some o → h'.get? a = some o) : VOwn W F' h' V u a := by
  cases V with
  | d d => exact x.elim
  | ol ds => obtain ⟨vs, n, e, ho, r⟩ := x; exact ⟨vs, n, e, hk _ ho, r.mono hF⟩
  | od ks ds => obtain ⟨o, vs, e, ho, m, r⟩ := x; exact ⟨o, vs, e, hk _ ho, m, r.mono hF⟩
  | oh ds => obtain ⟨b, dx, od, vs, n, t, e, h1, h2, h3, ho, r⟩ := x; exact ⟨b, dx, od, vs, n, t, e, hF _ _ h1, hF _ _ h2, h3, hk _ ho, r.mono hF⟩
structure St (W : Wd) (B F0 : Fz) (g : Array GenState) (os : OsState) (env : Env) (ρ : Vs) (F : Fz) (s : Shared) : Prop where
  sub : SubH F s.heap
  gr : ∀ a o, W.h1.get? a = some o → F a = some o
  kind : env.scope.kind = .function
  glob : env.globals = mainGlobals
  bui : env.builtins = builtinsNs
  fs : Fs env s.heap
  base : SubH B s.heap
  mb : ∀ a, Mut env a → B a = none
  mf : ∀ a, Mut env a → F a = none
  le : F0.le F
  fresh : ∀ a o, F a = some o → F0 a = some o ∨ B a = none
  imm : ∀ x d, ρ.lookup x = some (.d d) → inFrame env.scope x = true → ∃ v, Loads env s.heap x v ∧ Rd W F d v
  own : ∀ x V, ρ.lookup x = some V → V.own = true → ∃ v a, Loads env s.heap x v ∧ VOwn W F s.heap V v a ∧ B a = none ∧ F a = none ∧ ¬ Mut env a
  own1 : ∀ x y V V', ρ.lookup x = some V → ρ.lookup y = some V' → V.own = true → V'.own = true → x = y
  gens : s.gens = g
  os : s.os = os
structure Ret (W : Wd) (B F0 : Fz) (g : Array GenState) (os : OsState) (F : Fz) (s : Shared) : Prop where
  sub : SubH F s.heap
  base : SubH B s.heap
  le : F0.le F
  fresh : ∀ a o, F a = some o → F0 a = some o ∨ B a = none
  gens : s.gens = g
  os : s.os = os
variable {B F0 F : Fz} {g : Array GenState} {os : OsState} {env : Env} {s : Shared}
theorem St.ctx (st : St W B F0 g os env ρ F s) : Ctx W env ρ F s :=
  ⟨st.sub, st.gr, st.kind, st.glob, st.bui, fun x V h k => by
    cases V with
    | d d => obtain ⟨v, l, r⟩ := st.imm x d h k; exact ⟨v, l, r⟩
    | ol ds => obtain ⟨v, a, l, r, _⟩ := st.own x _ h rfl; exact ⟨v, l, r.rd⟩
    | od ks ds => obtain ⟨v, a, l, r, _⟩ := st.own x _ h rfl; exact ⟨v, l, r.rd⟩
    | oh ds => obtain ⟨v, a, l, r, _⟩ := st.own x _ h rfl; exact ⟨v, l, r.rd⟩⟩
theorem St.ret (st : St W B F0 g os env ρ F s) : Ret W B F0 g os F s := ⟨st.sub, st.base, st.le, st.fresh, st.gens, st.os⟩
theorem Fs.live {h : Heap} (f : Fs env h) {a : Addr} (m : Mut env a) : ∃ o, h.get? a = some o := by
  rcases m with rfl | ⟨_, x, m⟩
  · obtain ⟨_, o, _, _, ho, _⟩ := f.ns; exact ⟨o, ho⟩
  · obtain ⟨_, o, ho, _⟩ := f.cell x a m; exact ⟨o, ho⟩
theorem Fs.keeps {h h' : Heap} (f : Fs env h) (hk : ∀ a o, h.get? a = some o → h'.get? a = some o) : Fs env h' :=
  ⟨let ⟨m, q⟩ := f.ns; ⟨m, q.keeps hk⟩, fun x c e => let ⟨v, q⟩ := f.cell x c e; ⟨v, q.keeps hk⟩, f.apart, f.ne, f.has⟩
theorem Ext.stays {F' : Fz} {s' : Shared} (x : Ext F F' s s') {a : Addr} {o : Obj} (e : s.heap.get? a = some o) (hF : F a = none) : F' a = none := by
  cases q : F' a with
  | none => rfl
  | some p =>
    rcases x.fresh a p q with z | z
    · rw [hF] at z; cases z
    · rw [e] at z; cases z
theorem St.ext {F' : Fz} {s' : Shared} (st : St W B F0 g os env ρ F s) (x : Ext F F' s s') : St W B F0 g os env ρ F' s' :=
  ⟨x.sub, fun a o e => x.le a o (st.gr a o e), st.kind, st.glob, st.bui, st.fs.keeps x.old, fun a o e => x.old a o (st.base a o e), st.mb,
    fun a m => let ⟨o, e⟩ := st.fs.live m; x.stays e (st.mf a m), st.le.trans x.le,
    fun a o e => (x.fresh a o e).elim (fun q => st.fresh a o q) fun q => .inr (st.base.none q),
    fun y d h k => let ⟨v, l, r⟩ := st.imm y d h k; ⟨v, l.keeps x.old, r.mono x.le⟩,
    fun y V h k => let ⟨v, a, l, r, b, f, m⟩ := st.own y V h k; let ⟨o, e⟩ := r.live; ⟨v, a, l.keeps x.old, r.move x.le (fun o e => x.old a o e), b, x.stays e f, m⟩,
    st.own1, x.gens.trans st.gens, x.os.trans st.os⟩
theorem St.weak {ρ' : Vs} (st : St W B F0 g os env ρ F s) (h : ∀ x V, ρ'.lookup x = some V → ρ.lookup x = some V) : St W B F0 g os env ρ' F s :=
  ⟨st.sub, st.gr, st.kind, st.glob, st.bui, st.fs, st.base, st.mb, st.mf, st.le, st.fresh, fun x d e k => st.imm x d (h x _ e) k, fun x V e k => st.own x V (h x V e) k,
    fun x y V V' e e' k k' => st.own1 x y V V' (h x V e) (h y V' e') k k', st.gens, st.os⟩
theorem Ns_unique {h : Heap} {a : Addr} {m m' : Str → Option Value} (x : h.Ns a m) (y : h.Ns a m') (z : Str) : m z = m' z := by
  obtain ⟨o, es, ep, ho, hd, _, hm⟩ := x
  obtain ⟨o', es', ep', ho', hd', _, hm'⟩ := y
  rw [ho] at ho'; cases ho'
  rw [hd] at hd'; cases hd'
  rw [← hm, ← hm']
theorem Cell_unique {h : Heap} {a : Addr} {v v' : Option Value} (x : h.IsCell a v) (y : h.IsCell a v') : v = v' := by
  obtain ⟨o, ho, hd⟩ := x
  obtain ⟨o', ho', hd'⟩ := y
  rw [ho] at ho'; cases ho'
  rw [hd] at hd'; cases hd'; rfl
/-- everything but the frame's address L goes on -/
theorem St.turn {L : Addr} {h' : Heap} {tk : Nat} {ρ' : Vs} {F' : Fz} (st : St W B F0 g os env ρ F s) (hs : Heap.SameBut L s.heap h') (hL : Mut env L) (hfs : Fs env h')
    (hF : F.le F') (hsub : SubH F' h') (hmf : ∀ a, Mut env a → F' a = none) (hfr : ∀ a o, F' a = some o → F0 a = some o ∨ B a = none)
    (himm : ∀ x d, ρ'.lookup x = some (.d d) → inFrame env.scope x = true → ∃ v, Loads env h' x v ∧ Rd W F' d v)
    (hown : ∀ x V, ρ'.lookup x = some V → V.own = true → ∃ v a, Loads env h' x v ∧ VOwn W F' h' V v a ∧ B a = none ∧ F' a = none ∧ ¬ Mut env a)
    (hown1 : ∀ x y V V', ρ'.lookup x = some V → ρ'.lookup y = some V' → V.own = true → V'.own = true → x = y) :
    St W B F0 g os env ρ' F' { s with heap := h', toks := tk } :=
  ⟨hsub, fun a o e => hF a o (st.gr a o e), st.kind, st.glob, st.bui, hfs, fun a o e => (hs.2 a (fun q => by rw [q, st.mb L hL] at e; cases e)).trans (st.base a o e), st.mb, hmf,
    st.le.trans hF, hfr, himm, hown, hown1, st.gens, st.os⟩
def storable (sc : Scope) (x : Str) : Bool := match sc.names.lookup x with
  | some .local | some .cell => true
  | _ => false
/-- the frame with x := v -/
theorem frame_store {x : Str} {v : Value} {M : Model} {A : Around} {E : Value → Shared → Prop} {Q : Unit → Shared → Prop} (hk : env.scope.kind = .function) (fs : Fs env s.heap) (hx : storable env.scope x = true) (hab : ∀ c, env.cells.lookup x = some c → env.locals < c)
    (h : ∀ L h' tk, Mut env L → Heap.SameBut L s.heap h' → Fs env h' → Loads env h' x v → (∀ y u, y ≠ x → Loads env s.heap y u → Loads env h' y u) → Q () { s with heap := h', toks := tk }) :
    wpAny M A (storeName env x v) Q E s := by
  unfold storable at hx
  have hp : (env.scope.kind == .class || (env.scope.kind == .module && env.locals != env.globals)) = false := by rw [hk]; rfl
  cases q : env.scope.names.lookup x with
  | none => rw [q] at hx; cases hx
  | some k =>
    rw [q] at hx
    cases k with
    | «local» =>
      obtain ⟨m, hn⟩ := fs.ns
      refine wpAny_storeName_local q hn (fun h' hn' hs' => h env.locals h' _ (.inl rfl) hs' ⟨⟨_, hn'⟩, fun y c e => ?_, fs.apart, fs.ne, fs.has⟩ (.inl ⟨q, _, hn', by simp⟩) fun y u hne l => ?_) hp
      · obtain ⟨w, z⟩ := fs.cell y c e; exact ⟨w, z.sameBut hs' (fs.ne y c e)⟩
      · rcases l with ⟨k, m', n', e⟩ | ⟨k, c, e, cl⟩
        · refine .inl ⟨k, _, hn', ?_⟩
          rw [if_neg hne, Ns_unique hn n']; exact e
        · exact .inr ⟨k, c, e, cl.sameBut hs' (fs.ne y c e)⟩
    | cell =>
      obtain ⟨c, hc⟩ := Option.isSome_iff_exists.mp (fs.has x q)
      obtain ⟨v₀, hv⟩ := fs.cell x c hc
      refine wpAny_storeName_cell hk q hc hv fun h' hc' hs' => h c h' s.toks (.inr ⟨hab c hc, x, hc⟩) hs' ⟨?_, fun y c' e => ?_, fs.apart, fs.ne, fs.has⟩ (.inr ⟨.inl q, c, hc, hc'⟩) fun y u hne l => ?_
      · obtain ⟨m, hn⟩ := fs.ns; exact ⟨m, hn.sameBut hs' (Ne.symm (fs.ne x c hc))⟩
      · by_cases hcc : c' = c
        · subst hcc; exact ⟨_, hc'⟩
        · obtain ⟨w, z⟩ := fs.cell y c' e; exact ⟨w, z.sameBut hs' hcc⟩
      · rcases l with ⟨k, m', n', e⟩ | ⟨k, c', e, cl⟩
        · exact .inl ⟨k, m', n'.sameBut hs' (Ne.symm (fs.ne x c hc)), e⟩
        · refine .inr ⟨k, c', e, cl.sameBut hs' fun hcc => hne ?_⟩
          subst hcc
          exact fs.apart y x c' e hc (hab c' hc)
    | free => cases hx
    | globalImplicit => cases hx
    | globalExplicit => cases hx
theorem lookup_cons_ne {x y : Str} {V : V} (h : y ≠ x) : List.lookup y ((x, V) :: ρ) = ρ.lookup y := by
  rw [List.lookup_cons]
  have : (y == x) = false := by simpa using h
  rw [this]
theorem lookup_cons_self {x : Str} {V : V} : List.lookup x ((x, V) :: ρ) = some V := by
  rw [List.lookup_cons]; simp
theorem St.store {x : Str} {v : Value} {d : D} {A : Around} {E : Value → Shared → Prop} {Q : Unit → Shared → Prop} (st : St W B F0 g os env ρ F s) (hx : storable env.scope x = true) (hab : ∀ c, env.cells.lookup x = some c → env.locals < c) (r : Rd W F d v)
    (h : ∀ s', St W B F0 g os env ((x, .d d) :: ρ) F s' → Q () s') : wpAny (model W.prog W.w) A (storeName env x v) Q E s := by
  refine frame_store st.kind st.fs hx hab fun L h' tk hL hs hfs l hl => h _ ?_
  have keep : ∀ a, ¬ a = L → ∀ o, s.heap.get? a = some o → h'.get? a = some o := fun a ha o e => (hs.2 a ha).trans e
  refine st.turn hs hL hfs (Fz.le.refl F) (fun a o e => keep a (fun q => by rw [q, st.mf L hL] at e; cases e) o (st.sub a o e)) st.mf st.fresh ?_ ?_ ?_
  · intro y d' e k
    by_cases hy : y = x
    · subst hy; rw [lookup_cons_self] at e; cases e; exact ⟨v, l, r⟩
    · rw [lookup_cons_ne hy] at e
      obtain ⟨u, lu, ru⟩ := st.imm y d' e k
      exact ⟨u, hl y u hy lu, ru⟩
  · intro y V e k
    by_cases hy : y = x
    · subst hy; rw [lookup_cons_self] at e; cases e; cases k
    · rw [lookup_cons_ne hy] at e
      obtain ⟨u, a, lu, ru, b, f, m⟩ := st.own y V e k
      exact ⟨u, a, hl y u hy lu, ru.move (Fz.le.refl F) fun o z => keep a (fun q => m (q ▸ hL)) o z, b, f, m⟩
  · intro y z V V' e e' k k'
    by_cases hy : y = x
    · subst hy; rw [lookup_cons_self] at e; cases e; cases k
    · by_cases hz : z = x
      · subst hz; rw [lookup_cons_self] at e'; cases e'; cases k'
      · rw [lookup_cons_ne hy] at e; rw [lookup_cons_ne hz] at e'
        exact st.own1 y z V V' e e' k k'
def noOwn (ρ : Vs) : Prop := ∀ x V, ρ.lookup x = some V → V.own = false
/-- a new thing of the frame's own, under the name x -/
theorem St.storeOwn {x : Str} {v : Value} {V : V} {a : Addr} {A : Around} {E : Value → Shared → Prop} {Q : Unit → Shared → Prop} (st : St W B F0 g os env ρ F s) (hx : storable env.scope x = true) (hab : ∀ c, env.cells.lookup x = some c → env.locals < c) (hV : V.own = true)
    (r : VOwn W F s.heap V v a) (hB : B a = none) (hF : F a = none) (hM : ¬ Mut env a) (hno : ∀ y V, y ≠ x → ρ.lookup y = some V → V.own = false)
    (h : ∀ s', St W B F0 g os env ((x, V) :: ρ) F s' → Q () s') : wpAny (model W.prog W.w) A (storeName env x v) Q E s := by
  refine frame_store st.kind st.fs hx hab fun L h' tk hL hs hfs l hl => h _ ?_
  have keep : ∀ a, ¬ a = L → ∀ o, s.heap.get? a = some o → h'.get? a = some o := fun a ha o e => (hs.2 a ha).trans e
  refine st.turn hs hL hfs (Fz.le.refl F) (fun a o e => keep a (fun q => by rw [q, st.mf L hL] at e; cases e) o (st.sub a o e)) st.mf st.fresh ?_ ?_ ?_
  · intro y d' e k
    by_cases hy : y = x
    · subst hy; rw [lookup_cons_self] at e; cases e; cases hV
    · rw [lookup_cons_ne hy] at e
      obtain ⟨u, lu, ru⟩ := st.imm y d' e k
      exact ⟨u, hl y u hy lu, ru⟩
  · intro y V' e k
    by_cases hy : y = x
    · subst hy; rw [lookup_cons_self] at e; cases e
      exact ⟨v, a, l, r.move (Fz.le.refl F) fun o z => keep a (fun q => hM (q ▸ hL)) o z, hB, hF, hM⟩
    · rw [lookup_cons_ne hy] at e
      rw [hno y V' hy e] at k; cases k
  · intro y z V1 V2 e e' k k'
    have one : ∀ y V', List.lookup y ((x, V) :: ρ) = some V' → V'.own = true → y = x := fun y V' e k => by
      by_cases hy : y = x
      · exact hy
      · rw [lookup_cons_ne hy] at e; rw [hno y V' hy e] at k; cases k
    rw [one y V1 e k, one z V2 e' k']
/- statements -/
def Post (W : Wd) (B F0 : Fz) (g : Array GenState) (os : OsState) (env : Env) (Rn : Vs → Prop) (Rr : D → Prop) : Flow → Shared → Prop
  | .next, s => ∃ ρ F, Rn ρ ∧ St W B F0 g os env ρ F s
  | .ret v, s => ∃ F d, Rr d ∧ Ret W B F0 g os F s ∧ Rd W F d v
  | _, _ => False
/-- the environment of a def's frame -/
structure FE (sc : Scope) (env : Env) : Prop where
  scope : env.scope = sc
  above : ∀ x c, env.cells.lookup x = some c → env.locals < c
def X (W : Wd) (sc : Scope) (ρ : Vs) (n : Nat) (stmts : List Stmt) (Rn : Vs → Prop) (Rr : D → Prop) : Prop :=
  ∀ env A B F0 g os F s, FE sc env → AOk n A → St W B F0 g os env ρ F s → wpAny (model W.prog W.w) A (execs stmts env) (Post W B F0 g os env Rn Rr) (fun _ _ => False) s
def X1 (W : Wd) (sc : Scope) (ρ : Vs) (n : Nat) (st : Stmt) (Rn : Vs → Prop) (Rr : D → Prop) : Prop :=
  ∀ env A B F0 g os F s, FE sc env → AOk n A → St W B F0 g os env ρ F s → wpAny (model W.prog W.w) A (exec st env) (Post W B F0 g os env Rn Rr) (fun _ _ => False) s
theorem X.nil {Rn : Vs → Prop} {Rr : D → Prop} (h : Rn ρ) : X W sc ρ n [] Rn Rr := fun env A B F0 g os F s _ _ st => wpAny_execs_nil ⟨ρ, F, h, st⟩
theorem X.cons {a : Stmt} {r : List Stmt} {Rm Rn : Vs → Prop} {Rr : D → Prop} (h : X1 W sc ρ n a Rm Rr) (hr : ∀ ρ', Rm ρ' → X W sc ρ' n r Rn Rr) : X W sc ρ n (a :: r) Rn Rr := fun env A B F0 g os F s hs hA st => by
  refine wpAny_execs_cons (wpAny_mono (h env A B F0 g os F s hs hA st) (fun fl s' hp => ?_) fun _ _ x => x)
  cases fl with
  | next => obtain ⟨ρ', F', hm, st'⟩ := hp; exact hr ρ' hm env A B F0 g os F' s' hs hA st'
  | ret v => exact hp
  | brk => exact hp.elim
  | cont => exact hp.elim
theorem X.seq {a : Stmt} {r : List Stmt} {ρ' : Vs} {Rn : Vs → Prop} {Rr : D → Prop} (h : X1 W sc ρ n a (fun z => z = ρ') Rr) (hr : X W sc ρ' n r Rn Rr) : X W sc ρ n (a :: r) Rn Rr :=
  X.cons h fun _ e => e ▸ hr
theorem X.weak {ρ' : Vs} {l : List Stmt} {Rn : Vs → Prop} {Rr : D → Prop} (hw : ∀ x V, ρ'.lookup x = some V → ρ.lookup x = some V) (h : X W sc ρ' n l Rn Rr) : X W sc ρ n l Rn Rr :=
  fun env A B F0 g os F s hs hA st => h env A B F0 g os F s hs hA (st.weak hw)
theorem Post.mono {Rn Rn' : Vs → Prop} {Rr Rr' : D → Prop} {fl : Flow} (h : Post W B F0 g os env Rn Rr fl s) (h1 : ∀ ρ, Rn ρ → Rn' ρ) (h2 : ∀ d, Rr d → Rr' d) : Post W B F0 g os env Rn' Rr' fl s := by
  cases fl with
  | next => obtain ⟨ρ', F', hm, st'⟩ := h; exact ⟨ρ', F', h1 _ hm, st'⟩
  | ret v => obtain ⟨F', d, hd, r, rd⟩ := h; exact ⟨F', d, h2 _ hd, r, rd⟩
  | brk => exact h.elim
  | cont => exact h.elim
theorem X.mono {l : List Stmt} {Rn Rn' : Vs → Prop} {Rr Rr' : D → Prop} (h : X W sc ρ n l Rn Rr) (h1 : ∀ ρ, Rn ρ → Rn' ρ) (h2 : ∀ d, Rr d → Rr' d) : X W sc ρ n l Rn' Rr' :=
  fun env A B F0 g os F s hs hA st => wpAny_mono (h env A B F0 g os F s hs hA st) (fun _ _ p => p.mono h1 h2) fun _ _ x => x
theorem X.up {m : Nat} {l : List Stmt} {Rn : Vs → Prop} {Rr : D → Prop} (h : X W sc ρ m l Rn Rr) (hm : m ≤ n) : X W sc ρ n l Rn Rr := fun env A B F0 g os F s hs hA st => h env A B F0 g os F s hs (hA.le hm) st
theorem X1.assign {x : Str} {pos' pos : Pos} {e : Expr} {d : D} {Rr : D → Prop} (he : Ev W sc ρ n e d) (hx : storable sc x = true)
    (hw : ∀ env, env.scope = sc → swapsWith e (some (.Name x pos')) pos.line env = pure false) : X1 W sc ρ n (.Assign [.Name x pos'] e pos) (fun z => z = (x, .d d) :: ρ) Rr :=
  fun env A B F0 g os F s hs hA st => wpAny_Assign_Name ((he env A F s hs.scope hA st.ctx).then fun v F1 s1 x1 r1 => (st.ext x1).store (hs.scope ▸ hx) (hs.above x) r1 fun s' st' => ⟨_, F1, rfl, st'⟩) (hw env hs.scope)
theorem X1.ret {e : Expr} {pos : Pos} {d : D} {Rn : Vs → Prop} {Rr : D → Prop} (he : Ev W sc ρ n e d) (hd : Rr d) : X1 W sc ρ n (.Return (some e) pos) Rn Rr :=
  fun env A B F0 g os F s hs hA st => wpAny_Return_some ((he env A F s hs.scope hA st.ctx).then fun v F1 s1 x1 r1 => ⟨F1, d, hd, (st.ext x1).ret, r1⟩)
theorem X1.ite {t : Expr} {b1 b2 : List Stmt} {pos : Pos} {b : Bool} {Rn : Vs → Prop} {Rr : D → Prop} (ht : EvT W sc ρ n t b) (h1 : b = true → X W sc ρ n b1 Rn Rr) (h2 : b = false → X W sc ρ n b2 Rn Rr) :
    X1 W sc ρ n (.If t b1 b2 pos) Rn Rr := fun env A B F0 g os F s hs hA st => wpAny_If (EvT.then (ht env A F s hs.scope hA st.ctx) fun F1 s1 x1 => by
  cases b with
  | true => exact h1 rfl env A B F0 g os F1 s1 hs hA (st.ext x1)
  | false => exact h2 rfl env A B F0 g os F1 s1 hs hA (st.ext x1))
end Mine
end

/- L4 -/
section
open PySem
namespace Mine
variable {W : Wd} {sc : Scope} {ρ : Vs} {n : Nat}
def GrF (W : Wd) (F : Fz) : Prop := ∀ a o, W.h1.get? a = some o → F a = some o
/-- a call -/
def Cl (W : Wd) (n : Nat) (f : Value) (ds : List D) (d : D) : Prop :=
  ∀ A F s vs, AOk n A → SubH F s.heap → GrF W F → Rds W F ds vs → Gv W A F s (call f vs) d
theorem Cl.up {m : Nat} {f : Value} {ds : List D} {d : D} (h : Cl W m f ds d) (hm : m ≤ n) : Cl W n f ds d := fun A F s vs hA => h A F s vs (hA.le hm)
theorem bindL_skip {k : Str → Option NameKind} {x : Str} : ∀ (binds : List (Str × Value)) (m : Str → Option Value), x ∉ binds.map (·.1) → bindL k binds m x = m x
  | [], _, _ => rfl
  | (y, u) :: r, m, h => by
    simp only [List.map_cons, List.mem_cons, not_or] at h
    unfold bindL
    rw [bindL_skip r _ h.2]
    split
    · exact if_neg h.1
    · rfl
theorem bindC_skip {k : Str → Option NameKind} {x : Str} : ∀ (binds : List (Str × Value)) (m : Str → Option Value), x ∉ binds.map (·.1) → bindC k binds m x = m x
  | [], _, _ => rfl
  | (y, u) :: r, m, h => by
    simp only [List.map_cons, List.mem_cons, not_or] at h
    unfold bindC
    rw [bindC_skip r _ h.2]
    split
    · rfl
    · exact if_neg h.1
theorem bindL_at {k : Str → Option NameKind} {x : Str} {v : Value} (hk : k x = some .local) : ∀ (binds : List (Str × Value)) (m : Str → Option Value), (binds.map (·.1)).Nodup → binds.lookup x = some v → bindL k binds m x = some v
  | [], _, _, h => by cases h
  | (y, u) :: r, m, nd, h => by
    simp only [List.map_cons, List.nodup_cons] at nd
    unfold bindL
    rw [List.lookup_cons] at h
    by_cases hy : x = y
    · subst hy
      simp only [beq_self_eq_true] at h
      rw [bindL_skip r _ nd.1, if_pos hk, if_pos rfl]; exact h
    · have : (x == y) = false := by simpa using hy
      rw [this] at h
      exact bindL_at hk r _ nd.2 h
theorem bindC_at {k : Str → Option NameKind} {x : Str} {v : Value} (hk : k x ≠ some .local) : ∀ (binds : List (Str × Value)) (m : Str → Option Value), (binds.map (·.1)).Nodup → binds.lookup x = some v → bindC k binds m x = some v
  | [], _, _, h => by cases h
  | (y, u) :: r, m, nd, h => by
    simp only [List.map_cons, List.nodup_cons] at nd
    unfold bindC
    rw [List.lookup_cons] at h
    by_cases hy : x = y
    · subst hy
      simp only [beq_self_eq_true] at h
      rw [bindC_skip r _ nd.1, if_neg hk, if_pos rfl]; exact h
    · have : (x == y) = false := by simpa using hy
      rw [this] at h
      exact bindC_at hk r _ nd.2 h
theorem lookup_args {F : Fz} {x : Str} {U : V} : ∀ {names : List Str} {ds : List D} {vals : List Value}, Rds W F ds vals → (names.zip (ds.map V.d)).lookup x = some U → ∃ d v, U = .d d ∧ (names.zip vals).lookup x = some v ∧ Rd W F d v
  | [], _, _, _, h => by simp at h
  | _ :: _, [], _, _, h => by simp at h
  | _ :: _, _ :: _, [], r, _ => r.elim
  | y :: ns, d :: ds, v :: vs, r, h => by
    simp only [List.map_cons, List.zip_cons_cons, List.lookup_cons] at h ⊢
    cases q : x == y with
    | true => rw [q] at h; cases h; exact ⟨d, v, rfl, rfl, r.1⟩
    | false => rw [q] at h; exact lookup_args r.2 h
theorem map_fst_zip {α β : Type} : ∀ {l : List α} {r : List β}, l.length = r.length → (l.zip r).map (·.1) = l
  | [], [], _ => rfl
  | _ :: _, _ :: _, h => by simp only [List.zip_cons_cons, List.map_cons]; rw [map_fst_zip (by simpa using h)]
  | [], _ :: _, h => by cases h
  | _ :: _, [], h => by cases h
theorem AOk.deeper {A : Around} {env : Env} (h : AOk (n + 1) A) : AOk n (A.deeper env) := ⟨h.handled, by have := h.depth; show A.depth + 1 + n ≤ 900; omega, by have := h.units; show A.units + 3 + 16 * n ≤ 9000; omega⟩
theorem AOk.in1 {A : Around} (h : AOk (n + 1) A) : AOk n A.in1 := ⟨h.handled, by have := h.depth; show A.depth + n ≤ 900; omega, by have := h.units; show A.units + 1 + 16 * n ≤ 9000; omega⟩
theorem AOk.room {A : Around} (h : AOk n A) : A.depth < recursionLimit := by have := h.depth; show A.depth < 1000; omega
theorem AOk.cu {A : Around} (h : AOk n A) : A.units < cLine := by have := h.units; show A.units < 9900; omega
/-- the frame of a def that is called -/
theorem st_start {F : Fz} {s s₁ : Shared} {fd : FuncData} {f : Addr} {names : List Str} {ds : List D} {vals : List Value} (hsub : SubH F s.heap) (hgr : GrF W F) (r : Rds W F ds vals)
    (hk : fd.scope.kind = .function) (hg : fd.globals = mainGlobals) (hb : fd.builtins = builtinsNs) (hn : names.length = ds.length) (nd : names.Nodup)
    (hcells : ∀ x, fd.scope.names.lookup x = some .cell → ∀ m, ((cellsFrom m fd.scope.names []).lookup x).isSome = true)
    (hfr : ∀ x ∈ names, fd.scope.names.lookup x = some .local ∨ fd.scope.names.lookup x = some .cell)
    (x : InCallC s (callEnvC fd s.heap.objs.size f).locals (bindL (callEnvC fd s.heap.objs.size f).kindOf (names.zip vals) fun _ => none) (callEnvC fd s.heap.objs.size f).cells
        (bindC (callEnvC fd s.heap.objs.size f).kindOf (names.zip vals) fun _ => none) s₁) :
    St W (fun a => s.heap.get? a) F s.gens s.os (callEnvC fd s.heap.objs.size f) (names.zip (ds.map V.d)) F s₁ := by
  have keep := x.toInCall.keep
  have hlen : names.length = vals.length := hn.trans r.length.symm
  have hmut : ∀ a, Mut (callEnvC fd s.heap.objs.size f) a → s.heap.get? a = none := fun a m => by
    have hle : s.heap.objs.size ≤ a := by
      rcases m with rfl | ⟨_, y, e⟩
      · exact Nat.le_refl _
      · exact Nat.le_of_lt (x.above y a (mem_of_lookup e))
    cases q : s.heap.get? a with
    | none => rfl
    | some o => exact absurd (Heap.lt_size q) (Nat.not_lt.mpr hle)
  refine ⟨fun a o e => keep a o (hsub a o e), hgr, hk, hg, hb, ⟨⟨_, x.toInCall.ns⟩, fun y c e => ⟨_, x.cell y c e⟩, fun y z c e e' _ => name_of_addr x.apart (mem_of_lookup e) (mem_of_lookup e'), fun y c e => Nat.ne_of_gt (x.above y c (mem_of_lookup e)), fun y e => hcells y e _⟩,
    keep, hmut, fun a m => hsub.none (hmut a m), Fz.le.refl F, fun a o e => .inl e, ?_, ?_, ?_, ?_, ?_⟩
  · intro y d e _
    obtain ⟨d', v, e1, e2, e3⟩ := lookup_args r e
    cases e1
    have hy : y ∈ names := by
      have := List.mem_map_of_mem (f := (·.1)) (mem_of_lookup e2)
      rwa [map_fst_zip hlen] at this
    have nd' : ((names.zip vals).map (·.1)).Nodup := by rw [map_fst_zip hlen]; exact nd
    refine ⟨v, ?_, e3⟩
    rcases hfr y hy with q | q
    · exact .inl ⟨q, _, x.toInCall.ns, bindL_at q _ _ nd' e2⟩
    · obtain ⟨c, hc⟩ := Option.isSome_iff_exists.mp (hcells y q (s.heap.objs.size + 1))
      refine .inr ⟨.inl q, c, hc, ?_⟩
      have := x.cell y c hc
      rwa [bindC_at (by intro z; rw [show (callEnvC fd s.heap.objs.size f).kindOf y = fd.scope.names.lookup y from rfl, q] at z; cases z) _ _ nd' e2] at this
  · intro y V e k
    obtain ⟨d', v, e1, _⟩ := lookup_args r e
    subst e1; cases k
  · intro y z V V' e e' k k'
    obtain ⟨d', v, e1, _⟩ := lookup_args r e
    subst e1; cases k
  · obtain ⟨h, tk, q⟩ := x.toInCall.same; rw [q]
  · obtain ⟨h, tk, q⟩ := x.toInCall.same; rw [q]
theorem Cl.fn {f : Addr} {o : Obj} {fd : FuncData} {body : List Stmt} {names : List Str} {ds : List D} {d : D} (G : Gd W) (ho : W.h1.get? f = some o) (hd : o.data = .func fd) (hbody : fd.body = .stmts body)
    (hcd : W.h1.CodeRec fd.code fd.qualname) (hclo : fd.closure = []) (hn : names.length = ds.length) (hbind : ∀ vals : List Value, vals.length = ds.length → bindArgs fd ⟨vals, []⟩ = pure (names.zip vals)) (nd : names.Nodup)
    (hcells : ∀ x, fd.scope.names.lookup x = some .cell → ∀ m, ((cellsFrom m fd.scope.names []).lookup x).isSome = true)
    (hfr : ∀ x ∈ names, fd.scope.names.lookup x = some .local ∨ fd.scope.names.lookup x = some .cell)
    (hk : fd.scope.kind = .function) (hg : fd.globals = mainGlobals) (hb : fd.builtins = builtinsNs) (hco : fd.scope.isCoroutine = false) (hgen : fd.scope.isGenerator = false)
    (hX : X W fd.scope (names.zip (ds.map V.d)) n body (fun _ => False) (fun d' => d' = d)) : Cl W (n + 1) (.ref f) ds d := fun A F s vs hA hsub hgr r => by
  have k1 : ∀ a o, W.h1.get? a = some o → s.heap.get? a = some o := fun a o e => hsub a o (hgr a o e)
  have hlen : names.length = vs.length := hn.trans r.length.symm
  refine wpAny_call (codeAny_call_cells (fd := fd) (binds := names.zip vs) hA.room (k1 _ _ ho) hd (G.lim.keeps k1) (hcd.keeps k1) hbody (hbind vs r.length) hclo ?_ (fun s₁ x => ?_) hco hgen hk)
  · intro z hz
    have : z.1 ∈ names := by
      have := List.mem_map_of_mem (f := (·.1)) hz
      rwa [map_fst_zip hlen] at this
    rcases hfr _ this with q | q
    · exact .inl q
    · exact .inr ⟨q, hcells _ q _⟩
  · have st := st_start (W := W) (f := f) hsub hgr r hk hg hb hn nd hcells hfr x
    refine wpAny_mono (hX _ _ _ _ _ _ _ _ ⟨rfl, fun y c e => x.above y c (mem_of_lookup e)⟩ hA.deeper st) (fun fl s' hp => ?_) fun _ _ y => y.elim
    cases fl with
    | next => obtain ⟨_, _, hf, _⟩ := hp; exact hf.elim
    | brk => exact hp.elim
    | cont => exact hp.elim
    | ret v =>
      obtain ⟨F', d', rfl, rt, rd⟩ := hp
      exact ⟨F', ⟨rt.base, rt.sub, rt.le, rt.fresh, rt.gens, rt.os⟩, rd⟩
/-- the arguments of a call -/
theorem evalArgs_evs {e : Expr} {es : List Expr} {ds : List D} {f : Value} {env : Env} {A : Around} {F : Fz} {s : Shared} {pos : Pos} {Q : Args → Shared → Prop} {E : Value → Shared → Prop} (ha : Evs W sc ρ n (e :: es) ds)
    (hp : ∀ env, starEach (e :: es) env = (false, eval e env) :: starEach es env) (hs : env.scope = sc) (hA : AOk n A) (c : Ctx W env ρ F s)
    (h : ∀ vs F' s', Ext F F' s s' → Rds W F' ds vs → Q ⟨vs, []⟩ s') : wpAny (model W.prog W.w) A (evalArgs f true (backTo pos (starEach (e :: es) env)) []) Q E s := by
  have hq := ha env A F s pos hs hA c
  rw [hp env] at hq ⊢
  exact Calls.evalArgs_plain (wpAny_mono hq (fun vs s' ⟨F', x, r⟩ => h vs F' s' x r) fun _ _ y => y.elim)
theorem notStar {e : Expr} {es : List Expr} (pos : Pos) (env : Env) (hp : ∀ env, starEach (e :: es) env = (false, eval e env) :: starEach es env) (hq : ∀ env, (starEach es env).any (·.1) = false) : (backTo pos (starEach (e :: es) env)).any (·.1) = false := by
  rw [hp env]
  have : ∀ l : List (Bool × Sem Value), l.any (·.1) = false → (backTo pos l).any (·.1) = false := fun l h => by
    unfold backTo
    rw [List.any_map]
    simpa [Function.comp_def] using h
  exact this _ (by simp only [List.any_cons, Bool.false_or]; exact hq env)
theorem Ev.callF {func e : Expr} {es : List Expr} {pos : Pos} {f : Addr} {o : Obj} {fd : FuncData} {ds : List D} {d : D} (hf : Ev W sc ρ n func (.val (.ref f))) (ha : Evs W sc ρ n (e :: es) ds)
    (ho : W.h1.get? f = some o) (hd : o.data = .func fd) (hc : Cl W n (.ref f) ds d) (hp : ∀ env, starEach (e :: es) env = (false, eval e env) :: starEach es env)
    (he : ∀ env, eval (.Call func (e :: es) [] pos) env = (do callWith pos (← eval func env) [] (backTo pos (starEach (e :: es) env)) (backToKw pos (keywordEach [] env)))) :
    Ev W sc ρ n (.Call func (e :: es) [] pos) d := fun env A F s hs hA c =>
  PyProof.Rows.Call_ ((hf env A F s hs hA c).then fun v F1 s1 x1 r1 => by
    simp only [Rd] at r1
    subst r1
    refine Calls.callWith_function (o := o) (fd := fd) (evalArgs_evs ha hp hs hA (c.ext x1) fun vs F2 s2 x2 r2 => ⟨⟨x2.sub _ _ (x2.le _ _ (x1.le _ _ (c.gr _ _ ho))), hd⟩, ?_⟩)
    exact Gv.of_ext (x1.trans x2) (hc A F2 s2 vs hA x2.sub (fun a o e => x2.le _ _ (x1.le _ _ (c.gr a o e))) r2)) (he env)
theorem Ev.callB {func e : Expr} {es : List Expr} {pos : Pos} {id : String} {ds : List D} {d : D} (hf : Ev W sc ρ n func (.val (.builtin id))) (ha : Evs W sc ρ n (e :: es) ds)
    (hc : Cl W n (.builtin id) ds d) (hp : ∀ env, starEach (e :: es) env = (false, eval e env) :: starEach es env) (hq : ∀ env, (starEach es env).any (·.1) = false)
    (he : ∀ env, eval (.Call func (e :: es) [] pos) env = (do callWith pos (← eval func env) [] (backTo pos (starEach (e :: es) env)) (backToKw pos (keywordEach [] env)))) :
    Ev W sc ρ n (.Call func (e :: es) [] pos) d := fun env A F s hs hA c =>
  PyProof.Rows.Call_ ((hf env A F s hs hA c).then fun v F1 s1 x1 r1 => by
    simp only [Rd] at r1
    subst r1
    refine Calls.callWith_builtin (notStar pos env hp hq) (evalArgs_evs ha hp hs hA (c.ext x1) fun vs F2 s2 x2 r2 => ?_)
    exact Gv.of_ext (x1.trans x2) (hc A F2 s2 vs hA x2.sub (fun a o e => x2.le _ _ (x1.le _ _ (c.gr a o e))) r2)) (he env)
theorem Ev.callT {func e : Expr} {es : List Expr} {pos : Pos} {id : String} {ds : List D} {d : D} (hf : Ev W sc ρ n func (.val (.type id))) (ha : Evs W sc ρ n (e :: es) ds)
    (hc : Cl W n (.type id) ds d) (hp : ∀ env, starEach (e :: es) env = (false, eval e env) :: starEach es env) (hq : ∀ env, (starEach es env).any (·.1) = false)
    (he : ∀ env, eval (.Call func (e :: es) [] pos) env = (do callWith pos (← eval func env) [] (backTo pos (starEach (e :: es) env)) (backToKw pos (keywordEach [] env)))) :
    Ev W sc ρ n (.Call func (e :: es) [] pos) d := fun env A F s hs hA c =>
  PyProof.Rows.Call_ ((hf env A F s hs hA c).then fun v F1 s1 x1 r1 => by
    simp only [Rd] at r1
    subst r1
    refine callWith_type (notStar pos env hp hq) (evalArgs_evs ha hp hs hA (c.ext x1) fun vs F2 s2 x2 r2 => ?_)
    exact Gv.of_ext (x1.trans x2) (hc A F2 s2 vs hA x2.sub (fun a o e => x2.le _ _ (x1.le _ _ (c.gr a o e))) r2)) (he env)
/- built-in functions -/
theorem cl_len_str (l : List Nat) (hl : l.length ≤ 100000) : Cl W n (.builtin "len") [.str (sOf l)] (.int l.length) := fun A F s vs _ h _ r => by
  match vs, r with
  | [v], r =>
    obtain ⟨t, rfl⟩ := (by simpa only [Rd] using r.1 : ∃ t, v = .str (sOf l) t)
    refine P.len_str (by rw [sOf_length]; omega) ⟨F, Ext.toks h _, ?_⟩
    simp only [Rd, sOf_length]; exact ⟨_, rfl⟩
theorem cl_len_list (ds : List D) (hl : ds.length ≤ 100000) : Cl W n (.builtin "len") [.list ds] (.int ds.length) := fun A F s vs _ h _ r => by
  match vs, r with
  | [v], r =>
    obtain ⟨a, ws, m, rfl, ho, rr⟩ := (by simpa only [Rd] using r.1 : ∃ a vs n, v = .ref a ∧ F a = some (lstObj vs n) ∧ Rds W F ds vs)
    have := rr.length
    refine PyProof.Rows.len_list (lst_isList (h _ _ ho)) (by simp; omega) ⟨F, Ext.toks h _, ?_⟩
    simp only [Rd]; exact ⟨s.toks + 1, by simp [this]⟩
theorem cl_min2 (a b : Int) : Cl W n (.builtin "min") [.int a, .int b] (.int (min a b)) := fun A F s vs hA h _ r => by
  match vs, r with
  | [u, v], r =>
    obtain ⟨t, rfl⟩ := (by simpa only [Rd] using r.1 : ∃ t, u = .int a t)
    obtain ⟨t', rfl⟩ := (by simpa only [Rd] using r.2.1 : ∃ t, v = .int b t)
    refine min_two_ints hA.handled fun h' tk hk => ⟨F, Ext.grow h h' tk hk, ?_⟩
    simp only [Rd]
    by_cases c : b < a
    · rw [if_pos c, show min a b = b by omega]; exact ⟨_, rfl⟩
    · rw [if_neg c, show min a b = a by omega]; exact ⟨_, rfl⟩
end Mine
end

/- L5 -/
section
open PySem
namespace Mine
variable {W : Wd} {sc : Scope} {ρ : Vs} {n : Nat}
/-- as Ext, but for the addresses wr -/
structure ExtX (wr : List Addr) (F F' : Fz) (s s' : Shared) : Prop where
  old : ∀ a o, a ∉ wr → s.heap.get? a = some o → s'.heap.get? a = some o
  sub : SubH F' s'.heap
  le : F.le F'
  fresh : ∀ a o, F' a = some o → F a = some o ∨ s.heap.get? a = none
  gens : s'.gens = s.gens
  os : s'.os = s.os
structure Itr (W : Wd) (A : Around) (tgt : Expr) (I : Addr) (wr : List Addr) (ds : List D) (F₀ : Fz) (Si : Nat → Heap → Prop) : Prop where
  frame : ∀ i h h', Si i h → SubH F₀ h' → (∀ b ∈ wr, ∀ o, h.get? b = some o → h'.get? b = some o) → Si i h'
  live : ∀ i h, Si i h → ∀ b ∈ wr, ∃ o, h.get? b = some o
  step : ∀ i s F d, ds[i]? = some d → Si i s.heap → SubH F s.heap → F₀.le F → (∀ b ∈ wr, F b = none) →
    wpAny (model W.prog W.w) A (pyNext (.ref I)) (fun r s1 => ∃ v, r = some v ∧ wpAny (model W.prog W.w) A (letOwnedTupleGo tgt (.ref I) v)
      (fun _ s2 => ∃ F', ExtX wr F F' s s2 ∧ Rd W F' d v ∧ Si (i + 1) s2.heap) (fun _ _ => False) s1) (fun _ _ => False) s
  done : ∀ s F, Si ds.length s.heap → SubH F s.heap → F₀.le F → (∀ b ∈ wr, F b = none) →
    wpAny (model W.prog W.w) A (pyNext (.ref I)) (fun r s1 => r = none ∧ ExtX wr F F s s1) (fun _ _ => False) s
  self : ∀ i s (Q : Value → Shared → Prop) (E : Value → Shared → Prop), Si i s.heap → Q (.ref I) s → wpAny (model W.prog W.w) A (pyIter (.ref I)) Q E s
def ownTupleTypes : List String := ["enumerate", "zip", "dict_itemiterator", "dict_reverseitemiterator", "odict_iterator", "itertools.zip_longest", "itertools.pairwise"]
theorem letGo_plain {A : Around} {s : Shared} {tgt : Expr} {I : Addr} {v : Value} {o : Obj} {T : String} {Q : Unit → Shared → Prop} {E : Value → Shared → Prop} (ho : s.heap.get? I = some o) (hc : o.cls = .type T) (hT : ownTupleTypes.contains T = false)
    (h : Q () s) : wpAny (model W.prog W.w) A (letOwnedTupleGo tgt (.ref I) v) Q E s := by
  unfold letOwnedTupleGo
  split
  · cases v with
    | ref a =>
      refine wpAny_bind (wpAny_load ho ?_)
      obtain ⟨c, d, dt, sl⟩ := o
      simp only at hc
      subst hc
      cases dt with
      | fields vs =>
        show wpAny _ A (if (ownTupleTypes.contains T && vs[0]? == some (rawInt a)) = true then _ else _) Q E s
        rw [hT]; exact wpAny_pure h
      | _ => exact wpAny_pure h
    | _ => exact wpAny_pure h
  · cases v with
    | ref a =>
      refine wpAny_bind (wpAny_load ho ?_)
      obtain ⟨c, d, dt, sl⟩ := o
      simp only at hc
      subst hc
      cases dt with
      | fields vs =>
        show wpAny _ A (if (ownTupleTypes.contains T && vs[0]? == some (rawInt a)) = true then _ else _) Q E s
        rw [hT]; exact wpAny_pure h
      | _ => exact wpAny_pure h
    | _ => exact wpAny_pure h
  · exact wpAny_pure h
/-- out of the library's walks -/
theorem Itr.of {A : Around} {tgt : Expr} {I : Addr} {fp : List Addr} {m : Nat} {P : Nat → Value → Prop} {Si : Nat → Heap → Prop} {ds : List D} {F₀ : Fz} (wk : Walks W.prog W.w A I fp [I] m P Si) (hm : m = ds.length)
    (hframe : ∀ i h h', Si i h → SubH F₀ h' → (∀ o, h.get? I = some o → h'.get? I = some o) → Si i h')
    (hP : ∀ i v d, P i v → ds[i]? = some d → Rd W F₀ d v)
    (hcls : ∀ i h, Si i h → ∃ o T, h.get? I = some o ∧ o.cls = .type T ∧ ownTupleTypes.contains T = false) : Itr W A tgt I [I] ds F₀ Si where
  frame := fun i h h' st hs hk => hframe i h h' st hs fun o e => hk I (by simp) o e
  live := fun i h st b hb => by
    simp at hb; subst hb
    obtain ⟨o, _, e, _⟩ := hcls i h st; exact ⟨o, e⟩
  step := fun i s F d hd st hs hle hwr => by
    have hi : i < m := by rw [hm]; exact (List.getElem?_eq_some_iff.mp hd).1
    refine wk.item i s _ _ hi st fun v h' tk hv st' hk => ⟨v, rfl, ?_⟩
    obtain ⟨o, T, ho, hc, hT⟩ := hcls (i + 1) h' st'
    have hsub : SubH F h' := fun a o e => hk a o (fun z => by simp at z; subst z; rw [hwr a (by simp)] at e; cases e) (hs a o e)
    exact letGo_plain ho hc hT ⟨F, ⟨fun a o ha e => hk a o ha e, hsub, Fz.le.refl F, fun _ _ e => .inl e, rfl, rfl⟩, (hP i v d hv hd).mono hle, st'⟩
  done := fun s F st hs hle hwr => wk.done s _ _ (hm ▸ st) fun h' tk hk => ⟨rfl, fun a o ha e => hk a o ha e,
    fun a o e => hk a o (fun z => by simp at z; subst z; rw [hwr a (by simp)] at e; cases e) (hs a o e), Fz.le.refl F, fun _ _ e => .inl e, rfl, rfl⟩
  self := fun i s Q E st hQ => wk.self i s Q E st hQ
/-- an iterable expression: what it walks through -/
def It (W : Wd) (sc : Scope) (ρ : Vs) (n : Nat) (iter tgt : Expr) (ds : List D) : Prop :=
  ∀ env A F s, env.scope = sc → AOk n A → Ctx W env ρ F s →
    wpAny (model W.prog W.w) A (eval iter env) (fun x s1 => wpAny (model W.prog W.w) A (pyIter x) (fun it s2 =>
      ∃ F' I wr Si, it = .ref I ∧ Ext F F' s s2 ∧ Itr W A tgt I wr ds F' Si ∧ Si 0 s2.heap ∧ (∀ b ∈ wr, s.heap.get? b = none ∧ F' b = none)) (fun _ _ => False) s1) (fun _ _ => False) s
theorem it_end {A : Around} {tgt : Expr} {I : Addr} {ds : List D} {F F1 : Fz} {s s1 : Shared} {o : Obj} {Si : Nat → Heap → Prop} (x1 : Ext F F1 s s1) (hI : I = s1.heap.objs.size)
    (k : Itr W A tgt I [I] ds F1 Si) (st : Si 0 (s1.heap.push o)) :
    ∃ F' I' wr Si', Value.ref I = .ref I' ∧ Ext F F' s { s1 with heap := s1.heap.push o } ∧ Itr W A tgt I' wr ds F' Si' ∧ Si' 0 (s1.heap.push o) ∧ (∀ b ∈ wr, s.heap.get? b = none ∧ F' b = none) := by
  subst hI
  refine ⟨F1, _, _, Si, rfl, x1.trans (Ext.grow x1.sub _ s1.toks fun _ _ e => Heap.get?_push_of_some o e), k, st, fun b hb => ?_⟩
  simp at hb; subst hb
  exact ⟨none_of_old x1.old (get?_size _), x1.sub.none (get?_size _)⟩
theorem It.list {iter tgt : Expr} {ds : List D} (h : Ev W sc ρ n iter (.list ds)) : It W sc ρ n iter tgt ds := fun env A F s hs hA c => (h env A F s hs hA c).then fun v F1 s1 x1 r1 => by
  simp only [Rd] at r1
  obtain ⟨a, vs, m, rfl, ho, r⟩ := r1
  have hl := lst_isList (x1.sub _ _ ho)
  have hne : a ≠ s1.heap.objs.size := Nat.ne_of_lt (x1.sub.lt ho)
  refine wpAny_pyIter_list hl (it_end x1 rfl (Itr.of (Walks.list hA.handled s1.heap.objs.size a hne vs.toArray) (by simp [r.length]) ?_ ?_ ?_) ?_)
  · intro i h h' st hs hk
    exact ⟨st.1.at hk, lst_isList (hs _ _ ho)⟩
  · intro i v d hv hd
    obtain ⟨u, hu, ru⟩ := r.get hd
    simp at hv
    rw [hu] at hv; cases hv
    exact ru
  · intro i h st
    obtain ⟨o, e1, e2, _⟩ := st.1
    exact ⟨o, _, e1, e2, by decide⟩
  · exact ⟨⟨_, Heap.get?_push_size _ rfl, rfl, rfl⟩, hl.push _⟩
theorem tup_isTuple {h : Heap} {a : Addr} {vs : List Value} {m : Nat} (e : h.get? a = some (tupObj vs m)) : h.IsTuple a vs.toArray := ⟨_, e, rfl, m, rfl⟩
theorem It.tup {iter tgt : Expr} {ds : List D} (h : Ev W sc ρ n iter (.tup ds)) : It W sc ρ n iter tgt ds := fun env A F s hs hA c => (h env A F s hs hA c).then fun v F1 s1 x1 r1 => by
  simp only [Rd] at r1
  obtain ⟨a, vs, m, rfl, ho, r⟩ := r1
  have hl := tup_isTuple (x1.sub _ _ ho)
  have hne : a ≠ s1.heap.objs.size := Nat.ne_of_lt (x1.sub.lt ho)
  refine wpAny_pyIter_tuple hl (it_end x1 rfl (Itr.of (Walks.tuple hA.handled s1.heap.objs.size a hne vs.toArray) (by simp [r.length]) ?_ ?_ ?_) ?_)
  · intro i h h' st hs hk
    exact ⟨st.1.at hk, tup_isTuple (hs _ _ ho)⟩
  · intro i v d hv hd
    obtain ⟨u, hu, ru⟩ := r.get hd
    simp at hv
    rw [hu] at hv; cases hv
    exact ru
  · intro i h st
    obtain ⟨o, e1, e2, _⟩ := st.1
    exact ⟨o, _, e1, e2, by decide⟩
  · exact ⟨⟨_, Heap.get?_push_size _ rfl, rfl, rfl⟩, tup_isTuple (Heap.get?_push_of_some _ (x1.sub _ _ ho))⟩
theorem It.str {iter tgt : Expr} {l : List Nat} (h : Ev W sc ρ n iter (.str (sOf l))) (hl : ∀ c ∈ l, c < 128) : It W sc ρ n iter tgt (l.map fun c => .str (sOf [c])) := fun env A F s hs hA c => (h env A F s hs hA c).then fun v F1 s1 x1 r1 => by
  simp only [Rd] at r1
  obtain ⟨t, rfl⟩ := r1
  have ha : (sOf l).cps.all (· < 128) = true := by simpa [sOf] using hl
  refine wpAny_pyIter_ascii ha (it_end x1 rfl (Itr.of (Walks.strAscii hA.handled s1.heap.objs.size (sOf l) t) (by simp [sOf]) ?_ ?_ ?_) ?_)
  · intro i h h' st hs hk
    obtain ⟨o, ho, r⟩ := st
    exact ⟨o, hk o ho, r⟩
  · intro i v d hv hd
    obtain ⟨k, u, hk, rfl⟩ := hv
    simp only [List.getElem?_map, Option.map_eq_some_iff] at hd
    obtain ⟨k', e, rfl⟩ := hd
    simp [sOf] at hk
    rw [e] at hk; cases hk
    simp only [Rd]; exact ⟨u, rfl⟩
  · intro i h st
    obtain ⟨o, e1, e2, _⟩ := st
    exact ⟨o, _, e1, e2, by decide⟩
  · exact ⟨_, Heap.get?_push_size _ rfl, rfl, rfl⟩
theorem It.rng {iter tgt : Expr} {a b c : Int} {k : Nat} (h : Ev W sc ρ n iter (.rng a b c)) (hsm : Builtin.Range.small a b c = true) (hk : Builtin.Range.rangeSize a b c = k) :
    It W sc ρ n iter tgt ((List.range k).map fun i : Nat => D.int (a + (i : Int) * c)) := fun env A F s hs hA cx => (h env A F s hs hA cx).then fun v F1 s1 x1 r1 => by
  simp only [Rd] at r1
  obtain ⟨r, t, t', t'', rfl, ho⟩ := r1
  refine wpAny_pyIter_range (x1.sub _ _ ho) hsm ?_
  refine it_end x1 rfl (Itr.of (Walks.range hA.handled s1.heap.objs.size a c k) (by simp) ?_ ?_ ?_) ?_
  · intro i h h' st hs hk
    exact hk _ st
  · intro i v d hv hd
    obtain ⟨u, rfl⟩ := hv
    simp only [List.getElem?_map, Option.map_eq_some_iff] at hd
    obtain ⟨j, e, rfl⟩ := hd
    obtain ⟨_, rfl⟩ := List.getElem?_eq_some_iff.mp e
    simp only [Rd]; exact ⟨u, by simp⟩
  · intro i h st
    exact ⟨_, _, st, rfl, by decide⟩
  · have := Heap.get?_push_size s1.heap (o := { cls := .type "range_iterator", data := .fields #[rawInt a, rawInt (Builtin.Range.rangeSize a b c), rawInt c] }) rfl
    show IsRangeIter _ _ _ _ _
    unfold IsRangeIter
    rw [this, hk]
    simp
/- ranges made -/
theorem cl_range1 (b : Int) : Cl W n (.type "range") [.int b] (.rng 0 b 1) := fun A F s vs _ h _ r => by
  match vs, r with
  | [v], r =>
    obtain ⟨t, rfl⟩ := (by simpa only [Rd] using r.1 : ∃ t, v = .int b t)
    refine call_range_1 ⟨_, Ext.push h _ rfl _, ?_⟩
    simp only [Rd]; exact ⟨_, _, _, _, rfl, Fz.put_self ..⟩
theorem cl_range2 (a b : Int) : Cl W n (.type "range") [.int a, .int b] (.rng a b 1) := fun A F s vs _ h _ r => by
  match vs, r with
  | [u, v], r =>
    obtain ⟨t, rfl⟩ := (by simpa only [Rd] using r.1 : ∃ t, u = .int a t)
    obtain ⟨t', rfl⟩ := (by simpa only [Rd] using r.2.1 : ∃ t, v = .int b t)
    refine call_range_2 ⟨_, Ext.push h _ rfl _, ?_⟩
    simp only [Rd]; exact ⟨_, _, _, _, rfl, Fz.put_self ..⟩
theorem cl_range3 (a b c : Int) (hc : c ≠ 0) (h1 : (b - a).natAbs < 1000000) (h2 : c.natAbs < 1000000) : Cl W n (.type "range") [.int a, .int b, .int c] (.rng a b c) := fun A F s vs _ h _ r => by
  match vs, r with
  | [u, v, x], r =>
    obtain ⟨t, rfl⟩ := (by simpa only [Rd] using r.1 : ∃ t, u = .int a t)
    obtain ⟨t', rfl⟩ := (by simpa only [Rd] using r.2.1 : ∃ t, v = .int b t)
    obtain ⟨t'', rfl⟩ := (by simpa only [Rd] using r.2.2.1 : ∃ t, x = .int c t)
    refine call_range_3 hc ⟨_, Ext.push h _ rfl _, ?_⟩ (Or.inl (PyProof.noPylong_small (by omega)))
    simp only [Rd]; exact ⟨_, _, _, _, rfl, Fz.put_self ..⟩
/- enumerate -/
theorem Itr.enum {A : Around} {elts : List Expr} {k : Nat} {pos : Pos} {e it l : Addr} {ds : List D} {F₀ : Fz} {vs : List Value} {m : Nat} (hh : A.handled = none) (ho : F₀ l = some (lstObj vs m)) (r : Rds W F₀ ds vs) (hei : e ≠ it) :
    Itr W A (.Tuple elts k pos) e [e, it] ((List.range ds.length).zipWith (fun i d => .tup [.int (i : Nat), d]) ds) F₀ (fun i h => (∃ old, IsEnum h e it i old) ∧ h.IsListIter it l i ∧ h.IsList l vs.toArray) where
  frame := fun i h h' st hs hk => by
    obtain ⟨⟨old, he⟩, hit, hl⟩ := st
    exact ⟨⟨old, hk e (by simp) _ he⟩, hit.at fun o x => hk it (by simp) o x, lst_isList (hs _ _ ho)⟩
  live := fun i h st b hb => by
    obtain ⟨⟨old, he⟩, ⟨o, hit, _⟩, hl⟩ := st
    simp at hb; rcases hb with rfl | rfl
    · exact ⟨_, he⟩
    · exact ⟨_, hit⟩
  step := fun i s F d hd st hs hle hwr => by
    obtain ⟨⟨old, he⟩, hit, hl⟩ := st
    simp only [List.getElem?_zipWith] at hd
    have hi : i < ds.length := by
      rcases Nat.lt_or_ge i ds.length with q | q
      · exact q
      · rw [show (List.range ds.length)[i]? = none from List.getElem?_eq_none (by simpa using q)] at hd; simp at hd
    have e1 : (List.range ds.length)[i]? = some i := by simp [hi]
    have e2 : ds[i]? = some ds[i] := List.getElem?_eq_getElem hi
    rw [e1, e2] at hd
    simp at hd
    subst hd
    obtain ⟨u, hu, ru⟩ := r.get e2
    have hx : vs.toArray[i]? = some u := by simpa using hu
    refine wpAny_pyNext_enum_item he hit hl hx hei fun h' ho' hit' hT hsz hk => ⟨_, rfl, ?_⟩
    refine wpAny_letOwnedTupleGo_enum ho' fun h'' he'' hs'' => ?_
    have hne : s.heap.objs.size ≠ e := Nat.ne_of_gt (Heap.lt_size he)
    have hT' : h''.get? s.heap.objs.size = some (tupObj [.int i s.toks, u] 0) := (hs''.2 _ hne).trans hT
    have keep : ∀ a o, a ∉ [e, it] → s.heap.get? a = some o → h''.get? a = some o := fun a o ha x => by
      simp at ha
      exact (hs''.2 a ha.1).trans (hk a o ha.1 ha.2 x)
    have hsub : SubH F h'' := fun a o x => keep a o (fun z => by rw [hwr a z] at x; cases x) (hs a o x)
    have hno : F s.heap.objs.size = none := hs.none (get?_size _)
    refine ⟨F.put s.heap.objs.size (tupObj [.int i s.toks, u] 0), ⟨keep, hsub.put hT', Fz.le_put _ hno, fun a o x => ?_, rfl, rfl⟩, ?_, ⟨_, he''⟩, ?_, ?_⟩
    · by_cases q : a = s.heap.objs.size
      · subst q; exact .inr (get?_size _)
      · rw [Fz.put_ne _ _ q] at x; exact .inl x
    · simp only [Rd]
      exact ⟨_, _, _, rfl, Fz.put_self .., ⟨_, rfl⟩, (ru.mono hle).mono (Fz.le_put _ hno), trivial⟩
    · exact hit'.at fun o x => (hs''.2 it (Ne.symm hei)).trans x
    · exact lst_isList (hsub _ _ (hle _ _ ho))
  done := fun s F st hs hle hwr => by
    have hlen : ((List.range ds.length).zipWith (fun (i : Nat) d => D.tup [.int (i : Nat), d]) ds).length = ds.length := by simp
    rw [hlen] at st
    obtain ⟨⟨old, he⟩, hit, hl⟩ := st
    refine wpAny_pyNext_enum_end hh he hit hl (by simp [r.length]) fun h' hx => ⟨rfl, fun a o ha x => hx a o (fun z => ha (by simp [z])) x, fun a o x => ?_, Fz.le.refl F, fun _ _ x => .inl x, rfl, rfl⟩
    exact hx a o (fun z => by subst z; rw [hwr a (by simp)] at x; cases x) (hs a o x)
  self := fun i s Q E st hQ => by
    obtain ⟨⟨old, he⟩, _, _⟩ := st
    exact wpAny_pyIter_enum he hQ
theorem It.enum {func e : Expr} {pos : Pos} {elts : List Expr} {k : Nat} {pos' : Pos} {ds : List D} (hf : Ev W sc ρ n func (.val (.type "enumerate"))) (ha : Ev W sc ρ n e (.list ds)) (hp : ∀ env, starEach [e] env = [(false, eval e env)])
    (he : ∀ env, eval (.Call func [e] [] pos) env = (do callWith pos (← eval func env) [] (backTo pos (starEach [e] env)) (backToKw pos (keywordEach [] env)))) :
    It W sc ρ n (.Call func [e] [] pos) (.Tuple elts k pos') ((List.range ds.length).zipWith (fun i d => .tup [.int (i : Nat), d]) ds) := fun env A F s hs hA c =>
  PyProof.Rows.Call_ ((hf env A F s hs hA c).then fun v F1 s1 x1 r1 => by
    simp only [Rd] at r1
    subst r1
    have hp' : backTo pos (starEach [e] env) = [(false, eval e env)] := by rw [hp env]; rfl
    rw [hp']
    refine callWith_type1 ((ha env A F1 s1 hs hA (c.ext x1)).then fun v F2 s2 x2 r2 => ?_)
    simp only [Rd] at r2
    obtain ⟨a, vs, m, rfl, ho, r⟩ := r2
    have hlt := x2.sub.lt ho
    refine call_enumerate_list (lst_isList (x2.sub _ _ ho)) fun h' hE hI hz hk => ?_
    refine wpAny_pyIter_enum hE ?_
    have x3 : Ext F F2 s { s2 with heap := h' } := (x1.trans x2).trans (Ext.grow x2.sub h' s2.toks hk)
    refine ⟨F2, _, [s2.heap.objs.size + 1, s2.heap.objs.size], _, rfl, x3, Itr.enum hA.handled ho r (Nat.succ_ne_self _), ⟨⟨_, hE⟩, hI, lst_isList (hk _ _ (x2.sub _ _ ho))⟩, fun b hb => ?_⟩
    have hb' : s2.heap.objs.size ≤ b := by
      simp at hb; rcases hb with rfl | rfl
      · exact Nat.le_succ _
      · exact Nat.le_refl _
    have : s2.heap.get? b = none := by
      cases q : s2.heap.get? b with
      | none => rfl
      | some o => exact absurd (Heap.lt_size q) (Nat.not_lt.mpr hb')
    exact ⟨none_of_old (x1.trans x2).old this, x2.sub.none this⟩) (he env)
end Mine
end

/- L6 -/
section
open PySem
namespace Mine
variable {W : Wd} {sc : Scope} {ρ : Vs} {n : Nat} {B F0 F : Fz} {g : Array GenState} {os : OsState} {env : Env} {s : Shared}
theorem St.lessB {B' : Fz} (st : St W B' F0 g os env ρ F s) (h : B.le B') : St W B F0 g os env ρ F s := by
  have hn : ∀ a, B' a = none → B a = none := fun a e => by
    cases q : B a with
    | none => rfl
    | some o => rw [h a o q] at e; cases e
  exact ⟨st.sub, st.gr, st.kind, st.glob, st.bui, st.fs, fun a o e => st.base a o (h a o e), fun a m => hn a (st.mb a m), st.mf, st.le, fun a o e => (st.fresh a o e).imp id (hn a), st.imm,
    fun x V e k => let ⟨v, a, l, r, b, f, m⟩ := st.own x V e k; ⟨v, a, l, r, hn a b, f, m⟩, st.own1, st.gens, st.os⟩
/-- the frame's past is forgotten: what stands frozen now is the new beginning -/
theorem St.rebase (st : St W B F0 g os env ρ F s) : St W B F g os env ρ F s :=
  ⟨st.sub, st.gr, st.kind, st.glob, st.bui, st.fs, st.base, st.mb, st.mf, Fz.le.refl F, fun a o e => .inl e, st.imm, st.own, st.own1, st.gens, st.os⟩
theorem St.unbase {F1 : Fz} (st : St W B F1 g os env ρ F s) (hle : F0.le F1) (hfr : ∀ a o, F1 a = some o → F0 a = some o ∨ B a = none) : St W B F0 g os env ρ F s :=
  ⟨st.sub, st.gr, st.kind, st.glob, st.bui, st.fs, st.base, st.mb, st.mf, hle.trans st.le, fun a o e => (st.fresh a o e).elim (fun q => hfr a o q) .inr, st.imm, st.own, st.own1, st.gens, st.os⟩
theorem Ret.unbase {B' F1 : Fz} (st : Ret W B' F1 g os F s) (hB : B.le B') (hle : F0.le F1) (hfr : ∀ a o, F1 a = some o → F0 a = some o ∨ B a = none) : Ret W B F0 g os F s := by
  have hn : ∀ a, B' a = none → B a = none := fun a e => by
    cases q : B a with
    | none => rfl
    | some o => rw [hB a o q] at e; cases e
  exact ⟨st.sub, fun a o e => st.base a o (hB a o e), hle.trans st.le, fun a o e => (st.fresh a o e).elim (fun q => hfr a o q) fun q => .inr (hn a q), st.gens, st.os⟩
/-- B, but at wr as the heap has it -/
def bUpd (B : Fz) (wr : List Addr) (h : Heap) : Fz := fun a => if a ∈ wr then h.get? a else B a
theorem bUpd_in {B : Fz} {wr : List Addr} {h : Heap} {a : Addr} (e : a ∈ wr) : bUpd B wr h a = h.get? a := if_pos e
theorem bUpd_out {B : Fz} {wr : List Addr} {h : Heap} {a : Addr} (e : a ∉ wr) : bUpd B wr h a = B a := if_neg e
theorem Loads.but {h h' : Heap} {wr : List Addr} {x : Str} {v : Value} (l : Loads env h x v) (hk : ∀ a o, a ∉ wr → h.get? a = some o → h'.get? a = some o) (hL : env.locals ∉ wr) (hC : ∀ x c, env.cells.lookup x = some c → c ∉ wr) : Loads env h' x v := by
  rcases l with ⟨k, m, ⟨o, es, ep, ho, r⟩, e⟩ | ⟨k, c, e, o, ho, hd⟩
  · exact .inl ⟨k, m, ⟨o, es, ep, hk _ _ hL ho, r⟩, e⟩
  · exact .inr ⟨k, c, e, o, hk _ _ (hC x c e) ho, hd⟩
theorem Fs.but {h h' : Heap} {wr : List Addr} (f : Fs env h) (hk : ∀ a o, a ∉ wr → h.get? a = some o → h'.get? a = some o) (hL : env.locals ∉ wr) (hC : ∀ x c, env.cells.lookup x = some c → c ∉ wr) : Fs env h' :=
  ⟨let ⟨m, o, es, ep, ho, r⟩ := f.ns; ⟨m, o, es, ep, hk _ _ hL ho, r⟩, fun x c e => let ⟨v, o, ho, hd⟩ := f.cell x c e; ⟨v, o, hk _ _ (hC x c e) ho, hd⟩, f.apart, f.ne, f.has⟩
/-- things outside the frame (wr) have turned -/
theorem St.tick {wr : List Addr} {F' : Fz} {s' : Shared} (st : St W B F0 g os env ρ F s) (x : ExtX wr F F' s s') (hwr : ∀ b ∈ wr, (B b).isSome = true) (hC : ∀ x c, env.cells.lookup x = some c → c ∉ wr) :
    St W (bUpd B wr s'.heap) F0 g os env ρ F' s' := by
  have out : ∀ a, B a = none → a ∉ wr := fun a e m => by have := hwr a m; rw [e] at this; cases this
  have hL : env.locals ∉ wr := out _ (st.mb _ (.inl rfl))
  have stays : ∀ a o, s.heap.get? a = some o → F a = none → F' a = none := fun a o e hF => by
    cases q : F' a with
    | none => rfl
    | some p =>
      rcases x.fresh a p q with z | z
      · rw [hF] at z; cases z
      · rw [e] at z; cases z
  refine ⟨x.sub, fun a o e => x.le a o (st.gr a o e), st.kind, st.glob, st.bui, st.fs.but x.old hL hC, fun a o e => ?_, fun a m => ?_, fun a m => ?_, st.le.trans x.le, fun a o e => ?_, fun y d e k => ?_, fun y V e k => ?_, st.own1, x.gens.trans st.gens, x.os.trans st.os⟩
  · by_cases q : a ∈ wr
    · rw [bUpd_in q] at e; exact e
    · rw [bUpd_out q] at e; exact x.old a o q (st.base a o e)
  · rw [bUpd_out (out a (st.mb a m))]; exact st.mb a m
  · obtain ⟨o, e⟩ := st.fs.live m; exact stays a o e (st.mf a m)
  · rcases x.fresh a o e with q | q
    · rcases st.fresh a o q with z | z
      · exact .inl z
      · exact .inr (by rw [bUpd_out (out a z)]; exact z)
    · have z := st.base.none q
      exact .inr (by rw [bUpd_out (out a z)]; exact z)
  · obtain ⟨v, l, r⟩ := st.imm y d e k
    exact ⟨v, l.but x.old hL hC, r.mono x.le⟩
  · obtain ⟨v, a, l, r, b, f, m⟩ := st.own y V e k
    obtain ⟨o, ho⟩ := r.live
    exact ⟨v, a, l.but x.old hL hC, r.move x.le (fun o e => x.old a o (out a b) e), by rw [bUpd_out (out a b)]; exact b, stays a o ho f, m⟩
/-- a target and what it is given: the names that it binds -/
def As (W : Wd) (sc : Scope) (n : Nat) (tgt : Expr) (d : D) (bs : Vs) : Prop :=
  ∀ env A B F0 g os ρ F s v, env.scope = sc → (∀ x V, bs.lookup x = some V → ∀ c, env.cells.lookup x = some c → env.locals < c) → AOk n A → St W B F0 g os env ρ F s → Rd W F d v →
    wpAny (model W.prog W.w) A (assign tgt env v) (fun _ s' => ∃ F', St W B F0 g os env (bs ++ ρ) F' s' ∧ F.le F') (fun _ _ => False) s
theorem As.name {x : Str} {pos : Pos} {d : D} (hx : storable sc x = true) : As W sc n (.Name x pos) d [(x, .d d)] := fun env A B F0 g os ρ F s v hs hab hA st r => by
  subst hs
  exact wpAny_assign_Name (st.store hx (hab x _ lookup_cons_self) r fun s' st' => ⟨F, st', Fz.le.refl F⟩)
theorem As.tup2 {x y : Str} {px py pos : Pos} {k : Nat} {d e : D} (hx : storable sc x = true) (hy : storable sc y = true) (hxy : (x == y) = false) : As W sc n (.Tuple [.Name x px, .Name y py] k pos) (.tup [d, e]) [(y, .d e), (x, .d d)] :=
  fun env A B F0 g os ρ F s v hs hab hA st r => by
  subst hs
  simp only [Rd] at r
  obtain ⟨a, vs, m, rfl, ho, r⟩ := r
  match vs, r with
  | [u, v], r =>
    refine wpAny_assign_Tuple hA.handled (tup_isTuple (st.sub _ _ ho)) rfl rfl fun h' he => ?_
    have x1 : Ext F F s { s with heap := h' } := Ext.grow st.sub h' s.toks fun b o e => he b o (Nat.ne_of_lt (Heap.lt_size e)) e
    show wpAny _ A (assignInOrder [assign (.Name x px) env, assign (.Name y py) env] [u, v]) _ _ _
    refine wpAny_bind (wpAny_holding (wpAny_assign_Name ((st.ext x1).store hx (hab x (.d d) ?_) r.1 fun s1 st1 => ?_)))
    · simp only [List.lookup_cons, hxy, beq_self_eq_true]
    · show wpAny _ A (assignInOrder [assign (.Name y py) env] [v]) _ _ _
      refine wpAny_bind (wpAny_holding (wpAny_assign_Name (st1.store hy (hab y (.d e) lookup_cons_self) r.2.1 fun s2 st2 => ?_)))
      exact wpAny_pure ⟨F, st2, Fz.le.refl F⟩
theorem noted_false {A : Around} {E : Value → Shared → Prop} {t : Sem α} {Q : α → Shared → Prop} {E' : Value → Shared → Prop} (h : wpAny (model W.prog W.w) A t Q (fun _ _ => False) s) : wpAny (model W.prog W.w) A t Q E' s :=
  wpAny_mono h (fun _ _ x => x) fun _ _ x => x.elim
theorem loopAt {tgt iter : Expr} {body : List Stmt} {pos : Pos} {ds : List D} {bs : Nat → Vs} {Rr : D → Prop} {A : Around} (J : Nat → Vs → Prop) (hE : FE sc env) (hA : AOk n A) (st : St W B F0 g os env ρ F s)
    (hIt : wpAny (model W.prog W.w) A (eval iter env) (fun x s1 => wpAny (model W.prog W.w) A (pyIter x) (fun it s2 =>
      ∃ F' I wr Si, it = .ref I ∧ Ext F F' s s2 ∧ Itr W A tgt I wr ds F' Si ∧ Si 0 s2.heap ∧ (∀ b ∈ wr, s.heap.get? b = none ∧ F' b = none)) (fun _ _ => False) s1) (fun _ _ => False) s)
    (hAs : ∀ i d, ds[i]? = some d → As W sc n tgt d (bs i)) (h0 : J 0 ρ)
    (hbody : ∀ i d ρ', ds[i]? = some d → J i ρ' → X W sc (bs i ++ ρ') n body (fun ρ'' => J (i + 1) ρ'') Rr)
    (hfold : ∀ env x, foldedSetIterable iter env x = pure x) : wpAny (model W.prog W.w) A (exec (.For tgt iter body [] pos) env) (Post W B F0 g os env (fun z => J ds.length z) Rr) (fun _ _ => False) s := by
  refine wpAny_For (wpAny_mono hIt (fun x s1 h1 => wpAny_mono h1 (fun it s2 h2 => ?_) fun _ _ y => y) fun _ _ y => y) (hfold env)
  obtain ⟨F', I, wr, Si, rfl, x, K, si, hwr⟩ := h2
  have st2 := (st.ext x)
  have hB0 : ∀ b ∈ wr, B b = none := fun b hb => st.base.none (hwr b hb).1
  have hCw : ∀ x c, env.cells.lookup x = some c → c ∉ wr := fun y c e m => by
    obtain ⟨v, o, ho, _⟩ := st.fs.cell y c e
    rw [(hwr c m).1] at ho; cases ho
  have hLw : env.locals ∉ wr := fun m => by
    obtain ⟨_, o, _, _, ho, _⟩ := st.fs.ns
    rw [(hwr _ m).1] at ho; cases ho
  have hmut : ∀ a, Mut env a → a ∉ wr := fun a m => by
    rcases m with rfl | ⟨_, y, e⟩
    · exact hLw
    · exact hCw y a e
  -- the first frame of the loop
  have stI : St W (bUpd B wr s2.heap) F' g os env ρ F' s2 := by
    refine ⟨st2.sub, st2.gr, st2.kind, st2.glob, st2.bui, st2.fs, fun a o e => ?_, fun a m => ?_, st2.mf, Fz.le.refl _, fun a o e => .inl e, st2.imm, fun y V e k => ?_, st2.own1, st2.gens, st2.os⟩
    · by_cases q : a ∈ wr
      · rw [bUpd_in q] at e; exact e
      · rw [bUpd_out q] at e; exact st2.base a o e
    · rw [bUpd_out (hmut a m)]; exact st2.mb a m
    · obtain ⟨v, a, l, r, b, f, m⟩ := st.own y V e k
      obtain ⟨o, ho⟩ := r.live
      have ha : a ∉ wr := fun z => by rw [(hwr a z).1] at ho; cases ho
      exact ⟨v, a, l.keeps x.old, r.move x.le (fun o e => x.old a o e), by rw [bUpd_out ha]; exact b, x.stays ho f, m⟩
  refine codeAny_forLoop_any (fun k s' => ∃ i ρ' F1 B', k = ds.length - i ∧ i ≤ ds.length ∧ J i ρ' ∧ Si i s'.heap ∧ B.le B' ∧ (∀ b ∈ wr, (B' b).isSome = true) ∧ (∀ b ∈ wr, ∀ o, s'.heap.get? b = some o → B' b = some o) ∧ St W B' F' g os env ρ' F1 s')
    ?_ (ds.length - 0) ⟨0, ρ, F', _, rfl, Nat.zero_le _, h0, si, ?_, ?_, ?_, stI⟩
  · rintro k s' ⟨i, ρ', F1, B', rfl, hi, hJ, si', hBB, hsome, hB', st'⟩
    have hF1 : ∀ b ∈ wr, F1 b = none := fun b hb => by
      cases q : F1 b with
      | none => rfl
      | some o =>
        rcases st'.fresh b o q with z | z
        · rw [(hwr b hb).2] at z; cases z
        · have := hsome b hb; rw [z] at this; cases this
    rcases Nat.lt_or_ge i ds.length with hlt | hge
    · have hd : ds[i]? = some ds[i] := List.getElem?_eq_getElem hlt
      refine noted_false (E := fun _ _ => False) (wpAny_mono (K.step i s' F1 ds[i] hd si' st'.sub st'.le hF1) (fun r s3 h3 => ?_) fun _ _ y => y)
      obtain ⟨v, rfl, h3⟩ := h3
      refine noted_false (E := fun _ _ => False) (wpAny_mono h3 (fun _ s4 h4 => ?_) fun _ _ y => y)
      obtain ⟨F2, x2, r2, si2⟩ := h4
      have st4 := st'.tick x2 hsome hCw
      refine noted_false (E := fun _ _ => False) (wpAny_mono (hAs i _ hd env A _ _ _ _ _ _ _ v hE.scope (fun y V _ c e => hE.above y c e) hA st4 r2) (fun _ s5 h5 => ?_) fun _ _ y => y)
      obtain ⟨F3, st5, le3⟩ := h5
      refine noted_false (E := fun _ _ => False) (wpAny_mono (hbody i _ ρ' hd hJ env A _ _ _ _ _ _ hE hA st5) (fun fl s6 h6 => ?_) fun _ _ y => y)
      have keep6 : ∀ b ∈ wr, ∀ o, s4.heap.get? b = some o → SubH (bUpd B' wr s4.heap) s6.heap → s6.heap.get? b = some o := fun b hb o e q => q b o (by rw [bUpd_in hb]; exact e)
      have hBB4 : B.le (bUpd B' wr s4.heap) := fun a o e => by
        have : a ∉ wr := fun m => by rw [hB0 a m] at e; cases e
        rw [bUpd_out this]; exact hBB a o e
      cases fl with
      | next =>
        obtain ⟨ρ6, F6, hJ6, st6⟩ := h6
        have k6 : ∀ b ∈ wr, ∀ o, s4.heap.get? b = some o → s6.heap.get? b = some o := fun b hb o e => keep6 b hb o e st6.base
        refine ⟨ds.length - (i + 1), by omega, i + 1, ρ6, F6, _, rfl, hlt, hJ6, K.frame _ _ _ si2 (fun a o e => st6.sub a o (st6.le a o e)) k6, hBB4, fun b hb => ?_, fun b hb o e => ?_, st6⟩
        · obtain ⟨o, e⟩ := K.live _ _ si2 b hb
          rw [bUpd_in hb, e]; rfl
        · obtain ⟨p, e'⟩ := K.live _ _ si2 b hb
          rw [bUpd_in hb, e']
          rw [k6 b hb p e'] at e; exact e
      | ret v =>
        obtain ⟨F6, d, hd6, rt, rd⟩ := h6
        exact ⟨F6, d, hd6, rt.unbase hBB4 st2.le st2.fresh, rd⟩
      | brk => exact h6.elim
      | cont => exact h6.elim
    · have hin : i = ds.length := by omega
      subst hin
      refine noted_false (E := fun _ _ => False) (wpAny_mono (K.done s' F1 si' st'.sub st'.le hF1) (fun r s3 h3 => ?_) fun _ _ y => y)
      obtain ⟨rfl, x3⟩ := h3
      have st3 := st'.tick x3 hsome hCw
      refine wpAny_execs_nil ⟨ρ', F1, hJ, (st3.lessB ?_).unbase st2.le st2.fresh⟩
      intro a o e
      have : a ∉ wr := fun m => by rw [hB0 a m] at e; cases e
      rw [bUpd_out this]; exact hBB a o e
  · intro a o e
    have : a ∉ wr := fun m => by rw [hB0 a m] at e; cases e
    rw [bUpd_out this]; exact e
  · intro b hb
    obtain ⟨o, e⟩ := K.live _ _ si b hb
    rw [bUpd_in hb, e]; rfl
  · intro b hb o e
    rw [bUpd_in hb]; exact e
theorem X1.loop {tgt iter : Expr} {body : List Stmt} {pos : Pos} {ds : List D} {bs : Nat → Vs} {Rr : D → Prop} (J : Nat → Vs → Prop) (hIt : It W sc ρ n iter tgt ds) (hAs : ∀ i d, ds[i]? = some d → As W sc n tgt d (bs i)) (h0 : J 0 ρ)
    (hbody : ∀ i d ρ', ds[i]? = some d → J i ρ' → X W sc (bs i ++ ρ') n body (fun ρ'' => J (i + 1) ρ'') Rr)
    (hfold : ∀ env x, foldedSetIterable iter env x = pure x) : X1 W sc ρ n (.For tgt iter body [] pos) (fun z => J ds.length z) Rr := fun env A B F0 g os F s hE hA st =>
  loopAt J hE hA st (hIt env A F s hE.scope hA st.ctx) hAs h0 hbody hfold
theorem X1.while {test : Expr} {body : List Stmt} {pos : Pos} {Rn : Vs → Prop} {Rr : D → Prop} (J : Nat → Vs → Prop) {m0 : Nat} (h0 : J m0 ρ)
    (hturn : ∀ m ρ', J m ρ' → ∃ b, EvT W sc ρ' n test b ∧ (b = true → X W sc ρ' n body (fun ρ'' => ∃ m', m' < m ∧ J m' ρ'') Rr) ∧ (b = false → Rn ρ')) : X1 W sc ρ n (.While test body [] pos) Rn Rr := fun env A B F0 g os F s hE hA st => by
  refine wpAny_While (codeAny_whileLoop (fun m s' => ∃ ρ' F', J m ρ' ∧ St W B F0 g os env ρ' F' s') ?_ m0 ⟨ρ, F, h0, st⟩)
  rintro m s' ⟨ρ', F', hJ, st'⟩
  obtain ⟨b, ht, h1, h2⟩ := hturn m ρ' hJ
  refine EvT.then (ht env A F' s' hE.scope hA st'.ctx) fun F1 s1 x1 => ?_
  cases b with
  | true =>
    refine noted_false (E := fun _ _ => False) (wpAny_mono (h1 rfl env A B F0 g os F1 s1 hE hA (st'.ext x1)) (fun fl s2 hp => ?_) fun _ _ y => y)
    cases fl with
    | next => obtain ⟨ρ2, F2, ⟨m', hm, hJ'⟩, st2⟩ := hp; exact ⟨m', hm, ρ2, F2, hJ', st2⟩
    | ret v => exact hp
    | brk => exact hp.elim
    | cont => exact hp.elim
  | false =>
    refine wpAny_execs_nil ⟨ρ', F1, h2 rfl, st'.ext x1⟩
/- more assignments -/
theorem X1.aug {x : Str} {pos' pos : Pos} {op : Operator} {e : Expr} {a b d : D} {Rr : D → Prop} (hx : ρ.lookup x = some (.d a)) (hf : inFrame sc x = true) (he : Ev W sc ρ n e b) (ho : Op2 W n (inplaceOp op) a b d) (hs' : storable sc x = true)
    (hd : (x == ("__classdict__" : Str)) = false) :
    X1 W sc ρ n (.AugAssign (.Name x pos') op e pos) (fun z => z = (x, .d d) :: ρ) Rr := fun env A B F0 g os F s hE hA st => by
  obtain ⟨u, l, r1⟩ := st.imm x a hx (hE.scope ▸ hf)
  refine wpAny_AugAssign_Name (l.load st.kind ?_ hd)
  refine (he env A F s hE.scope hA st.ctx).then fun v F2 s2 x2 r2 => (ho A F2 s2 u v hA x2.sub (r1.mono x2.le) r2).then fun w F3 s3 x3 r3 => ?_
  exact (((st.ext x2).ext x3).store (hE.scope ▸ hs') (hE.above x) r3 fun s' st' => ⟨_, F3, rfl, st'⟩)
theorem op_iadd (a b : Int) : Op2 W n (inplaceOp .Add) (.int a) (.int b) (.int (a + b)) := fun A F s u v _ h ra rb => by
  simp only [Rd] at ra rb
  obtain ⟨t, rfl⟩ := ra; obtain ⟨t', rfl⟩ := rb
  exact PyProof.Rows.iadd_int ⟨F, Ext.toks h _, by simp only [Rd]; exact ⟨_, rfl⟩⟩
theorem op_isub (a b : Int) : Op2 W n (inplaceOp .Sub) (.int a) (.int b) (.int (a - b)) := fun A F s u v _ h ra rb => by
  simp only [Rd] at ra rb
  obtain ⟨t, rfl⟩ := ra; obtain ⟨t', rfl⟩ := rb
  exact P.isub_int ⟨F, Ext.toks h _, by simp only [Rd]; exact ⟨_, rfl⟩⟩
/-- a = b = value -/
theorem X1.assign2 {x y : Str} {px py pos : Pos} {e : Expr} {d : D} {Rr : D → Prop} (he : Ev W sc ρ n e d) (hx : storable sc x = true) (hy : storable sc y = true)
    (hw : ∀ env, env.scope = sc → swappedStores [.Name x px, .Name y py] e env = pure none) : X1 W sc ρ n (.Assign [.Name x px, .Name y py] e pos) (fun z => z = (y, .d d) :: (x, .d d) :: ρ) Rr := fun env A B F0 g os F s hE hA st =>
  wpAny_Assign_two ((he env A F s hE.scope hA st.ctx).then fun v F1 s1 x1 r1 => wpAny_assign_Name ((st.ext x1).store (hE.scope ▸ hx) (hE.above x) r1 fun s2 st2 =>
    wpAny_assign_Name (st2.store (hE.scope ▸ hy) (hE.above y) r1 fun s3 st3 => ⟨_, F1, rfl, st3⟩))) rfl (hw env hE.scope)
/-- a, b = value (a tuple that is unpacked) -/
theorem X1.unpack {elts : List Expr} {k : Nat} {tpos pos : Pos} {e : Expr} {d : D} {bs : Vs} {Rr : D → Prop} (he : Ev W sc ρ n e d) (ha : As W sc n (.Tuple elts k tpos) d bs)
    (hs' : ∀ env, env.scope = sc → swapsWithSole [.Tuple elts k tpos] e pos.line env = pure false) (hw : ∀ env, env.scope = sc → swappedStores [.Tuple elts k tpos] e env = pure none) :
    X1 W sc ρ n (.Assign [.Tuple elts k tpos] e pos) (fun z => z = bs ++ ρ) Rr := fun env A B F0 g os F s hE hA st =>
  PyProof.Rows.Assign_Tuple ((he env A F s hE.scope hA st.ctx).then fun v F1 s1 x1 r1 => wpAny_mono (ha env A B F0 g os ρ F1 s1 v hE.scope (fun x V _ c e => hE.above x c e) hA (st.ext x1) r1)
    (fun _ s' ⟨F', st', _⟩ => ⟨_, F', rfl, st'⟩) fun _ _ y => y.elim) (hs' env hE.scope) (hw env hE.scope)
/-- a, b = x, y : the stores are exchanged -/
theorem X1.swap2 {x y : Str} {elts : List Expr} {k : Nat} {tpos pos : Pos} {e : Expr} {d1 d2 : D} {Rr : D → Prop} (he : Ev W sc ρ n e (.tup [d1, d2])) (hx : storable sc x = true) (hy : storable sc y = true)
    (hs' : ∀ env, env.scope = sc → swapsWithSole [.Tuple elts k tpos] e pos.line env = pure false) (hw : ∀ env, env.scope = sc → swappedStores [.Tuple elts k tpos] e env = pure (some [x, y])) :
    X1 W sc ρ n (.Assign [.Tuple elts k tpos] e pos) (fun z => z = (x, .d d1) :: (y, .d d2) :: ρ) Rr := fun env A B F0 g os F s hE hA st =>
  PyProof.Rows.Assign_Tuple_swapped (names := [x, y]) ((he env A F s hE.scope hA st.ctx).then fun v F1 s1 x1 r1 => by
    simp only [Rd] at r1
    obtain ⟨a, vs, m, rfl, ho, r⟩ := r1
    match vs, r with
    | [u, v], r =>
      show wpAny _ A (unpackItems (.ref a) [u, v].toArray.size none) _ _ _
      refine wpAny_unpackItems_tuple (items := [u, v].toArray) hA.handled (tup_isTuple (x1.sub _ _ ho)) ?_
      intro h' he'
      have x2 : Ext F1 F1 s1 { s1 with heap := h' } := Ext.grow x1.sub h' s1.toks fun b o e => he' b o (Nat.ne_of_lt (Heap.lt_size e)) e
      show wpAny _ A (assignInOrder [bindName env y, bindName env x] [v, u]) _ _ _
      refine wpAny_bind (wpAny_holding (wpAny_bindName (((st.ext x1).ext x2).store (hE.scope ▸ hy) (hE.above y) r.2.1 fun s3 st3 => ?_)))
      show wpAny _ A (assignInOrder [bindName env x] [u]) _ _ _
      refine wpAny_bind (wpAny_holding (wpAny_bindName (st3.store (hE.scope ▸ hx) (hE.above x) r.1 fun s4 st4 => ?_)))
      exact wpAny_pure ⟨_, F1, rfl, st4⟩) (hs' env hE.scope) (hw env hE.scope)
end Mine
end

/- L7 -/
section
open PySem
namespace Mine
variable {W : Wd} {sc : Scope} {ρ : Vs} {n : Nat} {B F0 F : Fz} {g : Array GenState} {os : OsState} {env : Env} {s : Shared}
/- the closure of a comprehension -/
def closL (cells : List (Str × Addr)) : List (Str × NameKind) → List (Str × Addr) → List (Str × Addr)
  | [], acc => acc
  | (x, k) :: r, acc => if k == .free then closL cells r ((x, (cells.lookup x).getD 0) :: acc) else closL cells r acc
theorem closure_go (f : Str × NameKind → List (Str × Addr) → Sem (ForInStep (List (Str × Addr))))
    (hf : ∀ x k cs, f (x, k) cs = if k == .free then (do let a ← cellOf env x; pure (.yield ((x, a) :: cs))) else pure (.yield cs)) :
    ∀ (l : List (Str × NameKind)) (acc : List (Str × Addr)), (∀ p ∈ l, p.2 = .free → (env.cells.lookup p.1).isSome = true) → forIn l acc f = pure (closL env.cells l acc)
  | [], acc, _ => by rw [List.forIn_nil]; rfl
  | (x, k) :: r, acc, h => by
    have hr := closure_go f hf r
    have hr' : ∀ p ∈ r, p.2 = .free → (env.cells.lookup p.1).isSome = true := fun p hp => h p (List.mem_cons_of_mem _ hp)
    rw [List.forIn_cons, hf]
    unfold closL
    by_cases q : (k == NameKind.free) = true
    · rw [if_pos q, if_pos q]
      obtain ⟨a, ha⟩ := Option.isSome_iff_exists.mp (h (x, k) (List.mem_cons_self ..) (by simpa using q))
      have : cellOf env x = pure a := by unfold cellOf; rw [show env.cells.lookup x = some a from ha]
      rw [this, show env.cells.lookup x = some a from ha]
      simp only [pure_bind, Option.getD_some]
      exact hr _ hr'
    · rw [if_neg q, if_neg q]
      simp only [pure_bind]
      exact hr _ hr'
theorem closureFor_eq {scope : Scope} (h : ∀ p ∈ scope.names, p.2 = .free → (env.cells.lookup p.1).isSome = true) : closureFor scope env = pure (closL env.cells scope.names []) := by
  unfold closureFor
  dsimp only
  rw [closure_go (env := env) _ (fun x k cs => rfl) scope.names [] h]
  rfl
theorem closL_lookup {cells : List (Str × Addr)} {x : Str} {c : Addr} : ∀ (l : List (Str × NameKind)) (acc : List (Str × Addr)), (closL cells l acc).lookup x = some c → (∃ k, (x, k) ∈ l ∧ k = .free ∧ c = (cells.lookup x).getD 0) ∨ acc.lookup x = some c
  | [], acc, h => .inr h
  | (y, k) :: r, acc, h => by
    unfold closL at h
    split at h
    · rename_i q
      rcases closL_lookup r _ h with ⟨k', m, e, z⟩ | z
      · exact .inl ⟨k', List.mem_cons_of_mem _ m, e, z⟩
      · rw [List.lookup_cons] at z
        by_cases hy : x = y
        · subst hy
          simp only [beq_self_eq_true, Option.some.injEq] at z
          exact .inl ⟨k, List.mem_cons_self .., by simpa using q, z.symm⟩
        · have : (x == y) = false := by simpa using hy
          rw [this] at z; exact .inr z
    · rcases closL_lookup r _ h with ⟨k', m, e, z⟩ | z
      · exact .inl ⟨k', List.mem_cons_of_mem _ m, e, z⟩
      · exact .inr z
theorem closL_mem {cells : List (Str × Addr)} {x : Str} {c : Addr} : ∀ (l : List (Str × NameKind)) (acc : List (Str × Addr)), (x, c) ∈ closL cells l acc → ((x, NameKind.free) ∈ l ∧ c = (cells.lookup x).getD 0) ∨ (x, c) ∈ acc
  | [], acc, h => .inr h
  | (y, k) :: r, acc, h => by
    unfold closL at h
    split at h
    · rename_i q
      have hk : k = .free := by simpa using q
      rcases closL_mem r _ h with z | z
      · exact .inl ⟨List.mem_cons_of_mem _ z.1, z.2⟩
      · rcases List.mem_cons.mp z with e | e
        · cases e; exact .inl ⟨by rw [hk]; exact List.mem_cons_self .., rfl⟩
        · exact .inr e
    · rcases closL_mem r _ h with z | z
      · exact .inl ⟨List.mem_cons_of_mem _ z.1, z.2⟩
      · exact .inr z
theorem closL_acc {cells : List (Str × Addr)} {x : Str} : ∀ (l : List (Str × NameKind)) (acc : List (Str × Addr)), (acc.lookup x).isSome = true → ((closL cells l acc).lookup x).isSome = true
  | [], acc, h => h
  | (y, k) :: r, acc, h => by
    unfold closL
    split
    · refine closL_acc r _ ?_
      rw [List.lookup_cons]; split
      · rfl
      · exact h
    · exact closL_acc r acc h
theorem closL_has {cells : List (Str × Addr)} {x : Str} : ∀ (l : List (Str × NameKind)) (acc : List (Str × Addr)), (x, NameKind.free) ∈ l → ((closL cells l acc).lookup x).isSome = true
  | (y, k) :: r, acc, h => by
    unfold closL
    rcases List.mem_cons.mp h with e | e
    · cases e
      rw [if_pos (by decide)]
      exact closL_acc r _ (by rw [List.lookup_cons]; simp)
    · split
      · exact closL_has r _ e
      · exact closL_has r _ e
/- the cells that a new frame makes -/
theorem cellsFrom_lookup {x : Str} {c : Addr} : ∀ (l : List (Str × NameKind)) (m : Nat) (acc : List (Str × Addr)), (cellsFrom m l acc).lookup x = some c → (m ≤ c ∧ (x, NameKind.cell) ∈ l) ∨ acc.lookup x = some c
  | [], m, acc, h => .inr h
  | (y, k) :: r, m, acc, h => by
    unfold cellsFrom at h
    split at h
    · rename_i q
      rcases cellsFrom_lookup r _ _ h with z | z
      · exact .inl ⟨Nat.le_of_succ_le z.1, List.mem_cons_of_mem _ z.2⟩
      · rw [List.lookup_cons] at z
        by_cases hy : x = y
        · subst hy
          simp only [beq_self_eq_true, Option.some.injEq] at z
          have hk : k = .cell := by simpa using q
          exact .inl ⟨Nat.le_of_eq z, by rw [hk]; exact List.mem_cons_self ..⟩
        · have : (x == y) = false := by simpa using hy
          rw [this] at z; exact .inr z
    · rcases cellsFrom_lookup r _ _ h with z | z
      · exact .inl ⟨z.1, List.mem_cons_of_mem _ z.2⟩
      · exact .inr z
theorem cellsFrom_acc {x : Str} : ∀ (l : List (Str × NameKind)) (m : Nat) (acc : List (Str × Addr)), (acc.lookup x).isSome = true → ((cellsFrom m l acc).lookup x).isSome = true
  | [], m, acc, h => h
  | (y, k) :: r, m, acc, h => by
    unfold cellsFrom
    split
    · refine cellsFrom_acc r _ _ ?_
      rw [List.lookup_cons]; split
      · rfl
      · exact h
    · exact cellsFrom_acc r _ acc h
theorem cellsFrom_has {x : Str} : ∀ (l : List (Str × NameKind)) (m : Nat) (acc : List (Str × Addr)), (x, NameKind.cell) ∈ l → ((cellsFrom m l acc).lookup x).isSome = true
  | (y, k) :: r, m, acc, h => by
    unfold cellsFrom
    rcases List.mem_cons.mp h with e | e
    · cases e
      rw [if_pos (by decide)]
      exact cellsFrom_acc r _ _ (by rw [List.lookup_cons]; simp)
    · split
      · exact cellsFrom_has r _ _ e
      · exact cellsFrom_has r _ _ e
/-- a name that is no new cell keeps what the closure gave -/
theorem cellsFrom_skip {x : Str} : ∀ (l : List (Str × NameKind)) (m : Nat) (acc : List (Str × Addr)), (x, NameKind.cell) ∉ l → (cellsFrom m l acc).lookup x = acc.lookup x
  | [], _, _, _ => rfl
  | (y, k) :: r, m, acc, h => by
    unfold cellsFrom
    have hr : (x, NameKind.cell) ∉ r := fun q => h (List.mem_cons_of_mem _ q)
    split
    · rename_i q
      rw [cellsFrom_skip r _ _ hr, List.lookup_cons]
      have : (x == y) = false := by
        cases z : x == y with
        | false => rfl
        | true =>
          have e1 : x = y := by simpa using z
          have e2 : k = .cell := by simpa using q
          exact absurd (by rw [e1, e2]; exact List.mem_cons_self ..) h
      rw [this]
    · exact cellsFrom_skip r _ _ hr
theorem cellsFrom_new : ∀ (l : List (Str × NameKind)) (h : Heap) (lo : Nat) (acc : List (Str × Addr)), lo ≤ h.objs.size → (∀ x c, (x, c) ∈ acc → lo ≤ c → c < h.objs.size ∧ h.IsCell c none) → (∀ x y c, (x, c) ∈ acc → (y, c) ∈ acc → lo ≤ c → x = y) →
    (∀ x c, (x, c) ∈ cellsFrom h.objs.size l acc → lo ≤ c → (pushCells h l).IsCell c none) ∧ (∀ x y c, (x, c) ∈ cellsFrom h.objs.size l acc → (y, c) ∈ cellsFrom h.objs.size l acc → lo ≤ c → x = y)
  | [], h, lo, acc, _, h1, h2 => ⟨fun x c m hc => (h1 x c m hc).2, h2⟩
  | (y, k) :: r, h, lo, acc, hlo, h1, h2 => by
    unfold cellsFrom pushCells
    split
    · rename_i q
      have z : (h.push { cls := .type "cell", data := .cell none }).objs.size = h.objs.size + 1 := Heap.size_push ..
      have := cellsFrom_new r (h.push { cls := .type "cell", data := .cell none }) lo ((y, h.objs.size) :: acc) (by rw [z]; omega) ?_ ?_
      · rw [z] at this; exact this
      · intro x c m hc
        rw [z]
        rcases List.mem_cons.mp m with e | e
        · cases e; exact ⟨Nat.lt_succ_self _, _, Heap.get?_push_size _ rfl, rfl⟩
        · obtain ⟨a, b⟩ := h1 x c e hc
          exact ⟨Nat.lt_succ_of_lt a, b.keeps fun _ _ e => Heap.get?_push_of_some _ e⟩
      · intro x x' c m m' hc
        rcases List.mem_cons.mp m with e | e <;> rcases List.mem_cons.mp m' with e' | e'
        · cases e; cases e'; rfl
        · cases e; exact absurd (h1 x' _ e' hc).1 (Nat.lt_irrefl _)
        · cases e'; exact absurd (h1 x _ e hc).1 (Nat.lt_irrefl _)
        · exact h2 x x' c e e' hc
    · exact cellsFrom_new r h lo acc hlo h1 h2
theorem nfe {M : Model} {A : Around} {E : Value → Shared → Prop} {scope : Scope} {cl : List (Str × Addr)} {Q : Env → Shared → Prop}
    (h : Q (newEnv scope s.heap.objs.size env.globals (cellsFrom (s.heap.objs.size + 1) scope.names cl) env.qual none .none (some env) builtinsNs) { s with heap := pushCells (s.heap.push { cls := .type "dict", data := .dict #[] }) scope.names }) :
    wpAny M A (newFunctionEnv scope env.globals cl [] env.qual none .none (some env)) Q E s := by
  simp only [newFunctionEnv, Option.isSome_some, if_true]
  refine wpAny_bind (wpAny_alloc ?_)
  refine wpAny_bind (wpAny_layCells _ (fun name kind cells => by cases hkc : kind == NameKind.cell <;> simp [hkc]) _ _ _ _ ?_)
  rw [show ({ s with heap := s.heap.push { cls := .type "dict", data := .dict #[] } } : Shared).heap.objs.size = s.heap.objs.size + 1 from Heap.size_push ..]
  exact wpAny_bind (wpAny_pure (wpAny_pure h))
/-- the names that no thing of the frame's own stands under -/
def imms (ρ : Vs) : Vs := ρ.filter fun p => match ρ.lookup p.1 with | some V => !V.own | none => false
theorem filter_lookup {x : Str} (p : Str → Bool) : ∀ l : Vs, (l.filter fun q => p q.1).lookup x = if p x then l.lookup x else none
  | [] => by simp
  | (y, V) :: r => by
    have ih := filter_lookup (x := x) p r
    rw [List.filter_cons]
    by_cases hy : x = y
    · subst hy
      by_cases q : p x = true
      · rw [if_pos q]; simp [List.lookup_cons, q]
      · have q' : p x = false := by simpa using q
        rw [if_neg q, ih]; simp [q']
    · have hb : (x == y) = false := by simpa using hy
      split
      · rw [List.lookup_cons, List.lookup_cons, hb]; exact ih
      · rw [List.lookup_cons, hb]; exact ih
theorem imms_lookup {x : Str} {V : V} (h : (imms ρ).lookup x = some V) : ρ.lookup x = some V ∧ V.own = false := by
  unfold imms at h
  rw [filter_lookup (fun y => match ρ.lookup y with | some V => !V.own | none => false)] at h
  cases q : ρ.lookup x with
  | none => rw [q] at h; simp at h
  | some U =>
    rw [q] at h
    cases o : U.own with
    | true => simp [o] at h
    | false => simp [o] at h; subst h; exact ⟨rfl, o⟩
end Mine
end

/- L8 -/
section
open PySem
namespace Mine
variable {W : Wd} {sc cs : Scope} {ρ : Vs} {n : Nat} {B F0 F : Fz} {g : Array GenState} {os : OsState} {env : Env} {s : Shared}
def freeIn (sc : Scope) (x : Str) : Bool := match sc.names.lookup x with | some .cell | some .free => true | _ => false
def compOk (sc cs : Scope) (ρ : Vs) : Bool := cs.kind == .function && cs.names.all fun p => match p.2 with
  | .local => cs.names.lookup p.1 == some .local && (ρ.lookup p.1).isNone
  | .cell => cs.names.lookup p.1 == some .cell && (ρ.lookup p.1).isNone
  | .free => cs.names.lookup p.1 == some .free && freeIn sc p.1 && (match ρ.lookup p.1 with | some (.d _) => true | _ => false)
  | _ => true
def rk (sc : Scope) (p : Str × NameKind) : Str × NameKind := (p.1, if (p.2 == .free && sc.kind == .function && sc.names.lookup p.1 == some .cell) then .cell else p.2)
def relab (sc cs : Scope) : Scope := { cs with names := cs.names.map (rk sc) }
theorem relabel_eq (h : env.scope = sc) : relabel cs env = relab sc cs := by
  subst h
  unfold relabel relab
  congr 1
  apply List.map_congr_left
  intro p _
  unfold rk
  obtain ⟨y, k⟩ := p
  dsimp only [Env.kindOf]
  split <;> rename_i q
  · exact if_pos q
  · exact if_neg q
def cEnv (cs : Scope) (env : Env) (C : Addr) : Env :=
  { newEnv cs C env.globals (cellsFrom (C + 1) cs.names (closL env.cells cs.names [])) env.qual none .none (some env) builtinsNs with scope := relabel cs env }
theorem relab_lookup {x : Str} : ∀ {l : List (Str × NameKind)} {k' : NameKind}, (l.map (rk sc)).lookup x = some k' → ∃ k, l.lookup x = some k ∧ (k' = k ∨ (k = .free ∧ k' = .cell))
  | [], k', h => by simp at h
  | (y, k) :: r, k', h => by
    rw [List.map_cons, show rk sc (y, k) = (y, (rk sc (y, k)).2) from rfl, List.lookup_cons] at h
    rw [List.lookup_cons]
    by_cases hy : x = y
    · subst hy
      simp only [beq_self_eq_true, Option.some.injEq] at h ⊢
      refine ⟨k, rfl, ?_⟩
      subst h
      unfold rk
      dsimp only
      split
      · rename_i q
        simp only [Bool.and_eq_true, beq_iff_eq] at q
        exact .inr ⟨q.1.1, rfl⟩
      · exact .inl rfl
    · have hb : (x == y) = false := by simpa using hy
      rw [hb] at h ⊢
      exact relab_lookup h
theorem mem_of_lk {x : Str} {k : NameKind} {l : List (Str × NameKind)} (h : l.lookup x = some k) : (x, k) ∈ l := mem_of_lookup h
theorem comp_start {F2 : Fz} {s2 : Shared} {wr : List Addr} {oacc : Obj} (hok : compOk sc cs ρ = true) (hsc : env.scope = sc) (c : Ctx W env ρ F s) (x : Ext F F2 s s2) (hwr : ∀ b ∈ wr, s.heap.get? b = none ∧ F2 b = none)
    (hlive : ∀ b ∈ wr, ∃ o, s2.heap.get? b = some o) (hacc : oacc.isFreed = false) (H : Heap) (hH : H = pushCells ((s2.heap.push oacc).push { cls := .type "dict", data := .dict #[] }) cs.names) (tk : Nat) :
    St W (bUpd (fun a => s.heap.get? a) (s2.heap.objs.size :: wr) H) F2 s.gens s.os (cEnv cs env (s2.heap.push oacc).objs.size) (imms ρ) F2 { s2 with heap := H, toks := tk } := by
  subst hH
  have hC : (s2.heap.push oacc).objs.size = s2.heap.objs.size + 1 := Heap.size_push ..
  have hC2 : ((s2.heap.push oacc).push { cls := .type "dict", data := .dict #[] }).objs.size = s2.heap.objs.size + 2 := by rw [Heap.size_push, hC]
  have keep : ∀ a o, s2.heap.get? a = some o → (pushCells ((s2.heap.push oacc).push { cls := .type "dict", data := .dict #[] }) cs.names).get? a = some o :=
    fun a o e => pushCells_keeps _ _ a o (Heap.get?_push_of_some _ (Heap.get?_push_of_some _ e))
  simp only [compOk, Bool.and_eq_true, List.all_eq_true, beq_iff_eq] at hok
  obtain ⟨hkind, hall⟩ := hok
  -- the inherited cells
  have inh : ∀ y, (y, NameKind.free) ∈ cs.names → ∃ v cc d, ρ.lookup y = some (.d d) ∧ env.cells.lookup y = some cc ∧ s.heap.IsCell cc (some v) ∧ Rd W F d v := fun y hy => by
    have := hall _ hy
    simp only [Bool.and_eq_true, beq_iff_eq] at this
    obtain ⟨⟨_, hf⟩, hl⟩ := this
    cases q : ρ.lookup y with
    | none => rw [q] at hl; cases hl
    | some V =>
      rw [q] at hl
      cases V with
      | d d =>
        subst hsc
        have hin : inFrame env.scope y = true := by
          unfold inFrame; unfold freeIn at hf
          cases z : env.scope.names.lookup y with
          | none => rw [z] at hf; cases hf
          | some k => rw [z] at hf; cases k <;> first | rfl | cases hf
        obtain ⟨v, l, r⟩ := c.vars y _ q hin
        rcases l with ⟨k, _⟩ | ⟨_, cc, e, cl⟩
        · have k' : env.scope.names.lookup y = some .local := k
          unfold freeIn at hf; rw [k'] at hf; cases hf
        · exact ⟨v, cc, d, rfl, e, cl, r⟩
      | ol => cases hl
      | od => cases hl
      | oh => cases hl
  have clos : ∀ y cc, (closL env.cells cs.names []).lookup y = some cc → ∃ v, env.cells.lookup y = some cc ∧ s.heap.IsCell cc (some v) ∧ (y, NameKind.free) ∈ cs.names := fun y cc e => by
    rcases closL_lookup _ _ e with ⟨k, m, hk, z⟩ | z
    · subst hk
      obtain ⟨v, c', d, _, e', cl, _⟩ := inh y m
      rw [e'] at z
      have : cc = c' := z
      subst this
      exact ⟨v, e', cl, m⟩
    · simp at z
  have big : ∀ cc v, s.heap.IsCell cc v → cc < s2.heap.objs.size := fun cc v ⟨o, ho, _⟩ => Heap.lt_size (x.old _ _ ho)
  have memc : ∀ y cc, (y, cc) ∈ closL env.cells cs.names [] → cc < s2.heap.objs.size := fun y cc m => by
    rcases closL_mem _ _ m with ⟨m', z⟩ | z
    · obtain ⟨v, c', d, _, e', cl, _⟩ := inh y m'
      rw [e'] at z
      have : cc = c' := z
      subst this
      exact big _ _ cl
    · cases z
  obtain ⟨new1, new2⟩ := cellsFrom_new cs.names ((s2.heap.push oacc).push { cls := .type "dict", data := .dict #[] }) (s2.heap.objs.size + 2) (closL env.cells cs.names []) (by rw [hC2]; exact Nat.le_refl _)
    (fun y cc m hle => absurd (memc y cc m) (Nat.not_lt.mpr (Nat.le_trans (Nat.le_add_right _ 2) hle))) (fun y z cc m m' hle => absurd (memc y cc m) (Nat.not_lt.mpr (Nat.le_trans (Nat.le_add_right _ 2) hle)))
  rw [hC2] at new1 new2
  have cells : (cEnv cs env (s2.heap.push oacc).objs.size).cells = cellsFrom (s2.heap.objs.size + 2) cs.names (closL env.cells cs.names []) := by
    show cellsFrom ((s2.heap.push oacc).objs.size + 1) cs.names _ = _
    rw [hC]
  have locs : (cEnv cs env (s2.heap.push oacc).objs.size).locals = s2.heap.objs.size + 1 := hC
  have scp : (cEnv cs env (s2.heap.push oacc).objs.size).scope = relab sc cs := relabel_eq hsc
  -- a cell of the new frame: new, or inherited
  have two : ∀ y cc, (cEnv cs env (s2.heap.push oacc).objs.size).cells.lookup y = some cc →
      (s2.heap.objs.size + 2 ≤ cc ∧ (y, NameKind.cell) ∈ cs.names) ∨ (∃ v, env.cells.lookup y = some cc ∧ s.heap.IsCell cc (some v) ∧ cc < s2.heap.objs.size) := fun y cc e => by
    rw [cells] at e
    rcases cellsFrom_lookup _ _ _ e with z | z
    · exact .inl z
    · obtain ⟨v, e1, e2, _⟩ := clos y cc z
      exact .inr ⟨v, e1, e2, big _ _ e2⟩
  have mutn : ∀ a, Mut (cEnv cs env (s2.heap.push oacc).objs.size) a → s2.heap.objs.size + 1 ≤ a := fun a m => by
    rcases m with h | ⟨h, _⟩
    · rw [h, locs]; exact Nat.le_refl _
    · rw [locs] at h; exact Nat.le_of_lt h
  have mut2 : ∀ a, Mut (cEnv cs env (s2.heap.push oacc).objs.size) a → s2.heap.get? a = none := fun a m => by
    cases q : s2.heap.get? a with
    | none => rfl
    | some o => exact absurd (Heap.lt_size q) (Nat.not_lt.mpr (Nat.le_trans (Nat.le_add_right _ 1) (mutn a m)))
  have keepS : ∀ a o, s.heap.get? a = some o → (pushCells ((s2.heap.push oacc).push { cls := .type "dict", data := .dict #[] }) cs.names).get? a = some o := fun a o e => keep a o (x.old a o e)
  have wlt : ∀ b, b ∈ s2.heap.objs.size :: wr → b ≤ s2.heap.objs.size := fun b hb => by
    rcases List.mem_cons.mp hb with rfl | hb
    · exact Nat.le_refl _
    · obtain ⟨o, e⟩ := hlive b hb; exact Nat.le_of_lt (Heap.lt_size e)
  refine ⟨fun a o e => keep a o (x.sub a o e), fun a o e => x.le a o (c.gr a o e), ?_, c.glob, c.bui, ⟨?_, ?_, ?_, ?_, ?_⟩, ?_, ?_, ?_, Fz.le.refl _, fun a o e => .inl e, ?_, ?_, ?_, x.gens, x.os⟩
  · rw [scp]; exact hkind
  · refine ⟨fun _ => none, ?_⟩
    rw [locs]
    have := (Heap.Ns.new (s2.heap.push oacc) (.type "dict")).keeps (pushCells_keeps cs.names _)
    rw [hC] at this; exact this
  · intro y cc e
    rcases two y cc e with ⟨h1, h2⟩ | ⟨v, h1, h2, h3⟩
    · rw [cells] at e
      exact ⟨none, new1 y cc (mem_of_lookup e) h1⟩
    · exact ⟨some v, h2.keeps keepS⟩
  · intro y z cc e e' hlt
    rw [locs] at hlt
    rw [cells] at e e'
    exact new2 y z cc (mem_of_lookup e) (mem_of_lookup e') hlt
  · intro y cc e
    rw [locs]
    rcases two y cc e with ⟨h1, h2⟩ | ⟨v, h1, h2, h3⟩
    · exact Nat.ne_of_gt h1
    · exact Nat.ne_of_lt (Nat.lt_succ_of_lt h3)
  · intro y e
    rw [cells]
    have e' : (relab sc cs).names.lookup y = some .cell := by rw [← scp]; exact e
    obtain ⟨k, hk, z⟩ := relab_lookup e'
    rcases z with rfl | ⟨rfl, _⟩
    · exact cellsFrom_has _ _ _ (mem_of_lk hk)
    · exact cellsFrom_acc _ _ _ (closL_has _ _ (mem_of_lk hk))
  · intro a o e
    by_cases q : a ∈ s2.heap.objs.size :: wr
    · rw [bUpd_in q] at e; exact e
    · rw [bUpd_out q] at e; exact keepS a o e
  · intro a m
    have h1 := mutn a m
    have : a ∉ s2.heap.objs.size :: wr := fun q => absurd (wlt a q) (Nat.not_le.mpr h1)
    rw [bUpd_out this]
    exact none_of_old x.old (mut2 a m)
  · intro a m
    exact x.sub.none (mut2 a m)
  · intro y d e k
    obtain ⟨e1, _⟩ := imms_lookup e
    rw [scp] at k
    unfold inFrame at k
    cases q : (relab sc cs).names.lookup y with
    | none => rw [q] at k; cases k
    | some k' =>
      obtain ⟨k0, hk0, z⟩ := relab_lookup q
      have hm := mem_of_lk hk0
      have hk0' := hall _ hm
      have hfree : k0 = .free := by
        cases k0 with
        | «local» => simp [e1] at hk0'
        | cell => simp [e1] at hk0'
        | free => rfl
        | globalImplicit => rcases z with rfl | ⟨h, _⟩; · rw [q] at k; cases k
                            · cases h
        | globalExplicit => rcases z with rfl | ⟨h, _⟩; · rw [q] at k; cases k
                            · cases h
      subst hfree
      obtain ⟨v, cc, d', h1, h2, h3, h4⟩ := inh y hm
      rw [e1] at h1; cases h1
      have hlk : (cEnv cs env (s2.heap.push oacc).objs.size).cells.lookup y = some cc := by
        rw [cells, cellsFrom_skip]
        · obtain ⟨c', hc'⟩ := Option.isSome_iff_exists.mp (closL_has (cells := env.cells) cs.names [] hm)
          obtain ⟨_, h5, _⟩ := clos y c' hc'
          rw [h2] at h5; cases h5; exact hc'
        · intro hcell
          have := hall _ hcell
          simp [hk0] at this
      refine ⟨v, .inr ⟨?_, cc, hlk, h3.keeps keepS⟩, h4.mono x.le⟩
      have q' : (cEnv cs env (s2.heap.push oacc).objs.size).kindOf y = some k' := by
        show (cEnv cs env (s2.heap.push oacc).objs.size).scope.names.lookup y = some k'
        rw [scp]; exact q
      rcases z with rfl | ⟨_, rfl⟩
      · exact .inr q'
      · exact .inl q'
  · intro y V e k
    rw [(imms_lookup e).2] at k; cases k
  · intro y z V V' e e' k k'
    rw [(imms_lookup e).2] at k; cases k
end Mine
end

/- L9 -/
section
open PySem
namespace Mine
variable {W : Wd} {sc cs : Scope} {ρ : Vs} {n : Nat} {B F0 F : Fz} {g : Array GenState} {os : OsState} {env : Env} {s : Shared}
theorem compLoop_list {A : Around} {R : Result → Shared → Prop} {elt target iter : Expr} {ifs : List Expr} {scope : Scope} {pos : Pos} {it acc : Value} (I : Nat → Shared → Prop)
    (turn : ∀ n s, I n s → wpAny (model W.prog W.w) A (pyNext it) (fun r s₁ => match r with
      | none => R (.ok .next) s₁
      | some v => wpAny (model W.prog W.w) A (letOwnedTupleGo target it v) (fun _ s₁' => wpAny (model W.prog W.w) A (assign target env v) (fun _ s₂ =>
          wpAny (model W.prog W.w) A (forIn ifs true fun c r => if r = true then do let ok ← isTrue c env (eval c env); pure (ForInStep.yield ok) else pure (ForInStep.yield r)) (fun ok s₃ =>
            if ok = true then wpAny (model W.prog W.w) A (eval elt env) (fun x s₄ =>
              wpAny (model W.prog W.w) A (call (.builtin "list.append") [acc, x]) (fun _ s₅ => ∃ m, m < n ∧ I m s₅) (fun _ _ => False) s₄) (fun _ _ => False) s₃
            else ∃ m, m < n ∧ I m s₃) (fun _ _ => False) s₂) (fun _ _ => False) s₁') (fun _ _ => False) s₁) (fun _ _ => False) s)
    (n : Nat) (h : I n s) : codeAny (model W.prog W.w) A (.compLoop (.ListComp elt [⟨target, iter, ifs, 0⟩] scope pos) 0 it acc env) R s := by
  refine codeAny_loop rfl I (fun n s hI => ?_) n h
  show wpAny _ A ((compTurn (.ListComp elt [⟨target, iter, ifs, 0⟩] scope pos) 0 it acc env).onRaise (fun x => do noteFrame x env; theTreesLotGoes x)) _ _ s
  refine wpAny_noted ?_
  rw [compTurn_list]
  refine wpAny_bind (wpAny_standAt (wpAny_bind (wpAny_mono (turn n s hI) (fun r s₁ h₁ => ?_) fun _ _ h' => h'.elim)))
  cases r with
  | none => exact wpAny_pure h₁
  | some v =>
    refine wpAny_bind (wpAny_mono h₁ (fun _ s₁' h₁' => ?_) fun _ _ h' => h'.elim)
    refine wpAny_bind (wpAny_mono h₁' (fun _ s₂ h₂ => wpAny_bind (wpAny_mono h₂ (fun ok s₃ h₃ => ?_) fun _ _ h' => h'.elim)) fun _ _ h' => h'.elim)
    cases ok with
    | false => exact wpAny_pure ⟨rfl, h₃⟩
    | true =>
      exact wpAny_bind (wpAny_bind (wpAny_mono h₃ (fun x s₄ h₄ => wpAny_bind (wpAny_mono h₄ (fun _ s₅ h₅ => wpAny_pure (wpAny_pure ⟨rfl, h₅⟩)) fun _ _ h' => h'.elim)) fun _ _ h' => h'.elim))
def EvTs (W : Wd) (sc : Scope) (ρ : Vs) (n : Nat) (ifs : List Expr) (b : Bool) : Prop :=
  ∀ env A F s, env.scope = sc → AOk n A → Ctx W env ρ F s →
    wpAny (model W.prog W.w) A (forIn ifs true fun c r => if r = true then do let ok ← isTrue c env (eval c env); pure (ForInStep.yield ok) else pure (ForInStep.yield r)) (fun c s' => c = b ∧ ∃ F', Ext F F' s s') (fun _ _ => False) s
theorem EvTs.nil : EvTs W sc ρ n [] true := fun env A F s _ _ c => wpAny_tests_nil ⟨rfl, F, Ext.refl c.sub⟩
theorem EvTs.one {e : Expr} {b : Bool} (h : EvT W sc ρ n e b) : EvTs W sc ρ n [e] b := fun env A F s hs hA c => wpAny_tests_one (h env A F s hs hA c)
def ownNames (cs : Scope) (bs : Vs) : Bool := bs.all fun p => match cs.names.lookup p.1 with | some .local | some .cell => true | _ => false
theorem ExtX.more {wr wr' : List Addr} {F F' : Fz} {s s' : Shared} (x : ExtX wr F F' s s') (h : ∀ a ∈ wr, a ∈ wr') : ExtX wr' F F' s s' :=
  ⟨fun a o ha e => x.old a o (fun m => ha (h a m)) e, x.sub, x.le, x.fresh, x.gens, x.os⟩
theorem own_above {C : Addr} {bs : Vs} (hok : compOk sc cs ρ = true) (hsc : env.scope = sc) (hbs : ownNames cs bs = true) : ∀ x V, bs.lookup x = some V → ∀ c, (cEnv cs env C).cells.lookup x = some c → (cEnv cs env C).locals < c := fun x V e c hc => by
  have hc' : (cellsFrom (C + 1) cs.names (closL env.cells cs.names [])).lookup x = some c := hc
  show C < c
  rcases cellsFrom_lookup _ _ _ hc' with ⟨h, _⟩ | h
  · exact h
  · exfalso
    have hm := mem_of_lookup e
    have h1 := List.all_eq_true.mp hbs _ hm
    rcases closL_lookup _ _ h with ⟨k, m, hk, _⟩ | z
    · subst hk
      simp only [compOk, Bool.and_eq_true, List.all_eq_true, beq_iff_eq] at hok
      have := hok.2 _ m
      simp only [Bool.and_eq_true, beq_iff_eq] at this
      simp only [this.1.1] at h1
      cases h1
    · simp at z
theorem comp_list_run {A : Around} {E : Value → Shared → Prop} {elt tgt iter : Expr} {ifs : List Expr} {pos : Pos} {ds : List D} {p : D → Bool} {r : D → D} {bs : D → Vs} {F2 : Fz} {s2 : Shared} {I : Addr} {wr : List Addr} {Si : Nat → Heap → Prop}
    {RR : Value → Addr → Result → Shared → Prop} (hA : AOk n A) (hok : compOk sc cs ρ = true) (hsc : env.scope = sc) (c : Ctx W env ρ F s) (x : Ext F F2 s s2) (K : Itr W A tgt I wr ds F2 Si) (si : Si 0 s2.heap) (hwr : ∀ b ∈ wr, s.heap.get? b = none ∧ F2 b = none)
    (hlen : ds.length ≤ 10000) (hAs : ∀ d ∈ ds, As W (relab sc cs) n tgt d (bs d)) (hbs : ∀ d ∈ ds, ownNames cs (bs d) = true)
    (hel : ∀ d ∈ ds, EvTs W (relab sc cs) (bs d ++ imms ρ) n ifs (p d) ∧ (p d = true → Ev W (relab sc cs) (bs d ++ imms ρ) n elt (r d)))
    (hRR : ∀ a C s' F'' m, Ext F F'' s s' → Rd W F'' (.list ((ds.filter p).map r)) (.ref a) → s'.heap.Ns C m → s.heap.get? C = none → F'' C = none → RR (.ref a) C (.ok .next) s') :
    wpAny (model W.prog W.w) A (newList []) (fun acc s3 => wpAny (model W.prog W.w) A (newFunctionEnv cs env.globals (closL env.cells cs.names []) [] env.qual none .none (some env)) (fun cenv s4 =>
      codeAny (model W.prog W.w) A (.compStart (.ListComp elt [⟨tgt, iter, ifs, 0⟩] cs pos) 0 (.ref I) acc { cenv with scope := relabel cs env }) (RR acc cenv.locals) s4) E s3) E s2 := by
  have hlive : ∀ b ∈ wr, ∃ o, s2.heap.get? b = some o := K.live _ _ si
  refine wpAny_newObj_type (nfe ?_) (by show (0 : Nat) ≤ sizeLine; exact Nat.zero_le _)
  have st0 := comp_start (oacc := lstObj [] 0) (tk := s2.toks) hok hsc c x hwr hlive rfl _ rfl
  show codeAny _ A (.compStart _ 0 (.ref I) (.ref s2.heap.objs.size) (cEnv cs env (s2.heap.push (lstObj [] 0)).objs.size)) (RR (.ref s2.heap.objs.size) (s2.heap.push (lstObj [] 0)).objs.size) { s2 with heap := pushCells ((s2.heap.push (lstObj [] 0)).push { cls := .type "dict", data := .dict #[] }) cs.names }
  generalize hH : pushCells ((s2.heap.push (lstObj [] 0)).push { cls := .type "dict", data := .dict #[] }) cs.names = H at st0 ⊢
  generalize hCC : (s2.heap.push (lstObj [] 0)).objs.size = C at st0 ⊢
  have hCe : C = s2.heap.objs.size + 1 := by rw [← hCC]; exact Heap.size_push ..
  have scp : (cEnv cs env C).scope = relab sc cs := relabel_eq hsc
  have keepH : ∀ a o, s2.heap.get? a = some o → H.get? a = some o := fun a o e => by rw [← hH]; exact pushCells_keeps _ _ a o (Heap.get?_push_of_some _ (Heap.get?_push_of_some _ e))
  have accH : H.get? s2.heap.objs.size = some (lstObj [] 0) := by rw [← hH]; exact pushCells_keeps _ _ _ _ (Heap.get?_push_of_some _ (Heap.get?_push_size _ rfl))
  have hDs : s.heap.get? s2.heap.objs.size = none := none_of_old x.old (get?_size _)
  have hDF : F2 s2.heap.objs.size = none := x.sub.none (get?_size _)
  have hwr' : ∀ b ∈ s2.heap.objs.size :: wr, s.heap.get? b = none ∧ F2 b = none := fun b hb => by
    rcases List.mem_cons.mp hb with rfl | hb
    · exact ⟨hDs, hDF⟩
    · exact hwr b hb
  have hD : s2.heap.objs.size ∉ wr := fun m => by obtain ⟨o, e⟩ := hlive _ m; exact absurd (Heap.lt_size e) (Nat.lt_irrefl _)
  have hCw : ∀ y cc, (cEnv cs env C).cells.lookup y = some cc → cc ∉ s2.heap.objs.size :: wr := fun y cc e m => by
    obtain ⟨v, o, ho, hd⟩ := st0.fs.cell y cc e
    -- a cell is no list and no thing that was made behind s
    rcases List.mem_cons.mp m with rfl | m
    · have : H.get? s2.heap.objs.size = some o := ho
      rw [accH] at this; cases this; cases hd
    · have e' : (cellsFrom (C + 1) cs.names (closL env.cells cs.names [])).lookup y = some cc := e
      rcases cellsFrom_lookup _ _ _ e' with ⟨h, _⟩ | h
      · obtain ⟨p, hp⟩ := hlive cc m
        exact absurd (Heap.lt_size hp) (Nat.not_lt.mpr (Nat.le_trans (Nat.le_succ_of_le (by rw [hCe]; exact Nat.le_succ _)) h))
      · rcases closL_lookup _ _ h with ⟨k, m', hk, z⟩ | z
        · subst hk
          have hok' := hok
          simp only [compOk, Bool.and_eq_true, List.all_eq_true, beq_iff_eq] at hok'
          have hk := hok'.2 _ m'
          simp only [Bool.and_eq_true, beq_iff_eq] at hk
          cases q : ρ.lookup y with
          | none => rw [q] at hk; cases hk.2
          | some V =>
            cases V with
            | d dd =>
              have hf := hk.1.2
              have hin : inFrame env.scope y = true := by
                rw [hsc]; unfold inFrame; unfold freeIn at hf
                cases z : sc.names.lookup y with
                | none => rw [z] at hf; cases hf
                | some k => rw [z] at hf; cases k <;> first | rfl | cases hf
              obtain ⟨v', l, _⟩ := c.vars y _ q hin
              rcases l with ⟨k, _⟩ | ⟨_, c', e2, o', ho', _⟩
              · have k' : sc.names.lookup y = some .local := by rw [← hsc]; exact k
                unfold freeIn at hf; rw [k'] at hf; cases hf
              · rw [e2] at z
                have : cc = c' := z
                subst this
                rw [(hwr cc m).1] at ho'; cases ho'
            | ol => rw [q] at hk; cases hk.2
            | od => rw [q] at hk; cases hk.2
            | oh => rw [q] at hk; cases hk.2
        · simp at z
  have hCs : s.heap.get? C = none := by
    refine none_of_old x.old ?_
    cases q : s2.heap.get? C with
    | none => rfl
    | some o => exact absurd (Heap.lt_size q) (by rw [hCe]; exact Nat.not_lt.mpr (Nat.le_succ _))
  have loop : codeAny (model W.prog W.w) A (.compLoop (.ListComp elt [⟨tgt, iter, ifs, 0⟩] cs pos) 0 (.ref I) (.ref s2.heap.objs.size) (cEnv cs env C)) (RR (.ref s2.heap.objs.size) C) { s2 with heap := H } := by
    refine compLoop_list (fun k s' => ∃ i F1 B' ys m, k = ds.length - i ∧ i ≤ ds.length ∧ Si i s'.heap ∧ (∀ b ∈ s2.heap.objs.size :: wr, (B' b).isSome = true) ∧ (∀ a, a ∉ s2.heap.objs.size :: wr → B' a = s.heap.get? a) ∧
        s'.heap.get? s2.heap.objs.size = some (lstObj ys m) ∧ Rds W F1 (((ds.take i).filter p).map r) ys ∧ St W B' F2 s.gens s.os (cEnv cs env C) (imms ρ) F1 s')
      ?_ (ds.length - 0) ⟨0, F2, _, [], 0, rfl, Nat.zero_le _, K.frame _ _ _ si (fun a o e => keepH a o (x.sub a o e)) (fun b hb o e => keepH b o e), ?_, fun a ha => bUpd_out ha, accH, by simp [Rds], st0⟩
    · rintro k s' ⟨i, F1, B', ys, m, rfl, hi, si', hsome, hout, hacc, hys, st'⟩
      have hF1 : ∀ b ∈ s2.heap.objs.size :: wr, F1 b = none := fun b hb => by
        cases q : F1 b with
        | none => rfl
        | some o =>
          rcases st'.fresh b o q with z | z
          · rw [(hwr' b hb).2] at z; cases z
          · have := hsome b hb; rw [z] at this; cases this
      rcases Nat.lt_or_ge i ds.length with hlt | hge
      · have hd : ds[i]? = some ds[i] := List.getElem?_eq_getElem hlt
        have hmem : ds[i] ∈ ds := List.getElem_mem hlt
        refine wpAny_mono (K.step i s' F1 ds[i] hd si' st'.sub st'.le (fun b hb => hF1 b (List.mem_cons_of_mem _ hb))) (fun rr s3 h3 => ?_) fun _ _ y => y
        obtain ⟨v, rfl, h3⟩ := h3
        refine wpAny_mono h3 (fun _ s4 h4 => ?_) fun _ _ y => y
        obtain ⟨F3, x3, r3, si3⟩ := h4
        have st4 := st'.tick (x3.more fun a ha => List.mem_cons_of_mem _ ha) hsome hCw
        have hacc4 : s4.heap.get? s2.heap.objs.size = some (lstObj ys m) := x3.old _ _ hD hacc
        refine wpAny_mono (hAs _ hmem _ A _ _ _ _ _ _ _ v scp (own_above hok hsc (hbs _ hmem)) hA st4 r3) (fun _ s5 h5 => ?_) fun _ _ y => y
        obtain ⟨F5, st5, le5⟩ := h5
        have base5 : ∀ b ∈ s2.heap.objs.size :: wr, ∀ o, s4.heap.get? b = some o → s5.heap.get? b = some o := fun b hb o e => st5.base b o (by rw [bUpd_in hb]; exact e)
        obtain ⟨ht, he⟩ := hel _ hmem
        refine wpAny_mono (ht _ A F5 s5 scp hA st5.ctx) (fun ok s6 h6 => ?_) fun _ _ y => y
        obtain ⟨rfl, F6, x6⟩ := h6
        have st6 := st5.ext x6
        have tk1 : ds.take (i + 1) = ds.take i ++ [ds[i]] := by rw [List.take_add_one, hd]; rfl
        have out6 : ∀ a, a ∉ s2.heap.objs.size :: wr → bUpd B' (s2.heap.objs.size :: wr) s4.heap a = s.heap.get? a := fun a ha => by rw [bUpd_out ha]; exact hout a ha
        have some6 : ∀ b ∈ s2.heap.objs.size :: wr, (bUpd B' (s2.heap.objs.size :: wr) s4.heap b).isSome = true := fun b hb => by
          rw [bUpd_in hb]
          rcases List.mem_cons.mp hb with rfl | hb
          · rw [hacc4]; rfl
          · obtain ⟨o, e⟩ := K.live _ _ si3 b hb; rw [e]; rfl
        have wk : ∀ {G : Fz} {s9 : Shared}, St W (bUpd B' (s2.heap.objs.size :: wr) s4.heap) F2 s.gens s.os (cEnv cs env C) (bs ds[i] ++ imms ρ) G s9 → St W (bUpd B' (s2.heap.objs.size :: wr) s4.heap) F2 s.gens s.os (cEnv cs env C) (imms ρ) G s9 := fun q => q.weak fun y V e => by
          rw [List.lookup_append]
          cases z : (bs ds[i]).lookup y with
          | none => simpa using e
          | some U =>
            exfalso
            have h1 := List.all_eq_true.mp (hbs _ hmem) _ (mem_of_lookup z)
            obtain ⟨e1, e2⟩ := imms_lookup e
            simp only [compOk, Bool.and_eq_true, List.all_eq_true, beq_iff_eq] at hok
            dsimp only at h1
            cases zz : cs.names.lookup y with
            | none => rw [zz] at h1; cases h1
            | some kk =>
              have := hok.2 _ (mem_of_lookup zz)
              rw [zz] at h1
              cases kk <;> simp [e1] at this h1
        cases hp : p ds[i] with
        | false =>
          simp only [Bool.false_eq_true, if_false]
          refine ⟨ds.length - (i + 1), by omega, i + 1, F6, _, ys, m, rfl, hlt, ?_, some6, out6, ?_, ?_, wk st6⟩
          · exact K.frame _ _ _ si3 (fun a o e => st6.sub a o (st6.le a o e)) fun b hb o e => x6.old b o (base5 b (List.mem_cons_of_mem _ hb) o e)
          · exact x6.old _ _ (base5 _ (List.mem_cons_self ..) _ hacc4)
          · rw [tk1, List.filter_append, List.map_append]
            simp only [List.filter_cons, hp, Bool.false_eq_true, if_false, List.filter_nil, List.map_nil, List.append_nil]
            exact ((hys.mono x3.le).mono le5).mono x6.le
        | true =>
          simp only [if_true]
          refine (he hp _ A F6 s6 scp hA st6.ctx).then fun u F7 s7 x7 r7 => ?_
          have hacc7 : s7.heap.get? s2.heap.objs.size = some (lstObj ys m) := x7.old _ _ (x6.old _ _ (base5 _ (List.mem_cons_self ..) _ hacc4))
          have hyl : ys.length ≤ 10000 := by
            rw [hys.length, List.length_map]
            exact Nat.le_trans (List.length_filter_le ..) (by rw [List.length_take]; omega)
          refine wpAny_list_append_plain (items := ys.toArray) ⟨m, hacc7⟩ (fun h8 hl8 hs8 => ?_) (by rw [List.size_toArray, sizeLine_eq]; omega)
          obtain ⟨m', hm'⟩ := hl8
          have hm'' : h8.get? s2.heap.objs.size = some (lstObj (ys ++ [u]) m') := by rw [hm']; simp [lstObj]
          have st7 := (st6.ext x7)
          have hF7 : F7 s2.heap.objs.size = none := by
            cases q : F7 s2.heap.objs.size with
            | none => rfl
            | some o =>
              rcases st7.fresh _ o q with z | z
              · rw [hDF] at z; cases z
              · have := some6 _ (List.mem_cons_self ..); rw [z] at this; cases this
          have x8 : ExtX [s2.heap.objs.size] F7 F7 s7 { s7 with heap := h8 } := ⟨fun a o ha e => hs8.extBut a o (by simpa using ha) e, fun a o e => hs8.extBut a o (fun z => by rw [z, hF7] at e; cases e) (x7.sub a o e), Fz.le.refl _, fun _ _ e => .inl e, rfl, rfl⟩
          have st8 := st7.tick (x8.more fun a ha => by simp at ha; rw [ha]; exact List.mem_cons_self ..) some6 hCw
          refine ⟨ds.length - (i + 1), by omega, i + 1, F7, bUpd (bUpd B' (s2.heap.objs.size :: wr) s4.heap) (s2.heap.objs.size :: wr) h8, ys ++ [u], m', rfl, hlt, ?_, ?_, ?_, hm'', ?_, ?_⟩
          · refine K.frame _ _ _ si3 (fun a o e => ?_) fun b hb o e => ?_
            · exact x8.sub a o (st7.le a o e)
            · exact hs8.extBut b o (fun z => hD (z ▸ hb)) (x7.old b o (x6.old b o (base5 b (List.mem_cons_of_mem _ hb) o e)))
          · intro b hb
            rw [bUpd_in hb]
            rcases List.mem_cons.mp hb with rfl | hb
            · show (h8.get? _).isSome = true; rw [hm'']; rfl
            · obtain ⟨o, e⟩ := K.live _ _ si3 b hb
              show (h8.get? b).isSome = true
              rw [hs8.extBut b o (fun z => hD (z ▸ hb)) (x7.old b o (x6.old b o (base5 b (List.mem_cons_of_mem _ hb) o e)))]; rfl
          · intro a ha
            rw [bUpd_out ha]; exact out6 a ha
          · rw [tk1, List.filter_append, List.map_append]
            simp only [List.filter_cons, hp, if_true, List.filter_nil, List.map_cons, List.map_nil]
            exact ((((hys.mono x3.le).mono le5).mono x6.le).mono x7.le).append ⟨r7, trivial⟩
          · exact st8.weak fun y V e => by
              rw [List.lookup_append]
              cases z : (bs ds[i]).lookup y with
              | none => simpa using e
              | some U =>
                exfalso
                have h1 := List.all_eq_true.mp (hbs _ hmem) _ (mem_of_lookup z)
                obtain ⟨e1, e2⟩ := imms_lookup e
                simp only [compOk, Bool.and_eq_true, List.all_eq_true, beq_iff_eq] at hok
                dsimp only at h1
                cases zz : cs.names.lookup y with
                | none => rw [zz] at h1; cases h1
                | some kk =>
                  have := hok.2 _ (mem_of_lookup zz)
                  rw [zz] at h1
                  cases kk <;> simp [e1] at this h1
      · have hin : i = ds.length := by omega
        subst hin
        refine wpAny_mono (K.done s' F1 si' st'.sub st'.le (fun b hb => hF1 b (List.mem_cons_of_mem _ hb))) (fun rr s3 h3 => ?_) fun _ _ y => y
        obtain ⟨rfl, x3⟩ := h3
        have st3 := st'.tick (x3.more fun a ha => List.mem_cons_of_mem _ ha) hsome hCw
        have hacc3 : s3.heap.get? s2.heap.objs.size = some (lstObj ys m) := x3.old _ _ hD hacc
        obtain ⟨mm, hns⟩ := st3.fs.ns
        have hlocC : (cEnv cs env C).locals = C := rfl
        rw [hlocC] at hns
        have fr : ∀ a o, F1 a = some o → F a = some o ∨ s.heap.get? a = none := fun a o e => by
          rcases st'.fresh a o e with z | z
          · exact x.fresh a o z
          · right
            rw [← hout a (fun q => by have := hsome a q; rw [z] at this; cases this)]; exact z
        have ext : Ext F F1 s s3 := ⟨fun a o e => ?_, st3.sub, x.le.trans st3.le, fr, st3.gens, st3.os⟩
        · refine hRR _ C s3 _ mm (ext.put hacc3 hDs (hF1 _ (List.mem_cons_self ..))) ?_ hns hCs ?_
          · simp only [Rd]
            refine ⟨_, ys, m, rfl, Fz.put_self .., ?_⟩
            rw [List.take_length] at hys
            exact hys.mono (Fz.le_put _ (hF1 _ (List.mem_cons_self ..)))
          · have : C ≠ s2.heap.objs.size := by rw [hCe]; exact Nat.succ_ne_self _
            rw [Fz.put_ne _ _ this]
            exact st3.mf C (.inl hlocC.symm)
        · have ha : a ∉ s2.heap.objs.size :: wr := fun q => by rw [(hwr' a q).1] at e; cases e
          exact st3.base a o (by rw [bUpd_out ha, hout a ha]; exact e)
    · intro b hb
      rw [bUpd_in hb]
      rcases List.mem_cons.mp hb with rfl | hb
      · rw [accH]; rfl
      · obtain ⟨o, e⟩ := hlive b hb; rw [keepH b o e]; rfl
  refine codeAny_compStart_list loop (K.self 0 _ _ _ ?_ loop)
  exact K.frame _ _ _ si (fun a o e => keepH a o (x.sub a o e)) (fun b hb o e => keepH b o e)
theorem clos_some (hok : compOk sc cs ρ = true) (hsc : env.scope = sc) (c : Ctx W env ρ F s) : ∀ p ∈ cs.names, p.2 = .free → (env.cells.lookup p.1).isSome = true := fun p hp hk => by
  obtain ⟨y, k⟩ := p
  simp only at hk
  subst hk
  simp only [compOk, Bool.and_eq_true, List.all_eq_true, beq_iff_eq] at hok
  have hh := hok.2 _ hp
  simp only [Bool.and_eq_true, beq_iff_eq] at hh
  cases q : ρ.lookup y with
  | none => rw [q] at hh; cases hh.2
  | some V =>
    have hf := hh.1.2
    have hin : inFrame env.scope y = true := by
      rw [hsc]; unfold inFrame; unfold freeIn at hf
      cases z : sc.names.lookup y with
      | none => rw [z] at hf; cases hf
      | some k => rw [z] at hf; cases k <;> first | rfl | cases hf
    obtain ⟨v', l, _⟩ := c.vars y _ q hin
    rcases l with ⟨k, _⟩ | ⟨_, c', e2, _⟩
    · have k' : sc.names.lookup y = some .local := by rw [← hsc]; exact k
      unfold freeIn at hf; rw [k'] at hf; cases hf
    · rw [e2]; rfl
theorem ok_names (hok : compOk sc cs ρ = true) : ∀ x ∈ cs.names, x.2 = .local → cs.names.lookup x.1 = some .local := fun p hp hk => by
  obtain ⟨y, k⟩ := p
  simp only at hk
  subst hk
  simp only [compOk, Bool.and_eq_true, List.all_eq_true, beq_iff_eq] at hok
  have := hok.2 _ hp
  simp only [Bool.and_eq_true, beq_iff_eq] at this
  exact this.1
theorem ok_kind (hok : compOk sc cs ρ = true) : cs.kind = .function := by
  simp only [compOk, Bool.and_eq_true, beq_iff_eq] at hok
  exact hok.1
theorem Ev.comp {elt tgt iter : Expr} {ifs : List Expr} {pos : Pos} {ds : List D} (p : D → Bool) (r : D → D) (bs : D → Vs) (hok : compOk sc cs ρ = true) (hIt : It W sc ρ n iter tgt ds) (hlen : ds.length ≤ 10000)
    (hAs : ∀ d ∈ ds, As W (relab sc cs) n tgt d (bs d)) (hbs : ∀ d ∈ ds, ownNames cs (bs d) = true)
    (hel : ∀ d ∈ ds, EvTs W (relab sc cs) (bs d ++ imms ρ) n ifs (p d) ∧ (p d = true → Ev W (relab sc cs) (bs d ++ imms ρ) n elt (r d)))
    (hfold : ∀ env x, foldedSetIterable iter env x = pure x) : Ev W sc ρ n (.ListComp elt [⟨tgt, iter, ifs, 0⟩] cs pos) (.list ((ds.filter p).map r)) := fun env A F s hs hA c => by
  show wpAny _ A (eval (.ListComp elt [⟨tgt, iter, ifs, 0⟩] cs pos) env) _ _ s
  rw [eval_ListComp]
  refine wpAny_comprehension_free (use := none) rfl (hfold env) (closureFor_eq (clos_some hok hs c)) (ok_kind hok) (ok_names hok) (wpAny_mono (hIt env A F s hs hA c) (fun xv s1 h1 => wpAny_mono h1 (fun it s2 h2 => ?_) fun _ _ y => y) fun _ _ y => y)
  obtain ⟨F2, I, wr, Si, rfl, x, K, si, hwr⟩ := h2
  refine comp_list_run (RR := fun acc C => compPost (model W.prog W.w) A (fun _ _ => False) none _ acc C) hA hok hs c x K si hwr hlen hAs hbs hel fun a C s' F'' m ex rd ns hC hF => ?_
  refine ⟨m, ns, fun h' hs' => ⟨F'', ⟨fun b o e => hs'.extBut b o (fun z => by rw [z, hC] at e; cases e) (ex.old b o e), fun b o e => hs'.extBut b o (fun z => by rw [z, hF] at e; cases e) (ex.sub b o e), ex.le, ex.fresh, ex.gens, ex.os⟩, rd⟩⟩
end Mine
end

/- L10 -/
section
open PySem
namespace Mine
variable {W : Wd} {sc cs : Scope} {ρ : Vs} {n : Nat} {B F0 F : Fz} {g : Array GenState} {os : OsState} {env : Env} {s : Shared}
/- slices -/
def EvP (W : Wd) (sc : Scope) (ρ : Vs) (n : Nat) (e : Option Expr) (k : Option Int) : Prop :=
  ∀ env A F s, env.scope = sc → AOk n A → Ctx W env ρ F s → wpAny (model W.prog W.w) A (evalPart e env) (fun v s' => ∃ F', Ext F F' s s' ∧ IsPart v k) (fun _ _ => False) s
theorem EvP.none : EvP W sc ρ n Option.none Option.none := fun env A F s _ _ c => by rw [evalPart_none]; exact wpAny_pure ⟨F, Ext.refl c.sub, .none⟩
theorem EvP.int {e : Expr} {i : Int} (h : Ev W sc ρ n e (.int i)) : EvP W sc ρ n (some e) (some i) := fun env A F s hs hA c => by
  rw [evalPart_some]
  exact (h env A F s hs hA c).then fun v F1 s1 x1 r1 => by simp only [Rd] at r1; obtain ⟨t, rfl⟩ := r1; exact ⟨F1, x1, .int ..⟩
theorem EvP.nil {e : Expr} (h : Ev W sc ρ n e (.val .none)) : EvP W sc ρ n (some e) Option.none := fun env A F s hs hA c => by
  rw [evalPart_some]
  exact (h env A F s hs hA c).then fun v F1 s1 x1 r1 => by simp only [Rd] at r1; subst r1; exact ⟨F1, x1, .none⟩
theorem strIdx_eq (lo hi : Option Int) (k : Nat) : Builtin.Str.strSliceIndices lo hi 1 k = (List.range ((hi.elim k (clipAt k)) - (lo.elim 0 (clipAt k)))).map (fun i => (lo.elim 0 (clipAt k)) + i) := by
  have e1 : ∀ i : Int, max (0 : Int) (min (if i < 0 then i + k else i) k) = ((clipAt k i : Nat) : Int) := fun i => (clipAt_cast k i).symm
  have h0 : sliceRange 0 = sliceRange ((0 : Nat) : Int) := rfl
  cases lo <;> cases hi <;> simp only [Builtin.Str.strSliceIndices, show ((1 : Int) > 0) = True from by simp, if_true, Option.elim_none, Option.elim_some, e1, h0, sliceRange_one]
theorem clipAt_le (k : Nat) (i : Int) : clipAt k i ≤ k := by
  have := clipAt_cast k i
  omega
def sl {α : Type} (l : List α) (lo hi : Option Int) : List α := (l.drop (lo.elim 0 (clipAt l.length))).take ((hi.elim l.length (clipAt l.length)) - (lo.elim 0 (clipAt l.length)))
theorem sl_from {α : Type} (l : List α) (a : Nat) : sl l (some a) none = l.drop a := by
  unfold sl
  simp only [Option.elim_some, Option.elim_none, clipAt_nat]
  rcases Nat.le_total a l.length with h | h
  · rw [Nat.min_eq_left h, List.take_of_length_le]; simp
  · rw [Nat.min_eq_right h]; simp [List.drop_eq_nil_of_le h]
theorem sl_upto {α : Type} (l : List α) (b : Nat) : sl l none (some b) = l.take b := by
  unfold sl
  simp only [Option.elim_some, Option.elim_none, clipAt_nat, List.drop_zero, Nat.sub_zero]
  rcases Nat.le_total b l.length with h | h
  · rw [Nat.min_eq_left h]
  · rw [Nat.min_eq_right h, List.take_of_length_le (Nat.le_refl _), List.take_of_length_le h]
theorem sl_neg {α : Type} (l : List α) (k : Nat) (hk : 1 ≤ k) : sl l none (some (-(k : Int))) = l.take (l.length - k) := by
  unfold sl
  simp only [Option.elim_some, Option.elim_none, clipAt_neg _ _ hk, List.drop_zero, Nat.sub_zero]
theorem sl_all {α : Type} (l : List α) : sl l none none = l := by
  unfold sl; simp
theorem partValue_of {v : Value} {k : Option Int} (h : IsPart v k) : ∃ p : Option (Int × Tok), v = partValue p ∧ p.map (·.1) = k := by
  cases h with
  | none => exact ⟨Option.none, rfl, rfl⟩
  | int i t => exact ⟨some (i, t), rfl, rfl⟩
theorem Ev.sliceS {value : Expr} {lo hi : Option Expr} {p pos : Pos} {l : List Nat} {a b : Option Int} (hv : Ev W sc ρ n value (.str (sOf l))) (hlo : EvP W sc ρ n lo a) (hhi : EvP W sc ρ n hi b) (hl : l.length ≤ 1000)
    (ht : ∀ o r, letTemporaryGo value o r = pure ()) : Ev W sc ρ n (.Subscript value (.Slice lo hi Option.none p) pos) (.str (sOf (sl l a b))) := fun env A F s hs hA c =>
  wpAny_Subscript_str_slice ((hv env A F s hs hA c).then fun v F1 s1 x1 r1 => wpAny_mono (hlo env A F1 s1 hs hA (c.ext x1)) (fun vl s2 h2 => by
    obtain ⟨F2, x2, p2⟩ := h2
    refine wpAny_mono (hhi env A F2 s2 hs hA ((c.ext x1).ext x2)) (fun vu s3 h3 => ?_) fun _ _ y => y
    obtain ⟨F3, x3, p3⟩ := h3
    simp only [Rd] at r1
    obtain ⟨t, rfl⟩ := r1
    obtain ⟨q2, rfl, e2⟩ := partValue_of p2
    obtain ⟨q3, rfl, e3⟩ := partValue_of p3
    refine ⟨_, _, q2, q3, rfl, rfl, rfl, ?_⟩
    have xx := ((x1.trans x2).trans x3).trans (Ext.grow x3.sub (s3.heap.push { cls := .type "slice", data := .fields #[partValue q2, partValue q3, .none] }) s3.toks fun _ _ e => Heap.get?_push_of_some _ e)
    unfold sliceMade slicePicked
    simp only [e2, e3, Option.map_none, Option.getD_none, sOf_length]
    rw [strIdx_eq]
    have hb : b.elim l.length (clipAt l.length) ≤ l.length := by cases b <;> simp [clipAt_le]
    generalize ha' : a.elim 0 (clipAt l.length) = a' at *
    generalize hb' : b.elim l.length (clipAt l.length) = b' at *
    have pk : ((List.range (b' - a')).map (fun i => a' + i)).filterMap ((sOf l).cps[·]?) = (l.drop a').take (b' - a') := by
      rcases Nat.le_total a' b' with h | h
      · have := StrLaws.picks l (b' - a') a' (by omega)
        simpa [sOf] using this
      · rw [Nat.sub_eq_zero_of_le h]; simp
    have sle : sl l a b = (l.drop a').take (b' - a') := by unfold sl; rw [ha', hb']
    split
    · rename_i q
      simp only [beq_self_eq_true, Bool.true_and, List.length_map, List.length_range, beq_iff_eq] at q
      refine ⟨F3, xx, ?_⟩
      simp only [Rd]
      refine ⟨t, ?_⟩
      have : sl l a b = l := by
        rw [sle]
        by_cases hz : l.length = 0
        · rw [List.length_eq_zero_iff.mp hz]; simp
        · have : a' = 0 := by omega
          subst this
          simp only [Nat.sub_zero] at q
          rw [List.drop_zero, Nat.sub_zero, q, List.take_length]
      rw [this]
    · refine ⟨?_, F3, xx.trans (Ext.toks xx.sub _), ?_⟩
      · show (Str.length ⟨_⟩) ≤ sizeLine
        rw [pk]
        show ((List.take (b' - a') (List.drop a' l)).toArray.size) ≤ sizeLine
        rw [List.size_toArray, List.length_take, List.length_drop, sizeLine_eq]; omega
      · simp only [Rd]
        refine ⟨s3.toks, ?_⟩
        rw [pk, sle]; rfl) fun _ _ y => y.elim) ht
theorem Ev.sliceL {value : Expr} {lo hi : Option Expr} {p pos : Pos} {ds : List D} {a b : Option Int} (hv : Ev W sc ρ n value (.list ds)) (hlo : EvP W sc ρ n lo a) (hhi : EvP W sc ρ n hi b) (hl : ds.length ≤ 1000)
    (ht : ∀ o r, letTemporaryGo value o r = pure ()) : Ev W sc ρ n (.Subscript value (.Slice lo hi Option.none p) pos) (.list (sl ds a b)) := fun env A F s hs hA c =>
  wpAny_Subscript_list_slice ((hv env A F s hs hA c).then fun v F1 s1 x1 r1 => wpAny_mono (hlo env A F1 s1 hs hA (c.ext x1)) (fun vl s2 h2 => by
    obtain ⟨F2, x2, p2⟩ := h2
    refine wpAny_mono (hhi env A F2 s2 hs hA ((c.ext x1).ext x2)) (fun vu s3 h3 => ?_) fun _ _ y => y
    obtain ⟨F3, x3, p3⟩ := h3
    simp only [Rd] at r1
    obtain ⟨ad, vs, m, rfl, ho, r⟩ := r1
    have ho3 := x3.le _ _ (x2.le _ _ ho)
    refine ⟨ad, vs.toArray, a, b, rfl, lst_isList (x3.sub _ _ ho3), by rw [List.size_toArray, r.length, sizeLine_eq]; omega, p2, p3, ?_⟩
    have e : (s3.heap.push { cls := .type "slice", data := .fields #[vl, vu, .none] }).objs.size = s3.heap.objs.size + 1 := Heap.size_push ..
    have xx := ((x1.trans x2).trans x3).trans (Ext.grow x3.sub (s3.heap.push { cls := .type "slice", data := .fields #[vl, vu, .none] }) s3.toks fun _ _ e => Heap.get?_push_of_some _ e)
    have pick : slicePick vs.toArray a b Option.none = (sl vs a b).toArray := by
      rw [slicePick_plain]
      unfold sl
      simp only [List.size_toArray]
    have xy := xx.trans (Ext.push xx.sub (lstObj (sl vs a b) 0) rfl s3.toks)
    rw [pick]
    dsimp only at xy
    rw [e] at xy
    refine ⟨_, xy, ?_⟩
    simp only [Rd]
    refine ⟨_, sl vs a b, 0, rfl, Fz.put_self .., ?_⟩
    have hh : Rds W F3 (sl ds a b) (sl vs a b) := by
      unfold sl
      rw [r.length]
      exact (((r.mono x2.le).mono x3.le).drop _).take _
    refine hh.mono (Fz.le_put _ ?_)
    have := xx.sub.none (get?_size (s3.heap.push { cls := .type "slice", data := .fields #[vl, vu, .none] }))
    rw [e] at this; exact this) fun _ _ y => y.elim) ht
end Mine
end

/- L11 -/
section
open PySem
namespace Mine
variable {W : Wd} {sc cs : Scope} {ρ : Vs} {n : Nat} {B F0 F : Fz} {g : Array GenState} {os : OsState} {env : Env} {s : Shared}
/- the least of a list of ints -/
def lmin : List Int → Int
  | [] => 0
  | [a] => a
  | a :: b :: r => min a (lmin (b :: r))
theorem lmin_mem : ∀ {l : List Int}, l ≠ [] → lmin l ∈ l
  | [], h => absurd rfl h
  | [a], _ => by simp [lmin]
  | a :: b :: r, _ => by
    have ih := lmin_mem (l := b :: r) (by simp)
    unfold lmin
    rcases Int.le_total a (lmin (b :: r)) with h | h
    · rw [Int.min_eq_left h]; exact List.mem_cons_self ..
    · rw [Int.min_eq_right h]; exact List.mem_cons_of_mem _ ih
theorem lmin_le : ∀ {l : List Int} {a : Int}, a ∈ l → lmin l ≤ a
  | [b], a, h => by simp at h; simp [lmin, h]
  | b :: c :: r, a, h => by
    unfold lmin
    rcases List.mem_cons.mp h with rfl | h
    · exact Int.min_le_left ..
    · exact Int.le_trans (Int.min_le_right ..) (lmin_le h)
theorem lmin_eq {l : List Int} {m : Int} (h : m ∈ l) (hle : ∀ a ∈ l, m ≤ a) : m = lmin l :=
  Int.le_antisymm (hle _ (lmin_mem fun e => by rw [e] at h; cases h)) (lmin_le h)
theorem rds_ints {F : Fz} : ∀ {ns : List Int} {vs : List Value}, Rds W F (ns.map .int) vs → ∃ xs : Array (Int × Tok), vs.toArray = intItems xs ∧ xs.toList.map (·.1) = ns
  | [], [], _ => ⟨#[], by simp [intItems], rfl⟩
  | [], _ :: _, h => h.elim
  | _ :: _, [], h => h.elim
  | a :: ns, v :: vs, h => by
    obtain ⟨xs, e1, e2⟩ := rds_ints h.2
    obtain ⟨t, rfl⟩ := (by simpa only [Rd] using h.1 : ∃ t, v = .int a t)
    refine ⟨#[(a, t)] ++ xs, ?_, by simp [e2]⟩
    simp only [intItems] at e1 ⊢
    have : (Value.int a t :: vs).toArray = #[Value.int a t] ++ vs.toArray := by simp
    rw [this, e1]; simp
theorem cl_minL (ns : List Int) (hne : ns ≠ []) : Cl W n (.builtin "min") [.list (ns.map .int)] (.int (lmin ns)) := fun A F s vs hA h _ r => by
  match vs, r with
  | [v], r =>
    obtain ⟨a, ws, m, rfl, ho, rr⟩ := (by simpa only [Rd] using r.1 : ∃ a vs n, v = .ref a ∧ F a = some (lstObj vs n) ∧ Rds W F (ns.map .int) vs)
    obtain ⟨xs, e1, e2⟩ := rds_ints rr
    have hl := lst_isList (h _ _ ho)
    rw [e1] at hl
    have hsz : 0 < xs.size := by
      have : xs.toList.length = ns.length := by rw [← e2, List.length_map]
      rw [Array.length_toList] at this
      rw [this]; exact List.length_pos_iff.mpr hne
    refine min_intList hA.handled hl hsz fun v h' tk hv hk => ?_
    obtain ⟨t, rfl⟩ := intItems_at hv
    obtain ⟨h1, h2⟩ := argBest_lt (numAt xs) (xs.size - 1)
    refine ⟨F, Ext.grow h h' tk hk, ?_⟩
    simp only [Rd]
    have eq : numAt xs (argBest (fun i j => decide (numAt xs i < numAt xs j)) (xs.size - 1)) = lmin ns := by
      refine lmin_eq ?_ ?_
      · rw [← e2, PySem.numAt_eq]; exact PySem.getD_mem (by rw [List.length_map, Array.length_toList]; omega)
      · intro a ha
        rw [← e2] at ha
        obtain ⟨j, hj, rfl⟩ := PySem.mem_getD ha
        rw [List.length_map, Array.length_toList] at hj
        rw [← PySem.numAt_eq]; exact h2 j (by omega)
    rw [eq]; exact ⟨t, rfl⟩
theorem op_catL (x y : List D) (h1 : x.length ≤ 1000) (h2 : y.length ≤ 1000) : Op2 W n (binaryOp .Add) (.list x) (.list y) (.list (x ++ y)) := fun A F s u v _ h ra rb => by
  simp only [Rd] at ra rb
  obtain ⟨a, vs, m, rfl, ho, r⟩ := ra; obtain ⟨a', vs', m', rfl, ho', r'⟩ := rb
  have e : vs.toArray ++ vs'.toArray = (vs ++ vs').toArray := by simp
  refine P.add_list (h _ _ ho) (h _ _ ho') ?_ (by rw [List.size_toArray, List.size_toArray, r.length, r'.length, sizeLine_eq]; omega)
  rw [e]
  refine ⟨_, Ext.push h (lstObj (vs ++ vs') 0) rfl s.toks, ?_⟩
  simp only [Rd]
  exact ⟨_, _, _, rfl, Fz.put_self .., (r.append r').mono (Fz.le_put _ (h.none (get?_size _)))⟩
theorem cl_chr (i : Int) (h0 : 0 ≤ i) (h1 : i < 128) : Cl W n (.builtin "chr") [.int i] (.str (sOf [i.toNat])) := fun A F s vs _ h _ r => by
  match vs, r with
  | [v], r =>
    obtain ⟨t, rfl⟩ := (by simpa only [Rd] using r.1 : ∃ t, v = .int i t)
    refine P.chr_of_int (by simp; omega) ⟨F, Ext.toks h _, ?_⟩
    simp only [Rd]; exact ⟨_, rfl⟩
theorem cl_ord (c : Nat) : Cl W n (.builtin "ord") [.str (sOf [c])] (.int c) := fun A F s vs _ h _ r => by
  match vs, r with
  | [v], r =>
    obtain ⟨t, rfl⟩ := (by simpa only [Rd] using r.1 : ∃ t, v = .str (sOf [c]) t)
    refine P.ord_of_char ⟨F, Ext.toks h _, ?_⟩
    simp only [Rd]; exact ⟨_, rfl⟩
/- two tables compared -/
abbrev Tab := List (List Int)
def Tab.d (t : Tab) : D := .list (t.map fun r => .list (r.map .int))
def Tab.py (t : Tab) : PyData := .list (t.map fun r => .list (r.map .int))
theorem reads_ints {F : Fz} {h : Heap} : ∀ {ns : List Int} {vs : List Value}, Rds W F (ns.map .int) vs → ∃ as, ReadsAll h vs (ns.map .int) as
  | [], [], _ => ⟨_, .nil⟩
  | [], _ :: _, x => x.elim
  | _ :: _, [], x => x.elim
  | a :: ns, v :: vs, x => by
    obtain ⟨as, ih⟩ := reads_ints (h := h) x.2
    obtain ⟨t, rfl⟩ := (by simpa only [Rd] using x.1 : ∃ t, v = .int a t)
    exact ⟨_, .cons (.int a t) ih⟩
theorem reads_rows {F : Fz} {h : Heap} (hs : SubH F h) : ∀ {t : Tab} {vs : List Value}, Rds W F (t.map fun r => .list (r.map .int)) vs → ∃ as, ReadsAll h vs (t.map fun r => .list (r.map .int)) as
  | [], [], _ => ⟨_, .nil⟩
  | [], _ :: _, x => x.elim
  | _ :: _, [], x => x.elim
  | a :: ns, v :: vs, x => by
    obtain ⟨as, ih⟩ := reads_rows hs x.2
    obtain ⟨ad, ws, m, rfl, ho, rr⟩ := (by simpa only [Rd] using x.1 : ∃ ad vs n, v = .ref ad ∧ F ad = some (lstObj vs n) ∧ Rds W F (a.map .int) vs)
    obtain ⟨bs, ih2⟩ := reads_ints (h := h) rr
    exact ⟨_, .cons (.list (hs _ _ ho) rfl rfl (by simpa using ih2)) ih⟩
theorem reads_tab {F : Fz} {h : Heap} (hs : SubH F h) {t : Tab} {v : Value} (r : Rd W F t.d v) : ∃ as, Reads h v t.py as := by
  unfold Tab.d at r
  simp only [Rd] at r
  obtain ⟨a, vs, m, rfl, ho, rr⟩ := r
  obtain ⟨as, ih⟩ := reads_rows hs rr
  exact ⟨_, .list (hs _ _ ho) rfl rfl (by simpa using ih)⟩
theorem eqvAll_ints : ∀ a b : List Int, PyData.eqvAll (a.map .int) (b.map .int) = (a == b)
  | [], [] => by simp [PyData.eqvAll]
  | [], _ :: _ => by simp [PyData.eqvAll]
  | _ :: _, [] => by simp [PyData.eqvAll]
  | x :: a, y :: b => by
    simp only [List.map_cons, PyData.eqvAll, PyData.eqv, eqvAll_ints a b]
    rfl
theorem eqv_tab : ∀ a b : Tab, PyData.eqvAll (a.map fun r => .list (r.map .int)) (b.map fun r => .list (r.map .int)) = (a == b)
  | [], [] => by simp [PyData.eqvAll]
  | [], _ :: _ => by simp [PyData.eqvAll]
  | _ :: _, [] => by simp [PyData.eqvAll]
  | x :: a, y :: b => by
    simp only [List.map_cons, PyData.eqvAll, PyData.eqv, eqvAll_ints, eqv_tab a b]
    rfl
theorem canLay_ints : ∀ a : List Int, PyData.canLayAll0 (a.map .int) = true
  | [] => rfl
  | _ :: a => by simp [PyData.canLayAll0, PyData.canLay0, canLay_ints a]
theorem canLay_rows : ∀ a : Tab, PyData.canLayAll0 (a.map fun r => .list (r.map .int)) = true
  | [] => rfl
  | x :: a => by simp [PyData.canLayAll0, PyData.canLay0, canLay_ints x, canLay_rows a]
theorem depth_ints : ∀ a : List Int, PyData.depthAll (a.map .int) ≤ 1
  | [] => by decide
  | x :: a => by
    simp only [List.map_cons, PyData.depthAll, PyData.depth]
    have := depth_ints a
    omega
theorem depth_rows : ∀ a : Tab, PyData.depthAll (a.map fun r => .list (r.map .int)) ≤ 2
  | [] => by decide
  | x :: a => by
    simp only [List.map_cons, PyData.depthAll, PyData.depth]
    have := depth_rows a
    have := depth_ints x
    omega
theorem op_neT (a b : Tab) : Op2 W n (compareOp .NotEq) a.d b.d (.val (.bool (a != b))) := fun A F s u v hA h ra rb => by
  obtain ⟨as, r1⟩ := reads_tab h ra
  obtain ⟨bs, r2⟩ := reads_tab h rb
  have d1 : a.py.depth ≤ 3 := by unfold Tab.py; simp only [PyData.depth]; have := depth_rows a; omega
  have := SeqAt.rcNeAt_reads (A := A) r1 r2 (by unfold Tab.py; simp [PyData.canLay0, canLay_rows]) (by unfold Tab.py; simp [PyData.canLay0, canLay_rows]) (by have := hA.units; show A.units + min a.py.depth b.py.depth < 9900; omega)
  have e : (!PyData.eqv a.py b.py) = (a != b) := by
    unfold Tab.py
    simp only [PyData.eqv, eqv_tab]; rfl
  rw [e] at this
  exact this W.prog W.w _ _ ⟨F, Ext.refl h, by simp only [Rd]⟩
end Mine
end

/- L12 -/
section
open PySem
namespace Mine
variable {W : Wd} {sc cs : Scope} {ρ : Vs} {n : Nat} {B F0 F : Fz} {g : Array GenState} {os : OsState} {env : Env} {s : Shared}
/- methods of texts -/
theorem Ev.strM0 {o : Expr} {name : Str} {id : String} {apos pos : Pos} {x : Str} {d : D} (ho : Ev W sc ρ n o (.str x)) (slot : Slot "str" name id) (ty : typeOf (.builtin id) = pure (.type "method_descriptor"))
    (hc : Cl W n (.builtin id) [.str x] d) (hbase : ∀ env, attributeBase o name env (eval o env) = eval o env) (hline : (apos.endLine == pos.line) = true) : Ev W sc ρ n (.Call (.Attribute o name apos) [] [] pos) d := fun env A F s hs hA c =>
  Call_method0 (hbase env) hline ((ho env A F s hs hA c).then fun v F1 s1 x1 r1 => by
    simp only [Rd] at r1
    obtain ⟨t, rfl⟩ := r1
    refine ⟨"str", id, PySem.F.plainAttrs_str, slot, ty, typeIs_str _ _ _, (fun _ e => nomatch e), ?_⟩
    refine Calls.callWith_builtin rfl (PyProof.Rows.evalArgs_none ?_)
    exact Gv.of_ext x1 (hc A F1 s1 [.str x t] hA x1.sub (fun a o e => x1.le _ _ (c.gr a o e)) ⟨by simp only [Rd]; exact ⟨t, rfl⟩, trivial⟩))
theorem Ev.strM1 {o e : Expr} {name : Str} {id : String} {apos pos : Pos} {x : Str} {d d1 : D} (ho : Ev W sc ρ n o (.str x)) (he : Ev W sc ρ n e d1) (slot : Slot "str" name id) (ty : typeOf (.builtin id) = pure (.type "method_descriptor"))
    (hc : Cl W n (.builtin id) [.str x, d1] d) (hbase : ∀ env, attributeBase o name env (eval o env) = eval o env) (hp : ∀ env, starEach [e] env = [(false, eval e env)]) (hline : (apos.endLine == pos.line) = true) :
    Ev W sc ρ n (.Call (.Attribute o name apos) [e] [] pos) d := fun env A F s hs hA c =>
  Call_method1 (hbase env) (hp env) hline ((ho env A F s hs hA c).then fun v F1 s1 x1 r1 => by
    simp only [Rd] at r1
    obtain ⟨t, rfl⟩ := r1
    refine ⟨"str", id, PySem.F.plainAttrs_str, slot, ty, typeIs_str _ _ _, (fun _ e => nomatch e), ?_⟩
    refine Calls.callWith_builtin rfl (Calls.evalArgs_plain (Calls.spliced_cons ((he env A F1 s1 hs hA (c.ext x1)).then fun u F2 s2 x2 r2 => Calls.spliced_nil ?_)))
    exact Gv.of_ext (x1.trans x2) (hc A F2 s2 [.str x t, u] hA x2.sub (fun a o e => x2.le _ _ (x1.le _ _ (c.gr a o e))) ⟨by simp only [Rd]; exact ⟨t, rfl⟩, r2, trivial⟩))
theorem cl_upper (l : List Nat) (hl : l.length ≤ 1000) : Cl W n (.builtin "str.upper") [.str (sOf l)] (.str (Txt.upper (sOf l))) := fun A F s vs _ h _ r => by
  match vs, r with
  | [v], r =>
    obtain ⟨t, rfl⟩ := (by simpa only [Rd] using r.1 : ∃ t, v = .str (sOf l) t)
    refine PyProof.Rows.SCL.upper (by rw [sOf_length]; omega) fun _ => ⟨F, Ext.toks h _, ?_⟩
    simp only [Rd]; exact ⟨_, rfl⟩
theorem cl_lower (l : List Nat) (hl : l.length ≤ 1000) : Cl W n (.builtin "str.lower") [.str (sOf l)] (.str (Txt.lower (sOf l))) := fun A F s vs _ h _ r => by
  match vs, r with
  | [v], r =>
    obtain ⟨t, rfl⟩ := (by simpa only [Rd] using r.1 : ∃ t, v = .str (sOf l) t)
    refine PyProof.Rows.SCL.lower (by rw [sOf_length]; omega) fun _ => ⟨F, Ext.toks h _, ?_⟩
    simp only [Rd]; exact ⟨_, rfl⟩
theorem cl_index (x y : Str) (i : Nat) (rest : List Nat) (ho : Builtin.Str.occurrences x y 0 x.length 1 = i :: rest) : Cl W n (.builtin "str.index") [.str x, .str y] (.int i) := fun A F s vs _ h _ r => by
  match vs, r with
  | [u, v], r =>
    obtain ⟨t, rfl⟩ := (by simpa only [Rd] using r.1 : ∃ t, u = .str x t)
    obtain ⟨t', rfl⟩ := (by simpa only [Rd] using r.2.1 : ∃ t, v = .str y t)
    refine SC.index ho ⟨F, Ext.toks h _, ?_⟩
    simp only [Rd]; exact ⟨_, rfl⟩
theorem rds_strs {F : Fz} : ∀ {xs : List Str} {vs : List Value}, Rds W F (xs.map .str) vs → ∃ l : List (Str × Tok), vs = strValues l ∧ l.map (·.1) = xs
  | [], [], _ => ⟨[], rfl, rfl⟩
  | [], _ :: _, h => h.elim
  | _ :: _, [], h => h.elim
  | a :: ns, v :: vs, h => by
    obtain ⟨l, e1, e2⟩ := rds_strs h.2
    obtain ⟨t, rfl⟩ := (by simpa only [Rd] using h.1 : ∃ t, v = .str a t)
    exact ⟨(a, t) :: l, by rw [e1]; rfl, by simp [e2]⟩
theorem cl_join (sep : Str) (xs : List Str) (hok : JoinOk sep xs = true) : Cl W n (.builtin "str.join") [.str sep, .list (xs.map .str)] (.str (Txt.join sep xs)) := fun A F s vs _ h _ r => by
  match vs, r with
  | [u, v], r =>
    obtain ⟨t, rfl⟩ := (by simpa only [Rd] using r.1 : ∃ t, u = .str sep t)
    obtain ⟨a, ws, m, rfl, ho, rr⟩ := (by simpa only [Rd] using r.2.1 : ∃ a vs n, v = .ref a ∧ F a = some (lstObj vs n) ∧ Rds W F (xs.map .str) vs)
    obtain ⟨l, rfl, e2⟩ := rds_strs rr
    refine SC.join (lst_isList (h _ _ ho)) e2 hok fun t' k => ⟨F, Ext.toks h _, ?_⟩
    simp only [Rd]; exact ⟨_, rfl⟩
/- dicts -/
theorem dict_of {h : Heap} {a : Addr} {o : Obj} {kvs : List (Str × Value)} (e : h.get? a = some o) (m : MapObj W o kvs) : h.DictOf (strKind W.prog W.w) a kvs := Heap.dictOf_iff.mpr ⟨o, e, m⟩
theorem of_dict {h : Heap} {a : Addr} {kvs : List (Str × Value)} (m : h.DictOf (strKind W.prog W.w) a kvs) : ∃ o, h.get? a = some o ∧ MapObj W o kvs := Heap.dictOf_iff.mp m
theorem map_nodup {o : Obj} {kvs : List (Str × Value)} (m : MapObj W o kvs) : (kvs.map (·.1)).Nodup := by obtain ⟨_, _, _, _, _, _, h⟩ := m; exact h
theorem valueAt_zip {ks : List Str} {vs : List Value} {k : Str} {v : Value} : ∀ {i : Nat}, (ks.zip vs).map (·.1) |>.Nodup → ks[i]? = some k → vs[i]? = some v → valueAt (ks.zip vs) k = some v := by
  induction ks generalizing vs with
  | nil => intro i _ h; simp at h
  | cons y r ih =>
    intro i nd hk hv
    cases vs with
    | nil => simp at hv
    | cons u vs =>
      simp only [List.zip_cons_cons, List.map_cons, List.nodup_cons] at nd
      unfold valueAt at ih ⊢
      cases i with
      | zero =>
        simp at hk hv
        subst hk hv
        simp [List.zip_cons_cons]
      | succ i =>
        simp only [List.getElem?_cons_succ] at hk hv
        have hm : k ∈ (r.zip vs).map (·.1) := by
          refine List.mem_map.mpr ⟨(k, v), ?_, rfl⟩
          exact List.mem_of_getElem? (i := i) (by rw [List.getElem?_zip_eq_some]; exact ⟨hk, hv⟩)
        have hne : y ≠ k := fun e => nd.1 (e ▸ hm)
        rw [List.zip_cons_cons, List.find?_cons]
        simp only [decide_eq_false hne]
        exact ih nd.2 hk hv
theorem idx_dict {slice : Expr} {ks : List Str} {ds : List D} {k : Str} {d : D} {i : Nat} (hp : PlainIdx slice) (hk : ks[i]? = some k) (hd : ds[i]? = some d) : Idx W n slice (.dict ks ds) (.str k) d := fun value A F s u v _ h ra rb => by
  simp only [Rd] at ra rb
  obtain ⟨a, o, vs, rfl, ho, m, r⟩ := ra; obtain ⟨t, rfl⟩ := rb
  obtain ⟨x, hx, rx⟩ := r.get hd
  have hD := dict_of (h _ _ ho) m
  refine PyProof.Rows.tail_any hD.typeIs slot_dict_getitem.lookup ?_ (hp _ _)
  exact wpAny_getItem_of (strKind_is W.prog W.w k t) hD.mapOf (valueAt_zip (map_nodup m) hk hx) ⟨F, Ext.toks h _, rx⟩
/- a dict of the frame's own, read as if it were frozen -/
def flat : D → Bool
  | .val _ | .int _ | .str _ | .rng .. => true
  | .list ds => flats ds
  | .tup ds => flats ds
  | .dict .. | .hdr .. | .inst .. => false
where flats : List D → Bool
  | [] => true
  | d :: r => flat d && flats r
def Fz.but (F : Fz) (a : Addr) (x : Option Obj) : Fz := fun b => if b = a then x else F b
mutual
theorem Rd.but {F : Fz} {a : Addr} {o : Obj} {x : Option Obj} (hF : F a = some o) (ho : o.cls = .type "dict") : ∀ {d : D} {v : Value}, flat d = true → Rd W F d v → Rd W (F.but a x) d v
  | .val _, _, _, h => by simpa only [Rd] using h
  | .int _, _, _, h => by simpa only [Rd] using h
  | .str _, _, _, h => by simpa only [Rd] using h
  | .list ds, _, hf, h => by
    simp only [Rd] at h ⊢
    obtain ⟨b, vs, n, e, hb, r⟩ := h
    have hne : b ≠ a := fun z => by rw [z, hF] at hb; cases hb; simp at ho
    exact ⟨b, vs, n, e, (if_neg hne).trans hb, Rds.but hF ho (by simpa only [flat] using hf) r⟩
  | .tup ds, _, hf, h => by
    simp only [Rd] at h ⊢
    obtain ⟨b, vs, n, e, hb, r⟩ := h
    have hne : b ≠ a := fun z => by rw [z, hF] at hb; cases hb; simp at ho
    exact ⟨b, vs, n, e, (if_neg hne).trans hb, Rds.but hF ho (by simpa only [flat] using hf) r⟩
  | .dict .., _, hf, _ => by simp [flat] at hf
  | .hdr .., _, hf, _ => by simp [flat] at hf
  | .inst .., _, hf, _ => by simp [flat] at hf
  | .rng .., _, _, h => by
    simp only [Rd] at h ⊢
    obtain ⟨b, t, t', t'', e, hb⟩ := h
    have hne : b ≠ a := fun z => by rw [z, hF] at hb; cases hb; simp at ho
    exact ⟨b, t, t', t'', e, (if_neg hne).trans hb⟩
theorem Rds.but {F : Fz} {a : Addr} {o : Obj} {x : Option Obj} (hF : F a = some o) (ho : o.cls = .type "dict") : ∀ {ds : List D} {vs : List Value}, flat.flats ds = true → Rds W F ds vs → Rds W (F.but a x) ds vs
  | [], [], _, _ => trivial
  | [], _ :: _, _, h => h.elim
  | _ :: _, [], _, h => h.elim
  | _ :: _, _ :: _, hf, h => by
    simp only [flat.flats, Bool.and_eq_true] at hf
    exact ⟨Rd.but hF ho hf.1 h.1, Rds.but hF ho hf.2 h.2⟩
end
theorem Fz.put_but (F : Fz) (a : Addr) (o : Obj) (h : F a = none) : (F.put a o).but a none = F := by
  funext b
  unfold Fz.but
  by_cases q : b = a
  · subst q; rw [if_pos rfl, h]
  · rw [if_neg q, Fz.put_ne _ _ q]
theorem Ctx.borrow {x : Str} {ks : List Str} {ds : List D} (c : Ctx W env ρ F s) (hx : ρ.lookup x = some (.od ks ds)) (hf : inFrame env.scope x = true) (hd : flat.flats ds = true) :
    ∃ a o, s.heap.get? a = some o ∧ o.cls = .type "dict" ∧ Ctx W env ((x, .d (.dict ks ds)) :: ρ) (F.put a o) s := by
  obtain ⟨v, l, a, o, vs, rfl, ho, m, r⟩ := c.vars x _ hx hf
  have hc : o.cls = .type "dict" := by obtain ⟨_, _, h, _⟩ := m; exact h.1
  have hle : F.le (F.put a o) := fun b p e => by
    by_cases q : b = a
    · subst q
      have := c.sub _ _ e
      rw [ho] at this; cases this
      exact Fz.put_self ..
    · rw [Fz.put_ne _ _ q]; exact e
  refine ⟨a, o, ho, hc, c.sub.put ho, fun b p e => hle b p (c.gr b p e), c.kind, c.glob, c.bui, fun y V e k => ?_⟩
  by_cases hy : y = x
  · subst hy
    rw [lookup_cons_self] at e; cases e
    refine ⟨_, l, ?_⟩
    show Rd W _ (.dict ks ds) _
    simp only [Rd]
    exact ⟨a, o, vs, rfl, Fz.put_self .., m, r.mono hle⟩
  · rw [lookup_cons_ne hy] at e
    obtain ⟨v', l', r'⟩ := c.vars y V e k
    refine ⟨v', l', ?_⟩
    cases V with
    | d d => exact Rd.mono hle r'
    | ol ds => obtain ⟨b, vs, n, e, h2, q⟩ := r'; exact ⟨b, vs, n, e, h2, q.mono hle⟩
    | od ks ds => obtain ⟨b, p, vs, e, h2, m2, q⟩ := r'; exact ⟨b, p, vs, e, h2, m2, q.mono hle⟩
    | oh ds => obtain ⟨b, dx, od, l2, vs, n, t, e, h1, h2, h3, h4, q⟩ := r'; exact ⟨b, dx, od, l2, vs, n, t, e, hle _ _ h1, hle _ _ h2, h3, h4, q.mono hle⟩
theorem ext_back {F2 : Fz} {a : Addr} {o : Obj} {s' : Shared} (hs : SubH F s.heap) (ho : s.heap.get? a = some o) (x : Ext (F.put a o) F2 s s') : Ext F (F2.but a (F a)) s s' := by
  refine ⟨x.old, fun b p e => ?_, fun b p e => ?_, fun b p e => ?_, x.gens, x.os⟩
  · unfold Fz.but at e
    split at e
    · rename_i q; subst q; exact x.old _ _ (hs _ _ e)
    · exact x.sub b p e
  · unfold Fz.but
    split
    · rename_i q; subst q; exact e
    · rename_i q
      exact x.le b p (by rw [Fz.put_ne _ _ q]; exact e)
  · unfold Fz.but at e
    split at e
    · rename_i q; subst q; exact .inl e
    · rename_i q
      rcases x.fresh b p e with z | z
      · rw [Fz.put_ne _ _ q] at z; exact .inl z
      · exact .inr z
theorem Ev.borrow {x : Str} {ks : List Str} {ds : List D} {e : Expr} {d : D} (hx : ρ.lookup x = some (.od ks ds)) (hf : inFrame sc x = true) (hd : flat.flats ds = true) (hd' : flat d = true)
    (h : Ev W sc ((x, .d (.dict ks ds)) :: ρ) n e d) : Ev W sc ρ n e d := fun env A F s hs hA c => by
  obtain ⟨a, o, ho, hc, c'⟩ := c.borrow hx (hs ▸ hf) hd
  refine (h env A _ s hs hA c').then fun v F2 s2 x2 r2 => ⟨_, ext_back c.sub ho x2, ?_⟩
  exact Rd.but (x2.le _ _ (Fz.put_self ..)) hc hd' r2
theorem EvT.borrow {x : Str} {ks : List Str} {ds : List D} {e : Expr} {b : Bool} (hx : ρ.lookup x = some (.od ks ds)) (hf : inFrame sc x = true) (hd : flat.flats ds = true)
    (h : EvT W sc ((x, .d (.dict ks ds)) :: ρ) n e b) : EvT W sc ρ n e b := fun env A F s hs hA c => by
  obtain ⟨a, o, ho, hc, c'⟩ := c.borrow hx (hs ▸ hf) hd
  exact EvT.then (h env A _ s hs hA c') fun F2 s2 x2 => ⟨rfl, _, ext_back c.sub ho x2⟩
end Mine
end

/- L13 -/
section
open PySem
namespace Mine
variable {W : Wd} {sc cs : Scope} {ρ : Vs} {n : Nat} {B F0 F : Fz} {g : Array GenState} {os : OsState} {env : Env} {s : Shared}
/- things of the frame's own -/
def EvO (W : Wd) (sc : Scope) (ρ : Vs) (n : Nat) (e : Expr) (U : V) : Prop :=
  ∀ env A F s, env.scope = sc → AOk n A → Ctx W env ρ F s →
    wpAny (model W.prog W.w) A (eval e env) (fun v s' => ∃ F' a, Ext F F' s s' ∧ VOwn W F' s'.heap U v a ∧ s.heap.get? a = none ∧ F' a = none) (fun _ _ => False) s
theorem X1.assignOwn {x : Str} {pos' pos : Pos} {e : Expr} {U : V} {Rr : D → Prop} (he : EvO W sc ρ n e U) (hV : U.own = true) (hx : storable sc x = true) (hno : ∀ y V, y ≠ x → ρ.lookup y = some V → V.own = false)
    (hw : ∀ env, env.scope = sc → swapsWith e (some (.Name x pos')) pos.line env = pure false) : X1 W sc ρ n (.Assign [.Name x pos'] e pos) (fun z => z = (x, U) :: ρ) Rr :=
  fun env A B F0 g os F s hE hA st => wpAny_Assign_Name (wpAny_mono (he env A F s hE.scope hA st.ctx) (fun v s1 h1 => by
    obtain ⟨F1, a, x1, o, hn, hF⟩ := h1
    refine (st.ext x1).storeOwn (hE.scope ▸ hx) (hE.above x) hV o (st.base.none hn) hF (fun m => ?_) hno fun s' st' => ⟨_, F1, rfl, st'⟩
    obtain ⟨p, hp⟩ := st.fs.live m
    rw [hn] at hp; cases hp) fun _ _ y => y.elim) (hw env hE.scope)
theorem EvO.list {es : List Expr} {pos : Pos} {ds : List D} (h : Evs W sc ρ n es ds) (hl : ds.length ≤ 10000) : EvO W sc ρ n (.List es pos) (.ol ds) := fun env A F s hs hA c => by
  show wpAny _ A (do standAt pos; newList (← spliced (backTo pos (starEach es env)))) _ _ s
  refine wpAny_bind (wpAny_standAt (wpAny_bind (wpAny_mono (h env A F s pos hs hA c) (fun vs s1 hq => ?_) fun _ _ x => x)))
  obtain ⟨F1, x1, r1⟩ := hq
  refine wpAny_newObj_type ⟨F1, s1.heap.objs.size, x1.trans (Ext.grow x1.sub _ s1.toks fun _ _ e => Heap.get?_push_of_some _ e), ⟨vs, 0, rfl, Heap.get?_push_size _ rfl, r1⟩, none_of_old x1.old (get?_size _), x1.sub.none (get?_size _)⟩
    (by show vs.toArray.size ≤ sizeLine; rw [List.size_toArray, r1.length, sizeLine_eq]; omega)
theorem rds_of_items {a c : Int} {F : Fz} : ∀ (k : Nat) (i : Nat) (vs : List Value), vs.length = k → (∀ j v, vs[j]? = some v → ∃ t, v = Value.int (a + ((i + j : Nat) : Int) * c) t) →
    Rds W F ((List.range' i k).map fun (j : Nat) => D.int (a + (j : Int) * c)) vs
  | 0, _, [], _, _ => trivial
  | k + 1, i, v :: vs, hl, h => by
    rw [List.range'_succ, List.map_cons]
    refine ⟨?_, rds_of_items k (i + 1) vs (by simpa using hl) fun j u hu => ?_⟩
    · obtain ⟨t, e⟩ := h 0 v rfl
      simp only [Rd]; exact ⟨t, e⟩
    · obtain ⟨t, e⟩ := h (j + 1) u (by simpa using hu)
      exact ⟨t, by rw [e, show i + (j + 1) = i + 1 + j by omega]⟩
theorem EvO.listRange {func e : Expr} {pos : Pos} {a b c : Int} {k : Nat} (hf : Ev W sc ρ n func (.val (.type "list"))) (ha : Ev W sc ρ n e (.rng a b c)) (hsm : Builtin.Range.small a b c = true) (hk : Builtin.Range.rangeSize a b c = k) (hk' : k ≤ 10000)
    (hp : ∀ env, starEach [e] env = [(false, eval e env)])
    (he : ∀ env, eval (.Call func [e] [] pos) env = (do callWith pos (← eval func env) [] (backTo pos (starEach [e] env)) (backToKw pos (keywordEach [] env)))) :
    EvO W sc ρ n (.Call func [e] [] pos) (.ol ((List.range k).map fun (i : Nat) => D.int (a + (i : Int) * c))) := fun env A F s hs hA cx =>
  PyProof.Rows.Call_ ((hf env A F s hs hA cx).then fun v F1 s1 x1 r1 => by
    simp only [Rd] at r1
    subst r1
    have hp' : backTo pos (starEach [e] env) = [(false, eval e env)] := by rw [hp env]; rfl
    rw [hp']
    refine callWith_type1 ((ha env A F1 s1 hs hA (cx.ext x1)).then fun v F2 s2 x2 r2 => ?_)
    simp only [Rd] at r2
    obtain ⟨r, t, t', t'', rfl, ho⟩ := r2
    refine call_list_range hA.handled (x2.sub _ _ ho) hsm hk (by omega) fun h' tk acc' c' hkp hS hI => ?_
    refine ⟨F2, s2.heap.objs.size, (x1.trans x2).trans (Ext.grow x2.sub h' tk hkp), ⟨acc'.toList, c', rfl, by rw [hS], ?_⟩, none_of_old (x1.trans x2).old (get?_size _), x2.sub.none (get?_size _)⟩
    rw [List.range_eq_range']
    refine rds_of_items k 0 acc'.toList (by simpa using hI.1) fun j v hv => ?_
    obtain ⟨tt, rfl⟩ := hI.2 j v (by simpa using hv)
    exact ⟨tt, by simp⟩) (he env)
/-- a thing of the frame's own has turned -/
theorem St.setOwn {x : Str} {U1 U2 : V} {v : Value} {a : Addr} {h' : Heap} {tk : Nat} (st : St W B F0 g os env ρ F s) (hx : ρ.lookup x = some U1) (hV : U1.own = true) (hV' : U2.own = true)
    (l : Loads env s.heap x v) (hB : B a = none) (hF : F a = none) (hM : ¬ Mut env a) (hnc : ∀ y c, env.cells.lookup y = some c → c ≠ a) (hs : Heap.SameBut a s.heap h') (ho : VOwn W F h' U2 v a) :
    St W B F0 g os env ((x, U2) :: ρ) F { s with heap := h', toks := tk } := by
  have hL : env.locals ∉ [a] := fun m => hM (.inl (by simpa using (List.mem_singleton.mp m).symm))
  have hC : ∀ y c, env.cells.lookup y = some c → c ∉ [a] := fun y c e m => hnc y c e (List.mem_singleton.mp m)
  have keep : ∀ b o, b ∉ [a] → s.heap.get? b = some o → h'.get? b = some o := fun b o hb e => hs.extBut b o (fun q => hb (by simp [q])) e
  refine ⟨fun b o e => keep b o (fun m => by rw [List.mem_singleton.mp m, hF] at e; cases e) (st.sub b o e), st.gr, st.kind, st.glob, st.bui, st.fs.but keep hL hC,
    fun b o e => keep b o (fun m => by rw [List.mem_singleton.mp m, hB] at e; cases e) (st.base b o e), st.mb, st.mf, st.le, st.fresh, fun y d e k => ?_, fun y U e k => ?_, fun y z U U' e e' k k' => ?_, st.gens, st.os⟩
  · by_cases hy : y = x
    · subst hy; rw [lookup_cons_self] at e; cases e; cases hV'
    · rw [lookup_cons_ne hy] at e
      obtain ⟨u, lu, ru⟩ := st.imm y d e k
      exact ⟨u, lu.but keep hL hC, ru⟩
  · by_cases hy : y = x
    · subst hy; rw [lookup_cons_self] at e; cases e
      exact ⟨v, a, l.but keep hL hC, ho, hB, hF, hM⟩
    · rw [lookup_cons_ne hy] at e
      exact absurd (st.own1 y x U U1 e hx k hV) hy
  · have one : ∀ y U, List.lookup y ((x, U2) :: ρ) = some U → U.own = true → y = x := fun y U e k => by
      by_cases hy : y = x
      · exact hy
      · rw [lookup_cons_ne hy] at e; exact st.own1 y x U U1 e hx k hV
    rw [one y U e k, one z U' e' k']
theorem St.cells_ne {a : Addr} (st : St W B F0 g os env ρ F s) (hE : FE sc env) (hM : ¬ Mut env a) : ∀ y c, env.cells.lookup y = some c → c ≠ a := fun y c e q => hM (q ▸ .inr ⟨hE.above y c e, y, e⟩)
theorem Loads.unique {h : Heap} {x : Str} {v v' : Value} (l : Loads env h x v) (l' : Loads env h x v') : v = v' := by
  rcases l with ⟨k, m, hn, e⟩ | ⟨k, c, e, hc⟩ <;> rcases l' with ⟨k', m', hn', e'⟩ | ⟨k', c', e', hc'⟩
  · rw [Ns_unique hn hn' x, e'] at e; cases e; rfl
  · rw [k] at k'; rcases k' with z | z <;> cases z
  · rw [k'] at k; rcases k with z | z <;> cases z
  · rw [e] at e'; cases e'
    have := Cell_unique hc hc'; cases this; rfl
/-- x.append(e) -/
theorem X1.append {x : Str} {xp apos cpos pos : Pos} {e : Expr} {ds : List D} {d : D} {Rr : D → Prop} (hx : ρ.lookup x = some (.ol ds)) (he : Ev W sc ρ n e d) (hl : ds.length ≤ 100000) (hd : (x == ("__debug__" : Str)) = false) (hn : (x == ("__classdict__" : Str)) = false)
    (hbase : ∀ env, attributeBase (.Name x xp) (Str.ofString "append") env (eval (.Name x xp) env) = eval (.Name x xp) env) (hp : ∀ env, starEach [e] env = [(false, eval e env)]) (hline : (apos.endLine == cpos.line) = true) :
    X1 W sc ρ n (.Expr (.Call (.Attribute (.Name x xp) (Str.ofString "append") apos) [e] [] cpos) pos) (fun z => z = (x, .ol (ds ++ [d])) :: ρ) Rr := fun env A B F0 g os F s hE hA st => by
  obtain ⟨v, a, l, ⟨vs, m, rfl, ho, r⟩, hB, hF, hM⟩ := st.own x _ hx rfl
  refine wpAny_Expr ?_ (by unfold interactive; rw [st.kind]; rfl) rfl
  refine Call_method1 (hbase env) (hp env) hline (wpAny_Name (l.load st.kind ?_ hn) hd)
  refine ⟨"list", "list.append", PySem.F.plainAttrs_list, PySem.F.slot_list_append, PySem.F.type_list_append, ⟨_, ho, rfl⟩, fun b e => by cases e; exact ⟨_, ho, rfl⟩, ?_⟩
  refine Calls.callWith_builtin rfl (Calls.evalArgs_plain (Calls.spliced_cons ((he env A F s hE.scope hA st.ctx).then fun u F2 s2 x2 r2 => Calls.spliced_nil ?_)))
  have ho2 := x2.old _ _ ho
  have st2 := st.ext x2
  refine wpAny_list_append_plain (items := vs.toArray) ⟨m, ho2⟩ (fun h' hl' hs' => ?_) (by rw [List.size_toArray, r.length, sizeLine_eq]; omega)
  obtain ⟨m', hm'⟩ := hl'
  refine ⟨_, F2, rfl, st2.setOwn hx rfl rfl (l.keeps x2.old) hB (x2.stays ho hF) hM (st2.cells_ne hE hM) hs' ⟨vs ++ [u], m', rfl, ?_, (r.mono x2.le).append ⟨r2, trivial⟩⟩⟩
  rw [hm']; simp [lstObj]
theorem setItem_lst {A : Around} {E : Value → Shared → Prop} {a : Addr} {vs : List Value} {m : Nat} {k : Int} {t : Tok} {v : Value} {Q : Unit → Shared → Prop} (ho : s.heap.get? a = some (lstObj vs m)) (h0 : 0 ≤ k) (hfit : k < 2 ^ 63) (hn : k < (vs.length : Nat))
    (hQ : ∀ h' m', h'.get? a = some (lstObj (vs.set k.toNat v) m') → Heap.SameBut a s.heap h' → Q () { s with heap := h' }) : wpAny (model W.prog W.w) A (setItem (.ref a) (.int k t) v) Q E s := by
  have hl := lst_isList ho
  unfold setItem
  try with_reducible refine wpAny_holding ?_
  first | refine wpAny_bind (wpAny_pure ?_) | skip
  refine wpAny_bind (wpAny_sequenceKey hl.typeIs (by decide) ?_)
  refine wpAny_bind (wpAny_callSpecial?_slot (name := Str.ofString "__setitem__") hl.typeIs slot_list_setitem
    (wpAny_call_entry slot_list_setitem hl.typeIs entry_list_setitem ?_ (args_list_setitem _ _ _)))
  show wpAny _ _ (Builtin.List.listSubscript? (.int k t) >>= _) _ _ s
  refine wpAny_bind (wpAny_listSubscript_int (fitsIndex_of h0 hfit) ?_)
  clear hfit
  obtain ⟨j, rfl⟩ := Int.eq_ofNat_of_zero_le h0
  have hj : j < vs.length := by omega
  have hx' : vs.toArray[j]? = some vs[j] := by simp [hj]
  show wpAny _ _ ((seqItemAt a j >>= fun r => pure (r.map (j, ·))) >>= _) _ _ s
  refine wpAny_bind (wpAny_bind (wpAny_seqItemAt ho rfl (wpAny_pure ?_)))
  rw [hx']
  show wpAny _ _ (setSeqItemAt a j v >>= _) _ _ s
  have hfin : (s.heap.update a (Obj.mapSeq (·.setIfInBounds j v))).get? a = some (lstObj (vs.set j v) m) := by
    refine (Heap.get?_update_self _ ho rfl).trans ?_
    simp [Obj.mapSeq, lstObj]
  refine wpAny_bind (wpAny_setSeqItemAt ho rfl ?_)
  first
    | exact wpAny_bind (wpAny_pure (wpAny_pure ⟨.none, rfl, wpAny_pure (hQ _ m hfin (Heap.SameBut.update ..))⟩))
    | exact wpAny_pure ⟨.none, rfl, wpAny_pure (hQ _ m hfin (Heap.SameBut.update ..))⟩
theorem Rds.set {F : Fz} {d : D} {v : Value} (r : Rd W F d v) : ∀ {ds : List D} {vs : List Value} (j : Nat), Rds W F ds vs → Rds W F (ds.set j d) (vs.set j v)
  | [], [], _, _ => by simp [Rds]
  | [], _ :: _, _, h => h.elim
  | _ :: _, [], _, h => h.elim
  | _ :: _, _ :: _, 0, h => ⟨r, h.2⟩
  | _ :: _, _ :: _, j + 1, h => ⟨h.1, Rds.set r j h.2⟩
/-- x[i] = e -/
theorem X1.setItem {x : Str} {xp spos pos : Pos} {ie e : Expr} {ds : List D} {d : D} {j : Nat} {Rr : D → Prop} (hx : ρ.lookup x = some (.ol ds)) (he : Ev W sc ρ n e d) (hi : Ev W sc ρ n ie (.int (j : Int))) (hj : j < ds.length) (hl : ds.length ≤ 100000)
    (hd : (x == ("__debug__" : Str)) = false) (hn : (x == ("__classdict__" : Str)) = false) (hw : ∀ env, env.scope = sc → swapsWith e (some (.Subscript (.Name x xp) ie spos)) pos.line env = pure false) :
    X1 W sc ρ n (.Assign [.Subscript (.Name x xp) ie spos] e pos) (fun z => z = (x, .ol (ds.set j d)) :: ρ) Rr := fun env A B F0 g os F s hE hA st => by
  obtain ⟨v, a, l, ⟨vs, m, rfl, ho, r⟩, hB, hF, hM⟩ := st.own x _ hx rfl
  refine wpAny_Assign_Subscript ((he env A F s hE.scope hA st.ctx).then fun u F2 s2 x2 r2 => wpAny_Name ((l.keeps x2.old).load st.kind ?_ hn) hd) (hw env hE.scope)
  refine (hi env A F2 s2 hE.scope hA (st.ext x2).ctx).then fun w F3 s3 x3 r3 => ?_
  simp only [Rd] at r3
  obtain ⟨t, rfl⟩ := r3
  have x23 := x2.trans x3
  have st3 := st.ext x23
  refine setItem_lst (x23.old _ _ ho) (by omega) (by omega) (by rw [r.length]; omega) fun h' m' hm' hs' => ?_
  exact ⟨_, F3, rfl, st3.setOwn (tk := s3.toks) hx rfl rfl (l.keeps x23.old) hB (x23.stays ho hF) hM (st3.cells_ne hE hM) hs' ⟨vs.set j u, m', rfl, hm', Rds.set (r2.mono x3.le) j (r.mono x23.le)⟩⟩
theorem stored_set {ks : List Str} {k : Str} {v : Value} : ∀ {vs : List Value} {i : Nat}, (ks.zip vs).map (·.1) |>.Nodup → ks[i]? = some k → i < vs.length → stored (ks.zip vs) k v = ks.zip (vs.set i v) := by
  have go : ∀ (ks : List Str) (vs : List Value) (i : Nat), ((ks.zip vs).map (·.1)).Nodup → ks[i]? = some k → i < vs.length → (ks.zip vs).map (fun kv => if kv.1 = k then (kv.1, v) else kv) = ks.zip (vs.set i v) ∧ (ks.zip vs).any (fun kv => kv.1 = k) = true := by
    intro ks
    induction ks with
    | nil => intro vs i _ h; simp at h
    | cons y r ih =>
      intro vs i nd hk hi
      cases vs with
      | nil => simp at hi
      | cons u vs =>
        simp only [List.zip_cons_cons, List.map_cons, List.nodup_cons] at nd
        cases i with
        | zero =>
          simp at hk
          subst hk
          refine ⟨?_, by simp⟩
          simp only [List.zip_cons_cons, List.map_cons, if_true, List.set_cons_zero]
          congr 1
          exact map_store_of_not_mem _ _ _ nd.1
        | succ i =>
          simp only [List.getElem?_cons_succ] at hk
          obtain ⟨h1, h2⟩ := ih vs i nd.2 hk (by simpa using hi)
          have hm : k ∈ (r.zip vs).map (·.1) := by
            simp only [List.any_eq_true, decide_eq_true_eq] at h2
            obtain ⟨p, hp, e⟩ := h2
            exact List.mem_map.mpr ⟨p, hp, e⟩
          have hne : y ≠ k := fun e => nd.1 (e ▸ hm)
          refine ⟨?_, by simp only [List.zip_cons_cons, List.any_cons, h2, Bool.or_true]⟩
          simp only [List.zip_cons_cons, List.map_cons, if_neg hne, List.set_cons_succ, h1]
  intro vs i nd hk hi
  obtain ⟨h1, h2⟩ := go ks vs i nd hk hi
  unfold stored
  rw [if_pos h2, h1]
theorem stored_new {ks : List Str} {vs : List Value} {k : Str} {v : Value} (hl : ks.length = vs.length) (hk : k ∉ ks) : stored (ks.zip vs) k v = (ks ++ [k]).zip (vs ++ [v]) := by
  unfold stored
  rw [if_neg, List.zip_append hl]
  · rfl
  · simp only [List.any_eq_true, decide_eq_true_eq, not_exists, not_and]
    intro p hp e
    obtain ⟨y, u⟩ := p
    exact hk (e ▸ (List.of_mem_zip hp).1)
/-- x[k] = e, a dict -/
theorem X1.setDict {x : Str} {xp spos pos : Pos} {ie e : Expr} {ks ks' : List Str} {ds ds' : List D} {d : D} {k : Str} {Rr : D → Prop} (hx : ρ.lookup x = some (.od ks ds)) (he : Ev W sc ρ n e d) (hi : Ev W sc ρ n ie (.str k))
    (hlen : ks.length = ds.length) (hl : ks.length ≤ 1000)
    (hk : (∃ i, ks[i]? = some k ∧ ks' = ks ∧ ds' = ds.set i d) ∨ (k ∉ ks ∧ ks' = ks ++ [k] ∧ ds' = ds ++ [d]))
    (hd : (x == ("__debug__" : Str)) = false) (hn : (x == ("__classdict__" : Str)) = false) (hw : ∀ env, env.scope = sc → swapsWith e (some (.Subscript (.Name x xp) ie spos)) pos.line env = pure false) :
    X1 W sc ρ n (.Assign [.Subscript (.Name x xp) ie spos] e pos) (fun z => z = (x, .od ks' ds') :: ρ) Rr := fun env A B F0 g os F s hE hA st => by
  obtain ⟨v, a, l, ⟨o, vs, rfl, ho, m, r⟩, hB, hF, hM⟩ := st.own x _ hx rfl
  refine wpAny_Assign_Subscript ((he env A F s hE.scope hA st.ctx).then fun u F2 s2 x2 r2 => wpAny_Name ((l.keeps x2.old).load st.kind ?_ hn) hd) (hw env hE.scope)
  refine (hi env A F2 s2 hE.scope hA (st.ext x2).ctx).then fun w F3 s3 x3 r3 => ?_
  simp only [Rd] at r3
  obtain ⟨t, rfl⟩ := r3
  have x23 := x2.trans x3
  have st3 := st.ext x23
  have hvl := r.length
  refine wpAny_setItem_pairs (strKind_is W.prog W.w k t) (dict_of (x23.old _ _ ho) m) (fun h' hm' hs' => ?_) (by rw [List.length_zip, sizeLine_eq]; omega)
  rcases hk with ⟨i, hi, rfl, rfl⟩ | ⟨hk, rfl, rfl⟩
  · have hil : i < ks'.length := (List.getElem?_eq_some_iff.mp hi).1
    rw [stored_set (map_nodup m) hi (by omega)] at hm'
    obtain ⟨o', ho', m'⟩ := of_dict hm'
    exact ⟨_, F3, rfl, st3.setOwn hx rfl rfl (l.keeps x23.old) hB (x23.stays ho hF) hM (st3.cells_ne hE hM) hs' ⟨o', vs.set i u, rfl, ho', m', Rds.set (r2.mono x3.le) i (r.mono x23.le)⟩⟩
  · rw [stored_new (by omega) hk] at hm'
    obtain ⟨o', ho', m'⟩ := of_dict hm'
    exact ⟨_, F3, rfl, st3.setOwn hx rfl rfl (l.keeps x23.old) hB (x23.stays ho hF) hM (st3.cells_ne hE hM) hs' ⟨o', vs ++ [u], rfl, ho', m', (r.mono x23.le).append ⟨r2.mono x3.le, trivial⟩⟩⟩
/- reading -/
theorem Ev.ownItem {x : Str} {xp pos : Pos} {ie : Expr} {ds : List D} {d : D} {j : Nat} (hx : ρ.lookup x = some (.ol ds)) (hf : inFrame sc x = true) (hi : Ev W sc ρ n ie (.int (j : Int))) (hj : ds[j]? = some d) (hj2 : j < 100000) (hp : PlainIdx ie)
    (hd : (x == ("__debug__" : Str)) = false) (hn : (x == ("__classdict__" : Str)) = false) : Ev W sc ρ n (.Subscript (.Name x xp) ie pos) d := fun env A F s hs hA c => by
  obtain ⟨v, l, a, vs, m, rfl, ho, r⟩ := c.vars x _ hx (hs ▸ hf)
  refine PyProof.Rows.Subscript_ (wpAny_Name (l.load c.kind ?_ hn) hd)
  refine (hi env A F s hs hA c).then fun w F1 s1 x1 r1 => ?_
  simp only [Rd] at r1
  obtain ⟨t, rfl⟩ := r1
  obtain ⟨u, hu, ru⟩ := r.get hj
  have hl := lst_isList (x1.old _ _ ho)
  refine PyProof.Rows.tail_any hl.typeIs slot_list_getitem.lookup ?_ (hp _ _)
  exact wpAny_getItem_list hl (by omega) (by omega) (by simpa using hu) ⟨F1, x1, ru.mono x1.le⟩
theorem Ev.ownLen {x : Str} {xp fp pos : Pos} {ds : List D} (hx : ρ.lookup x = some (.ol ds)) (hf : inFrame sc x = true) (hlen : Ev W sc ρ n (.Name (Str.ofString "len") fp) (.val (.builtin "len"))) (hl : ds.length ≤ 100000)
    (hd : (x == ("__debug__" : Str)) = false) (hn : (x == ("__classdict__" : Str)) = false) : Ev W sc ρ n (.Call (.Name (Str.ofString "len") fp) [.Name x xp] [] pos) (.int ds.length) := fun env A F s hs hA c =>
  PyProof.Rows.Call_ ((hlen env A F s hs hA c).then fun v F1 s1 x1 r1 => by
    simp only [Rd] at r1
    subst r1
    obtain ⟨v, l, a, vs, m, rfl, ho, r⟩ := (c.ext x1).vars x _ hx (hs ▸ hf)
    refine callWith_builtin1 (wpAny_Name (l.load c.kind ?_ hn) hd)
    have := r.length
    refine PyProof.Rows.len_list (lst_isList ho) (by simp; omega) ⟨F1, x1.trans (Ext.toks x1.sub _), ?_⟩
    simp only [Rd]; exact ⟨s1.toks + 1, by simp [this]⟩)
/-- return x, a list of the frame's own -/
theorem X1.retOwn {x : Str} {xp pos : Pos} {ds : List D} {Rn : Vs → Prop} {Rr : D → Prop} (hx : ρ.lookup x = some (.ol ds)) (hr : Rr (.list ds)) (hd : (x == ("__debug__" : Str)) = false) (hn : (x == ("__classdict__" : Str)) = false) :
    X1 W sc ρ n (.Return (some (.Name x xp)) pos) Rn Rr := fun env A B F0 g os F s hE hA st => by
  obtain ⟨v, a, l, ⟨vs, m, rfl, ho, r⟩, hB, hF, hM⟩ := st.own x _ hx rfl
  refine wpAny_Return_some (wpAny_Name (l.load st.kind ?_ hn) hd)
  refine ⟨F.put a (lstObj vs m), _, hr, ⟨st.sub.put ho, st.base, st.le.trans (Fz.le_put _ hF), fun b o e => ?_, st.gens, st.os⟩, ?_⟩
  · by_cases q : b = a
    · subst q; exact .inr hB
    · rw [Fz.put_ne _ _ q] at e; exact st.fresh b o e
  · simp only [Rd]; exact ⟨a, vs, m, rfl, Fz.put_self .., r.mono (Fz.le_put _ hF)⟩
theorem X1.retOwnD {x : Str} {xp pos : Pos} {ks : List Str} {ds : List D} {Rn : Vs → Prop} {Rr : D → Prop} (hx : ρ.lookup x = some (.od ks ds)) (hr : Rr (.dict ks ds)) (hd : (x == ("__debug__" : Str)) = false) (hn : (x == ("__classdict__" : Str)) = false) :
    X1 W sc ρ n (.Return (some (.Name x xp)) pos) Rn Rr := fun env A B F0 g os F s hE hA st => by
  obtain ⟨v, a, l, ⟨o, vs, rfl, ho, m, r⟩, hB, hF, hM⟩ := st.own x _ hx rfl
  refine wpAny_Return_some (wpAny_Name (l.load st.kind ?_ hn) hd)
  refine ⟨F.put a o, _, hr, ⟨st.sub.put ho, st.base, st.le.trans (Fz.le_put _ hF), fun b o e => ?_, st.gens, st.os⟩, ?_⟩
  · by_cases q : b = a
    · subst q; exact .inr hB
    · rw [Fz.put_ne _ _ q] at e; exact st.fresh b o e
  · simp only [Rd]; exact ⟨a, o, vs, rfl, Fz.put_self .., m, r.mono (Fz.le_put _ hF)⟩
end Mine
end

/- Hd -/
section
open PySem PySem.W PyProof.Rows
namespace Mine
set_option maxRecDepth 100000
set_option maxHeartbeats 8000000
open_top hd for PySem.Challenge.rw_re0129_01
end Mine
end

/- L14 -/
section
open PySem PySem.W
set_option maxRecDepth 100000
namespace Mine
variable {W : Wd} {sc : Scope} {ρ : Vs} {n : Nat}
def par0 : Params := { strHash := fun _ => 0, shareClass := fun _ => 0, mergeTok := fun t => t, idOf := fun a => a, idOfShared := fun _ _ => 0, followText := fun _ => false, idOfImm := fun _ => 0 }
/-- a def of the program -/
noncomputable def fdOf (a : Addr) : FuncData := match (hd.heap_39 par0).lookup a with
  | some { data := .func f, .. } => f
  | _ => default
noncomputable def bodyOf (a : Addr) : List Stmt := match (fdOf a).body with
  | .stmts b => b
  | _ => []
noncomputable def fieldsOf (a : Addr) : Array Value := match (hd.heap_39 par0).lookup a with
  | some { data := .fields f, .. } => f
  | _ => #[]
noncomputable def tokOf (a : Addr) : Tok := match ((fieldsOf a)[1]? : Option Value) with
  | some (Value.str _ t) => t
  | _ => 0
noncomputable def scOf (a : Addr) : Scope := (fdOf a).scope
def gtab : List (Str × Value) := [(Str.ofString "ENDMARKER", .int 0 291), (Str.ofString "NT_OFFSET", .int 256 293), (Str.ofString "ISTERMINAL", .ref 45), (Str.ofString "ISEOF", .ref 52), (Str.ofString "_MAX_STRING_SIZE", .int 40 311),
  (Str.ofString "_MOVE_COST", .int 2 313), (Str.ofString "_CASE_COST", .int 1 315), (Str.ofString "_substitution_cost", .ref 59), (Str.ofString "_levenshtein_distance", .ref 66), (Str.ofString "_name_disallowed_re", .ref 76), (Str.ofString "_value_disallowed_re", .ref 81),
  (Str.ofString "Headers", .ref 210), (Str.ofString "_law_grammar", .ref 221), (Str.ofString "_law_codes", .ref 226), (Str.ofString "_law_search", .ref 231), (Str.ofString "_law_letter", .ref 236), (Str.ofString "_law_chain", .ref 241), (Str.ofString "_law_tables", .ref 246)]
structure Gw (W : Wd) : Prop where
  gd : Gd W
  k : InK hd.heap_39 W.w W.h1
  gm : ∀ x v, gtab.lookup x = some v → W.mg x = some v
  nm : ∀ x, x ∈ ([Str.ofString "len", Str.ofString "min", Str.ofString "range", Str.ofString "list", Str.ofString "ord", Str.ofString "chr", Str.ofString "enumerate", Str.ofString "type", Str.ofString "str"] : List Str) → W.mg x = none
  bl : W.mb (Str.ofString "len") = some (.builtin "len")
  bmi : W.mb (Str.ofString "min") = some (.builtin "min")
  bo : W.mb (Str.ofString "ord") = some (.builtin "ord")
  bc : W.mb (Str.ofString "chr") = some (.builtin "chr")
  br : W.mb (Str.ofString "range") = some (.type "range")
  bli : W.mb (Str.ofString "list") = some (.type "list")
  be : W.mb (Str.ofString "enumerate") = some (.type "enumerate")
  bt : W.mb (Str.ofString "type") = some (.type "type")
  bs : W.mb (Str.ofString "str") = some (.type "str")
theorem Gw.at (G : Gw W) {a : Addr} {o : Obj} (h : (hd.heap_39 W.w.params).lookup a = some o) : W.h1.get? a = some o := G.k a o h
noncomputable abbrev Gw.obj (a : Addr) : Obj := { cls := .type "function", data := .func (fdOf a) }
def inArgs (sc : Scope) (x : Str) : Bool := match sc.names.lookup x with
  | some .local | some .cell => true
  | _ => false
def Kd (W : Wd) (a : Addr) (names : List Str) : Prop := ∀ vals : List Value, vals.length = names.length → bindArgs (fdOf a) ⟨vals, []⟩ = pure (names.zip vals)
structure DefOk (W : Wd) (a c : Addr) (names : List Str) : Prop where
  look : (hd.heap_39 W.w.params).lookup a = some (Gw.obj a)
  code : (hd.heap_39 W.w.params).lookup c = some { cls := .type "code", data := .fields (fieldsOf c) }
  qual : (fieldsOf c)[1]? = some (.str (fdOf a).qualname (tokOf c))
  codeIs : (fdOf a).code = .ref c
  body : (fdOf a).body = .stmts (bodyOf a)
  clo : (fdOf a).closure = []
  bind : Kd W a names
  nd : names.Nodup
  fr : names.all (inArgs (scOf a)) = true
  kind : (scOf a).kind = .function
  glob : (fdOf a).globals = mainGlobals
  bui : (fdOf a).builtins = builtinsNs
  co : (scOf a).isCoroutine = false
  gen : (scOf a).isGenerator = false
theorem Cl.of {a c : Addr} {names : List Str} {ds : List D} {d : D} (G : Gw W) (k : DefOk W a c names) (hn : names.length = ds.length) (hX : X W (scOf a) (names.zip (ds.map V.d)) n (bodyOf a) (fun _ => False) (fun d' => d' = d)) : Cl W (n + 1) (.ref a) ds d := by
  refine Cl.fn G.gd (G.at k.look) rfl k.body ⟨c, _, _, _, k.codeIs, G.at k.code, rfl, k.qual⟩ k.clo hn (fun vals hv => k.bind vals (hv.trans hn.symm)) k.nd (fun x hx m => cellsFrom_some _ _ _ (.inl hx)) (fun x hx => ?_) k.kind k.glob k.bui k.co k.gen hX
  have := List.all_eq_true.mp k.fr x hx
  unfold inArgs scOf at this
  split at this
  · exact .inl ‹_›
  · exact .inr ‹_›
  · cases this
/- calls by name -/
theorem Ev.fn {x : Str} {fp pos : Pos} {e : Expr} {es : List Expr} {f : Addr} {ds : List D} {d : D} (G : Gw W) (hc : Cl W n (.ref f) ds d) (ha : Evs W sc ρ n (e :: es) ds) (hx : gtab.lookup x = some (.ref f)) (hs : sc.names.lookup x = some .globalImplicit) (hdb : (x == ("__debug__" : Str)) = false)
    (ho : (hd.heap_39 W.w.params).lookup f = some (Gw.obj f)) (hp : ∀ env, starEach (e :: es) env = (false, eval e env) :: starEach es env)
    (he : ∀ env, eval (.Call (.Name x fp) (e :: es) [] pos) env = (do callWith pos (← eval (.Name x fp) env) [] (backTo pos (starEach (e :: es) env)) (backToKw pos (keywordEach [] env)))) :
    Ev W sc ρ n (.Call (.Name x fp) (e :: es) [] pos) d :=
  Ev.callF (Ev.glob G.gd (G.gm _ _ hx) (fun F => by simp only [Rd]) hs hdb) ha (G.at ho) rfl hc hp he
theorem Ev.bf {x : Str} {fp pos : Pos} {e : Expr} {es : List Expr} {id : String} {ds : List D} {d : D} (G : Gw W) (hb : W.mb x = some (.builtin id)) (hc : Cl W n (.builtin id) ds d) (ha : Evs W sc ρ n (e :: es) ds) (hm : W.mg x = none) (hs : sc.names.lookup x = some .globalImplicit) (hdb : (x == ("__debug__" : Str)) = false)
    (hp : ∀ env, starEach (e :: es) env = (false, eval e env) :: starEach es env) (hq : ∀ env, (starEach es env).any (·.1) = false)
    (he : ∀ env, eval (.Call (.Name x fp) (e :: es) [] pos) env = (do callWith pos (← eval (.Name x fp) env) [] (backTo pos (starEach (e :: es) env)) (backToKw pos (keywordEach [] env)))) :
    Ev W sc ρ n (.Call (.Name x fp) (e :: es) [] pos) d :=
  Ev.callB (Ev.bui G.gd hm hb hs hdb) ha hc hp hq he
theorem Ev.bt {x : Str} {fp pos : Pos} {e : Expr} {es : List Expr} {id : String} {ds : List D} {d : D} (G : Gw W) (hb : W.mb x = some (.type id)) (hc : Cl W n (.type id) ds d) (ha : Evs W sc ρ n (e :: es) ds) (hm : W.mg x = none) (hs : sc.names.lookup x = some .globalImplicit) (hdb : (x == ("__debug__" : Str)) = false)
    (hp : ∀ env, starEach (e :: es) env = (false, eval e env) :: starEach es env) (hq : ∀ env, (starEach es env).any (·.1) = false)
    (he : ∀ env, eval (.Call (.Name x fp) (e :: es) [] pos) env = (do callWith pos (← eval (.Name x fp) env) [] (backTo pos (starEach (e :: es) env)) (backToKw pos (keywordEach [] env)))) :
    Ev W sc ρ n (.Call (.Name x fp) (e :: es) [] pos) d :=
  Ev.callT (Ev.bui G.gd hm hb hs hdb) ha hc hp hq he
theorem Ev.strL {x : Str} {k : Nat} {pos : Pos} (l : List Nat) (h : x = sOf l) : Ev W sc ρ n (.Constant (.str x) k pos) (.str (sOf l)) := h ▸ Ev.strC x k pos
theorem X.last {a : Stmt} {Rn : Vs → Prop} {Rr : D → Prop} (h : X1 W sc ρ n a Rn Rr) : X W sc ρ n [a] Rn Rr := X.cons h fun _ e => X.nil e
theorem X.ret {a : Stmt} {r : List Stmt} {Rn : Vs → Prop} {Rr : D → Prop} (h : X1 W sc ρ n a (fun _ => False) Rr) : X W sc ρ n (a :: r) Rn Rr := X.cons h fun _ e => e.elim
/- letters -/
def Ltr (c : Nat) : Prop := c = 97 ∨ c = 65 ∨ c = 98 ∨ c = 66
def Sym (c : Nat) : Prop := Ltr c ∨ c = 83 ∨ c = 84 ∨ c = 115 ∨ c = 116
def lowc (c : Nat) : Nat := if c ≤ 90 then c + 32 else c
def upc (c : Nat) : Nat := if c ≤ 90 then c else c - 32
theorem low_txt {c : Nat} (h : Sym c) : Txt.lower (sOf [c]) = sOf [lowc c] := by
  rcases h with (h | h | h | h) | h | h | h | h <;> subst h <;> decide +kernel
theorem up_txt {c : Nat} (h : Sym c) : Txt.upper (sOf [c]) = sOf [upc c] := by
  rcases h with (h | h | h | h) | h | h | h | h <;> subst h <;> decide +kernel
theorem sOf_inj {a b : List Nat} (h : sOf a = sOf b) : a = b := by
  unfold sOf at h
  have := congrArg Str.cps h
  simpa using this
theorem sOf_beq (a b : List Nat) : (sOf a == sOf b) = (a == b) := by
  by_cases h : a = b
  · subst h; simp
  · have : sOf a ≠ sOf b := fun e => h (sOf_inj e)
    rw [beq_eq_false_iff_ne.mpr this, beq_eq_false_iff_ne.mpr h]
end Mine
end

/- L15 -/
section
open PySem PySem.W
set_option maxRecDepth 100000
namespace Mine
variable {W : Wd} {sc : Scope} {ρ : Vs} {n : Nat}
def gtok (i : Int) : Tok := if i = 0 then 291 else if i = 256 then 293 else if i = 40 then 311 else if i = 2 then 313 else 315
theorem gt_move : gtab.lookup (Str.ofString "_MOVE_COST") = some (.int 2 (gtok 2)) := by decide +kernel
theorem gt_case : gtab.lookup (Str.ofString "_CASE_COST") = some (.int 1 (gtok 1)) := by decide +kernel
theorem gt_max : gtab.lookup (Str.ofString "_MAX_STRING_SIZE") = some (.int 40 (gtok 40)) := by decide +kernel
theorem gt_end : gtab.lookup (Str.ofString "ENDMARKER") = some (.int 0 (gtok 0)) := by decide +kernel
theorem gt_nt : gtab.lookup (Str.ofString "NT_OFFSET") = some (.int 256 (gtok 256)) := by decide +kernel
theorem Ev.gI {x : Str} {pos : Pos} {i : Int} {t : Tok} (G : Gw W) (hx : gtab.lookup x = some (.int i t)) (hs : sc.names.lookup x = some .globalImplicit := by walk_at "m.sd") (hdb : (x == ("__debug__" : Str)) = false := by walk_at "m.sd") : Ev W sc ρ n (.Name x pos) (.int i) :=
  Ev.glob G.gd (G.gm _ _ hx) (fun F => by simp only [Rd]; exact ⟨_, rfl⟩) hs hdb
theorem Ev.gMove {pos : Pos} (G : Gw W) (hs : sc.names.lookup (Str.ofString "_MOVE_COST") = some .globalImplicit) : Ev W sc ρ n (.Name (Str.ofString "_MOVE_COST") pos) (.int 2) := Ev.gI G gt_move hs (by decide +kernel)
theorem Ev.gCase {pos : Pos} (G : Gw W) (hs : sc.names.lookup (Str.ofString "_CASE_COST") = some .globalImplicit) : Ev W sc ρ n (.Name (Str.ofString "_CASE_COST") pos) (.int 1) := Ev.gI G gt_case hs (by decide +kernel)
theorem Ev.gMax {pos : Pos} (G : Gw W) (hs : sc.names.lookup (Str.ofString "_MAX_STRING_SIZE") = some .globalImplicit) : Ev W sc ρ n (.Name (Str.ofString "_MAX_STRING_SIZE") pos) (.int 40) := Ev.gI G gt_max hs (by decide +kernel)
theorem Ev.gEnd {pos : Pos} (G : Gw W) (hs : sc.names.lookup (Str.ofString "ENDMARKER") = some .globalImplicit) : Ev W sc ρ n (.Name (Str.ofString "ENDMARKER") pos) (.int 0) := Ev.gI G gt_end hs (by decide +kernel)
theorem Ev.gNt {pos : Pos} (G : Gw W) (hs : sc.names.lookup (Str.ofString "NT_OFFSET") = some .globalImplicit) : Ev W sc ρ n (.Name (Str.ofString "NT_OFFSET") pos) (.int 256) := Ev.gI G gt_nt hs (by decide +kernel)
local macro_rules | `(tactic| walk_at "m.dk1") => `(tactic| exact ⟨by kernel_rfl, by kernel_rfl, by kernel_rfl, by kernel_rfl, by kernel_rfl, by kernel_rfl, fun vals h => by (match vals, h with | [v], _ => kernel_rfl), by decide +kernel, by kernel_rfl, by kernel_rfl, by kernel_rfl, by kernel_rfl, by kernel_rfl, by kernel_rfl⟩)
local macro_rules | `(tactic| walk_at "m.dk2") => `(tactic| exact ⟨by kernel_rfl, by kernel_rfl, by kernel_rfl, by kernel_rfl, by kernel_rfl, by kernel_rfl, fun vals h => by (match vals, h with | [u, v], _ => kernel_rfl), by decide +kernel, by kernel_rfl, by kernel_rfl, by kernel_rfl, by kernel_rfl, by kernel_rfl, by kernel_rfl⟩)
local macro_rules | `(tactic| walk_at "m.dk3") => `(tactic| exact ⟨by kernel_rfl, by kernel_rfl, by kernel_rfl, by kernel_rfl, by kernel_rfl, by kernel_rfl, fun vals h => by (match vals, h with | [u, v, w], _ => kernel_rfl), by decide +kernel, by kernel_rfl, by kernel_rfl, by kernel_rfl, by kernel_rfl, by kernel_rfl, by kernel_rfl⟩)
local macro_rules | `(tactic| walk_at "m.lk") => `(tactic| first | (with_reducible exact lookup_cons_self) | ((with_reducible refine (lookup_cons_ne ?_).trans ?_); (focus decide +kernel); (focus walk_at "m.lk")))
local macro_rules | `(tactic| walk_at "m.nm") => `(tactic| ((with_reducible refine Ev.name ?_ ?_ ?_ ?_); (focus walk_at "m.lk"); (focus kernel_rfl); (focus kernel_rfl); (focus kernel_rfl)))
local macro_rules | `(tactic| walk_at "m.gi") => `(tactic| first
  | ((with_reducible refine Ev.gMove ‹_› ?_); kernel_rfl)
  | ((with_reducible refine Ev.gCase ‹_› ?_); kernel_rfl)
  | ((with_reducible refine Ev.gMax ‹_› ?_); kernel_rfl)
  | ((with_reducible refine Ev.gEnd ‹_› ?_); kernel_rfl)
  | ((with_reducible refine Ev.gNt ‹_› ?_); kernel_rfl))
local macro_rules | `(tactic| walk_at "m.sd") => `(tactic| first | exact Gw.nm ‹_› _ (by decide +kernel) | (intros; kernel_rfl))
local macro_rules | `(tactic| walk_at "m.om") => `(tactic| first | assumption | omega | (simp; done) | (simp; omega))
local macro_rules | `(tactic| walk_at "m.ev") => `(tactic| first
  | with_reducible exact Ev.int _ _ _
  | with_reducible exact Ev.noneC _ _
  | with_reducible exact Ev.boolC _ _ _
  | ((with_reducible refine Ev.strL _ ?_); decide +kernel)
  | walk_at "m.nm"
  | walk_at "m.gi"
  | ((with_reducible apply Ev.iadd); (focus walk_at "m.ev"); (focus walk_at "m.ev"))
  | ((with_reducible apply Ev.isub); (focus walk_at "m.ev"); (focus walk_at "m.ev"))
  | ((with_reducible apply Ev.imul); (focus walk_at "m.ev"); (focus walk_at "m.ev"); (focus walk_at "m.om"); (focus walk_at "m.om"))
  | ((with_reducible refine Ev.lenS ‹_› ?_ ?_); (focus walk_at "m.ev"); (focus walk_at "m.om"))
  | ((with_reducible refine Ev.lenL ‹_› ?_ ?_); (focus walk_at "m.ev"); (focus walk_at "m.om"))
  | ((with_reducible refine Ev.min2 ‹_› ?_ ?_); (focus walk_at "m.ev"); (focus walk_at "m.ev")))
local macro_rules | `(tactic| walk_at "m.es") => `(tactic| first
  | with_reducible exact Evs.nil
  | ((with_reducible refine Evs.cons ?_ ?_ ?_); (focus walk_at "m.ev"); (focus walk_at "m.es"); (focus (intros; kernel_rfl))))
local macro_rules | `(tactic| walk_at "m.sb") => `(tactic| repeat (first | exact SubE.nil | ((with_reducible refine SubE.cons ?_ ?_); (focus walk_at "m.lk"))))
theorem dk_iseof : DefOk W 52 51 [Str.ofString "x"] := by walk_at "m.dk1"
theorem dk_ist : DefOk W 45 44 [Str.ofString "x"] := by walk_at "m.dk1"
theorem dk_sub : DefOk W 59 58 [Str.ofString "ch_a", Str.ofString "ch_b"] := by walk_at "m.dk2"
theorem cl_iseof (G : Gw W) (x : Int) : Cl W 1 (.ref 52) [.int x] (.val (.bool (x == 0))) := by
  refine Cl.of G dk_iseof rfl ?_
  conv => arg 5; whnf
  show X W _ [(Str.ofString "x", .d (.int x))] _ _ _ _
  refine X.ret (X1.ret (Ev.cmp (a := .int x) (b := .int 0) ?_ ?_ (op_eqI _ _) ?_) rfl)
  · walk_at "m.ev"
  · walk_at "m.gi"
  · kernel_rfl
theorem cl_ist (G : Gw W) (x : Int) : Cl W 1 (.ref 45) [.int x] (.val (.bool (decide (x < 256)))) := by
  refine Cl.of G dk_ist rfl ?_
  conv => arg 5; whnf
  show X W _ [(Str.ofString "x", .d (.int x))] _ _ _ _
  refine X.ret (X1.ret (Ev.cmp (a := .int x) (b := .int 256) ?_ ?_ (op_ltI _ _) ?_) rfl)
  · walk_at "m.ev"
  · walk_at "m.gi"
  · kernel_rfl
def subc (a b : Nat) : Int := if a = b then 0 else if lowc a = lowc b then 1 else 2
theorem Ev.lower {o : Expr} {apos pos : Pos} {c : Nat} (hc : Sym c) (ho : Ev W sc ρ n o (.str (sOf [c]))) (hbase : ∀ env, attributeBase o (Str.ofString "lower") env (eval o env) = eval o env) (hline : (apos.endLine == pos.line) = true) :
    Ev W sc ρ n (.Call (.Attribute o (Str.ofString "lower") apos) [] [] pos) (.str (sOf [lowc c])) :=
  Ev.strM0 ho PySem.F.slot_str_lower PySem.F.type_str_lower (low_txt hc ▸ cl_lower [c] (by simp)) hbase hline
theorem Ev.upper {o : Expr} {apos pos : Pos} {c : Nat} (hc : Sym c) (ho : Ev W sc ρ n o (.str (sOf [c]))) (hbase : ∀ env, attributeBase o (Str.ofString "upper") env (eval o env) = eval o env) (hline : (apos.endLine == pos.line) = true) :
    Ev W sc ρ n (.Call (.Attribute o (Str.ofString "upper") apos) [] [] pos) (.str (sOf [upc c])) :=
  Ev.strM0 ho PySem.F.slot_str_upper PySem.F.type_str_upper (up_txt hc ▸ cl_upper [c] (by simp)) hbase hline
theorem cl_sub (G : Gw W) (a b : Nat) (ha : Sym a) (hb : Sym b) : Cl W 1 (.ref 59) [.str (sOf [a]), .str (sOf [b])] (.int (subc a b)) := by
  refine Cl.of G dk_sub rfl ?_
  conv => arg 5; whnf
  show X W _ [(Str.ofString "ch_a", .d (.str (sOf [a]))), (Str.ofString "ch_b", .d (.str (sOf [b])))] _ _ _ _
  refine X.cons (Rm := fun z => a ≠ b ∧ z = [(Str.ofString "ch_a", .d (.str (sOf [a]))), (Str.ofString "ch_b", .d (.str (sOf [b])))]) (X1.ite (EvT.cmp (a := .str (sOf [a])) (b := .str (sOf [b])) ?_ ?_ (op_eqS _ _) ?_) (fun h => X.ret (X1.ret (Ev.int _ _ _) ?_)) fun h => X.nil ⟨?_, rfl⟩) fun ρ' e => ?_
  · walk_at "m.ev"
  · walk_at "m.ev"
  · kernel_rfl
  · rw [sOf_beq] at h
    have : a = b := by simpa using h
    simp [subc, this]
  · rw [sOf_beq] at h
    simpa using h
  obtain ⟨hab, rfl⟩ := e
  refine X.cons (Rm := fun z => lowc a ≠ lowc b ∧ z = [(Str.ofString "ch_a", .d (.str (sOf [a]))), (Str.ofString "ch_b", .d (.str (sOf [b])))]) (X1.ite (EvT.cmp (a := .str (sOf [lowc a])) (b := .str (sOf [lowc b])) (Ev.lower ha ?_ ?_ ?_) (Ev.lower hb ?_ ?_ ?_) (op_eqS _ _) ?_) (fun h => X.ret (X1.ret (d := .int 1) ?_ ?_)) fun h => X.nil ⟨?_, rfl⟩) fun ρ' e => ?_
  · walk_at "m.ev"
  · intros; rfl
  · kernel_rfl
  · walk_at "m.ev"
  · intros; rfl
  · kernel_rfl
  · kernel_rfl
  · walk_at "m.gi"
  · rw [sOf_beq] at h
    have : lowc a = lowc b := by simpa using h
    simp [subc, this, hab]
  · rw [sOf_beq] at h
    simpa using h
  obtain ⟨hl, rfl⟩ := e
  refine X.ret (X1.ret (d := .int 2) ?_ ?_)
  · walk_at "m.gi"
  · simp [subc, hab, hl]
end Mine
end

/- M1 -/
section
open PySem
namespace Mine
/- the plain law: what it costs to make one text out of another -/
theorem subc_nonneg (a b : Nat) : 0 ≤ subc a b := by unfold subc; split <;> (try split) <;> omega
theorem subc_le (a b : Nat) : subc a b ≤ 2 := by unfold subc; split <;> (try split) <;> omega
theorem subc_self (a : Nat) : subc a a = 0 := by simp [subc]
theorem subc_comm (a b : Nat) : subc a b = subc b a := by
  unfold subc
  by_cases h : a = b
  · simp [h]
  · by_cases h' : lowc a = lowc b
    · simp [h, h', Ne.symm h]
    · simp [h, h', Ne.symm h, Ne.symm h']
/-- one way to make b out of a, and its cost -/
inductive Al : List Nat → List Nat → Int → Prop
  | nil : Al [] [] 0
  | sub (x y : Nat) {a b : List Nat} {k : Int} : Al a b k → Al (x :: a) (y :: b) (subc x y + k)
  | del (x : Nat) {a b : List Nat} {k : Int} : Al a b k → Al (x :: a) b (2 + k)
  | ins (y : Nat) {a b : List Nat} {k : Int} : Al a b k → Al a (y :: b) (2 + k)
theorem Al.nonneg {a b : List Nat} {k : Int} (h : Al a b k) : 0 ≤ k := by
  induction h with
  | nil => omega
  | sub x y _ ih => have := subc_nonneg x y; omega
  | del x _ ih => omega
  | ins y _ ih => omega
theorem Al.symm {a b : List Nat} {k : Int} (h : Al a b k) : Al b a k := by
  induction h with
  | nil => exact .nil
  | sub x y _ ih => rw [subc_comm]; exact .sub y x ih
  | del x _ ih => exact .ins x ih
  | ins y _ ih => exact .del y ih
theorem Al.append {a b c d : List Nat} {k l : Int} (h : Al a b k) (h' : Al c d l) : Al (a ++ c) (b ++ d) (k + l) := by
  induction h with
  | nil => simpa using h'
  | sub x y _ ih => rw [Int.add_assoc]; exact .sub x y ih
  | del x _ ih => rw [Int.add_assoc]; exact .del x ih
  | ins y _ ih => rw [Int.add_assoc]; exact .ins y ih
theorem Al.del_all : ∀ a : List Nat, Al a [] (2 * a.length)
  | [] => .nil
  | x :: a => by
    have := Al.del x (Al.del_all a)
    have e : (2 : Int) * ((x :: a).length : Nat) = 2 + 2 * (a.length : Nat) := by simp only [List.length_cons]; omega
    rw [e]; exact this
theorem Al.ins_all (a : List Nat) : Al [] a (2 * a.length) := (Al.del_all a).symm
theorem Al.to_nil : ∀ {a : List Nat} {k : Int}, Al a [] k → k = 2 * a.length := by
  intro a k h
  generalize hb : ([] : List Nat) = b at h
  induction h with
  | nil => rfl
  | sub => cases hb
  | del x h ih => rw [ih hb]; simp only [List.length_cons]; omega
  | ins => cases hb
theorem Al.from_nil {a : List Nat} {k : Int} (h : Al [] a k) : k = 2 * a.length := h.symm.to_nil
theorem Al.self : ∀ a : List Nat, Al a a 0
  | [] => .nil
  | x :: a => by have := Al.sub x x (Al.self a); rwa [subc_self, Int.zero_add] at this
theorem Al.len {a b : List Nat} {k : Int} (h : Al a b k) : 2 * ((a.length : Int) - b.length) ≤ k := by
  induction h with
  | nil => simp
  | sub x y _ ih => have := subc_nonneg x y; simp only [List.length_cons]; omega
  | del x _ ih => simp only [List.length_cons]; omega
  | ins y _ ih => simp only [List.length_cons]; omega
theorem Al.rev {a b : List Nat} {k : Int} (h : Al a b k) : Al a.reverse b.reverse k := by
  induction h with
  | nil => exact .nil
  | sub x y _ ih => simp only [List.reverse_cons]; have := ih.append (Al.sub x y .nil); rwa [Int.add_zero, Int.add_comm] at this
  | del x _ ih =>
    simp only [List.reverse_cons]
    have := ih.append (Al.del x .nil)
    rw [Int.add_comm] at this; simpa using this
  | ins y _ ih =>
    simp only [List.reverse_cons]
    have := ih.append (Al.ins y .nil)
    rw [Int.add_comm] at this; simpa using this
/-- the first part of what is made from comes to a first part of what is made -/
theorem Al.split {a c b : List Nat} {k : Int} (h : Al (a ++ c) b k) : ∃ b1 b2 k1 k2, b = b1 ++ b2 ∧ k = k1 + k2 ∧ Al a b1 k1 ∧ Al c b2 k2 := by
  generalize hw : a ++ c = w at h
  induction h generalizing a with
  | nil =>
    obtain ⟨rfl, rfl⟩ := List.append_eq_nil_iff.mp hw
    exact ⟨[], [], 0, 0, rfl, rfl, .nil, .nil⟩
  | @sub x y a' b' k' h ih =>
    cases a with
    | nil => simp at hw; subst hw; exact ⟨[], _, 0, _, rfl, (Int.zero_add _).symm, .nil, .sub x y h⟩
    | cons z a =>
      simp only [List.cons_append, List.cons.injEq] at hw
      obtain ⟨rfl, hw⟩ := hw
      obtain ⟨b1, b2, k1, k2, rfl, rfl, h1, h2⟩ := ih hw
      exact ⟨y :: b1, b2, _, k2, rfl, (Int.add_assoc ..).symm, .sub z y h1, h2⟩
  | @del x a' b' k' h ih =>
    cases a with
    | nil => simp at hw; subst hw; exact ⟨[], _, 0, _, rfl, (Int.zero_add _).symm, .nil, .del x h⟩
    | cons z a =>
      simp only [List.cons_append, List.cons.injEq] at hw
      obtain ⟨rfl, hw⟩ := hw
      obtain ⟨b1, b2, k1, k2, rfl, rfl, h1, h2⟩ := ih hw
      exact ⟨b1, b2, _, k2, rfl, (Int.add_assoc ..).symm, .del z h1, h2⟩
  | @ins y a' b' k' h ih =>
    obtain ⟨b1, b2, k1, k2, rfl, rfl, h1, h2⟩ := ih hw
    exact ⟨y :: b1, b2, _, k2, rfl, (Int.add_assoc ..).symm, .ins y h1, h2⟩
/-- one letter less -/
theorem Al.less {a b : List Nat} {y : Nat} {k : Int} (h : Al a (y :: b) k) : ∃ k', k' ≤ k + 2 ∧ Al a b k' := by
  generalize hw : y :: b = w at h
  induction h with
  | nil => cases hw
  | @sub x z a' b' k' h ih =>
    cases hw
    exact ⟨_, by have := subc_nonneg x y; omega, .del x h⟩
  | @del x a' b' k' h ih =>
    obtain ⟨k1, h1, h2⟩ := ih hw
    exact ⟨2 + k1, by omega, .del x h2⟩
  | @ins z a' b' k' h ih =>
    cases hw
    exact ⟨_, by omega, h⟩
theorem Al.less' {a b : List Nat} {y : Nat} {k : Int} (h : Al (y :: a) b k) : ∃ k', k' ≤ k + 2 ∧ Al a b k' := by
  obtain ⟨k', h1, h2⟩ := h.symm.less
  exact ⟨k', h1, h2.symm⟩
/-- an equal letter ahead may go -/
theorem Al.head {a b : List Nat} {x : Nat} {k : Int} (h : Al (x :: a) (x :: b) k) : ∃ k', k' ≤ k ∧ Al a b k' := by
  cases h with
  | sub _ _ h => exact ⟨_, by have := subc_nonneg x x; omega, h⟩
  | del _ h => obtain ⟨k', h1, h2⟩ := h.less; exact ⟨k', by omega, h2⟩
  | ins _ h => obtain ⟨k', h1, h2⟩ := h.less'; exact ⟨k', by omega, h2⟩
theorem Al.heads {a b : List Nat} : ∀ (p : List Nat) {k : Int}, Al (p ++ a) (p ++ b) k → ∃ k', k' ≤ k ∧ Al a b k'
  | [], k, h => ⟨k, Int.le_refl k, h⟩
  | x :: p, k, h => by
    obtain ⟨k1, h1, h2⟩ := Al.head h
    obtain ⟨k2, h3, h4⟩ := Al.heads p h2
    exact ⟨k2, by omega, h4⟩
theorem Al.tails {a b : List Nat} (p : List Nat) {k : Int} (h : Al (a ++ p) (b ++ p) k) : ∃ k', k' ≤ k ∧ Al a b k' := by
  have := h.rev
  simp only [List.reverse_append] at this
  obtain ⟨k', h1, h2⟩ := Al.heads _ this
  exact ⟨k', h1, by simpa using h2.rev⟩
/-- the least cost -/
def Mn (a b : List Nat) (r : Int) : Prop := Al a b r ∧ ∀ k, Al a b k → r ≤ k
theorem Mn.symm {a b : List Nat} {r : Int} (h : Mn a b r) : Mn b a r := ⟨h.1.symm, fun k x => h.2 k x.symm⟩
theorem Mn.unique {a b : List Nat} {r r' : Int} (h : Mn a b r) (h' : Mn a b r') : r = r' := Int.le_antisymm (h.2 _ h'.1) (h'.2 _ h.1)
theorem Mn.self (a : List Nat) : Mn a a 0 := ⟨Al.self a, fun k h => h.nonneg⟩
theorem Mn.del (a : List Nat) : Mn a [] (2 * a.length) := ⟨Al.del_all a, fun k h => by rw [h.to_nil]; exact Int.le_refl _⟩
theorem Mn.ins (a : List Nat) : Mn [] a (2 * a.length) := (Mn.del a).symm
theorem Al.snoc_inv {a b : List Nat} {x y : Nat} {k : Int} (h : Al (a ++ [x]) (b ++ [y]) k) : (∃ k', Al a b k' ∧ k = k' + subc x y) ∨ (∃ k', Al a (b ++ [y]) k' ∧ k = k' + 2) ∨ (∃ k', Al (a ++ [x]) b k' ∧ k = k' + 2) := by
  have := h.rev
  simp only [List.reverse_append, List.reverse_cons, List.reverse_nil, List.nil_append, List.cons_append] at this
  cases this with
  | sub _ _ g => exact .inl ⟨_, by simpa using g.rev, Int.add_comm ..⟩
  | del _ g => exact .inr (.inl ⟨_, by simpa using g.rev, Int.add_comm ..⟩)
  | ins _ g => exact .inr (.inr ⟨_, by simpa using g.rev, Int.add_comm ..⟩)
theorem Mn.snoc {a b : List Nat} {x y : Nat} {r1 r2 r3 : Int} (h1 : Mn a b r1) (h2 : Mn (a ++ [x]) b r2) (h3 : Mn a (b ++ [y]) r3) : Mn (a ++ [x]) (b ++ [y]) (min (min r2 r3 + 2) (r1 + subc x y)) := by
  constructor
  · have c1 : Al (a ++ [x]) (b ++ [y]) (r1 + subc x y) := by have := h1.1.append (Al.sub x y .nil); rwa [Int.add_zero] at this
    have c2 : Al (a ++ [x]) (b ++ [y]) (r2 + 2) := by have := h2.1.append (Al.ins y .nil); simpa using this
    have c3 : Al (a ++ [x]) (b ++ [y]) (r3 + 2) := by have := h3.1.append (Al.del x .nil); simpa using this
    rcases Int.le_total r2 r3 with q | q <;> rcases Int.le_total (min r2 r3 + 2) (r1 + subc x y) with q' | q'
    · rw [Int.min_eq_left q', Int.min_eq_left q]; exact c2
    · rw [Int.min_eq_right q']; exact c1
    · rw [Int.min_eq_left q', Int.min_eq_right q]; exact c3
    · rw [Int.min_eq_right q']; exact c1
  · intro k h
    rcases h.snoc_inv with ⟨k', h', rfl⟩ | ⟨k', h', rfl⟩ | ⟨k', h', rfl⟩
    · have := h1.2 _ h'; omega
    · have := h3.2 _ h'; omega
    · have := h2.2 _ h'; omega
/-- an answer of _levenshtein_distance -/
def LevOk (a b : List Nat) (m r : Int) : Prop := Mn a b r ∨ (r = m + 1 ∧ ∀ k, Al a b k → m + 1 ≤ k)
theorem LevOk.symm {a b : List Nat} {m r : Int} (h : LevOk a b m r) : LevOk b a m r := by
  rcases h with h | ⟨e, h⟩
  · exact .inl h.symm
  · exact .inr ⟨e, fun k x => h k x.symm⟩
theorem LevOk.wrap {a b p q : List Nat} {m r : Int} (h : LevOk a b m r) : LevOk (p ++ a ++ q) (p ++ b ++ q) m r := by
  have back : ∀ k, Al (p ++ a ++ q) (p ++ b ++ q) k → ∃ k', k' ≤ k ∧ Al a b k' := fun k x => by
    obtain ⟨k1, h1, h2⟩ := Al.tails q x
    obtain ⟨k2, h3, h4⟩ := Al.heads p h2
    exact ⟨k2, by omega, h4⟩
  rcases h with h | ⟨e, h⟩
  · refine .inl ⟨?_, fun k x => ?_⟩
    · have := ((Al.self p).append h.1).append (Al.self q)
      simpa using this
    · obtain ⟨k', h1, h2⟩ := back k x
      have := h.2 _ h2; omega
  · refine .inr ⟨e, fun k x => ?_⟩
    obtain ⟨k', h1, h2⟩ := back k x
    have := h _ h2; omega
end Mine
end

/- M2 -/
section
open PySem
namespace Mine
structure LIn (a b : List Nat) (i j : Nat) (row : List Int) (dist res mi : Int) : Prop where
  len : row.length = a.length
  done : ∀ t, t < j → ∃ v, row[t]? = some v ∧ Mn (b.take (i + 1)) (a.take (t + 1)) v ∧ mi ≤ v
  todo : ∀ t, j ≤ t → t < a.length → ∃ v, row[t]? = some v ∧ Mn (b.take i) (a.take (t + 1)) v
  dist : Mn (b.take i) (a.take j) dist
  res0 : j = 0 → res = 2 * (i : Int)
  res1 : 0 < j → Mn (b.take (i + 1)) (a.take j) res
theorem take_snoc {l : List Nat} {i x : Nat} (h : l[i]? = some x) : l.take (i + 1) = l.take i ++ [x] := by
  rw [List.take_add_one, h]; rfl
theorem LIn.step {a b : List Nat} {i j x y : Nat} {row : List Int} {dist res mi v : Int} (h : LIn a b i j row dist res mi) (hx : a[j]? = some x) (hy : b[i]? = some y) (hv : row[j]? = some v) :
    Mn (b.take (i + 1)) (a.take (j + 1)) (min (min res v + 2) (dist + subc y x)) := by
  have hj : j < a.length := (List.getElem?_eq_some_iff.mp hx).1
  have hi : i < b.length := (List.getElem?_eq_some_iff.mp hy).1
  obtain ⟨v', e, h3⟩ := h.todo j (Nat.le_refl j) hj
  rw [hv] at e; cases e
  rw [take_snoc hx] at h3
  by_cases q : j = 0
  · have h2 : Mn (b.take i ++ [y]) (a.take j) (2 * ((i : Int) + 1)) := by
      rw [← take_snoc hy, q, List.take_zero]
      have := Mn.del (b.take (i + 1))
      rw [List.length_take, Nat.min_eq_left (by omega)] at this
      have e : (2 : Int) * ((i : Int) + 1) = 2 * ((i + 1 : Nat) : Int) := by omega
      rw [e]; exact this
    have hd : dist = 2 * (i : Int) := by
      have := Mn.del (b.take i)
      rw [List.length_take, Nat.min_eq_left (by omega)] at this
      have h1 := h.dist
      rw [q, List.take_zero] at h1
      exact h1.unique this
    have := Mn.snoc h.dist h2 h3
    rw [take_snoc hy, take_snoc hx]
    have e : min (min res v + 2) (dist + subc y x) = min (min (2 * ((i : Int) + 1)) v + 2) (dist + subc y x) := by
      rw [h.res0 q, hd]
      have := subc_le y x
      omega
    rw [e]; exact this
  · have h2 := h.res1 (by omega)
    rw [take_snoc hy] at h2
    have := Mn.snoc h.dist h2 h3
    rw [take_snoc hy, take_snoc hx]
    exact this
theorem LIn.next {a b : List Nat} {i j x y : Nat} {row : List Int} {dist res mi v r mi' : Int} (h : LIn a b i j row dist res mi) (hx : a[j]? = some x) (hy : b[i]? = some y) (hv : row[j]? = some v)
    (hr : r = min (min res v + 2) (dist + subc y x)) (hm : mi' = if r < mi then r else mi) : LIn a b i (j + 1) (row.set j r) v r mi' := by
  have hj : j < a.length := (List.getElem?_eq_some_iff.mp hx).1
  have hs := h.step hx hy hv
  rw [← hr] at hs
  have hm1 : mi' ≤ r := by subst hm; split <;> omega
  have hm2 : mi' ≤ mi := by subst hm; split <;> omega
  refine ⟨by simpa using h.len, fun t ht => ?_, fun t ht ht' => ?_, ?_, fun q => by omega, fun _ => hs⟩
  · by_cases q : t = j
    · subst q
      exact ⟨r, by rw [List.getElem?_set_self (by rw [h.len]; exact hj)], hs, hm1⟩
    · obtain ⟨w, e, m, l⟩ := h.done t (by omega)
      exact ⟨w, by rw [List.getElem?_set_ne (Ne.symm q)]; exact e, m, by omega⟩
  · obtain ⟨w, e, m⟩ := h.todo t (by omega) ht'
    exact ⟨w, by rw [List.getElem?_set_ne (by omega)]; exact e, m⟩
  · obtain ⟨w, e, m⟩ := h.todo j (Nat.le_refl j) hj
    rw [hv] at e; cases e; exact m
theorem LIn.cut {a b : List Nat} {i : Nat} {row : List Int} {dist res mi m : Int} (h : LIn a b i a.length row dist res mi) (hi : i < b.length) (ha : 0 < a.length) (hm : m < mi) : ∀ k, Al b a k → m + 1 ≤ k := fun k hk => by
  rw [← List.take_append_drop (i + 1) b] at hk
  obtain ⟨a1, a2, k1, k2, e, rfl, h1, h2⟩ := hk.split
  have n2 := h2.nonneg
  have hle : ∃ v, mi ≤ v ∧ v ≤ k1 := by
    cases a1 with
    | nil =>
      obtain ⟨v, e, m, l⟩ := h.done 0 ha
      refine ⟨v, l, ?_⟩
      have := h1.to_nil
      obtain ⟨x, hx⟩ : ∃ x, a[0]? = some x := ⟨a[0], List.getElem?_eq_getElem ha⟩
      obtain ⟨y, hy⟩ : ∃ y, b[i]? = some y := ⟨b[i], List.getElem?_eq_getElem hi⟩
      have hal : Al (b.take (i + 1)) (a.take (0 + 1)) (2 * ((b.take i).length : Nat) + (subc y x + 0)) := by
        rw [take_snoc hy, take_snoc hx, List.take_zero]
        exact (Al.del_all _).append (Al.sub y x .nil)
      have g := m.2 _ hal
      rw [List.length_take, Nat.min_eq_left (by omega)] at g this
      have := subc_le y x
      omega
    | cons z a1 =>
      have hlen := congrArg List.length e
      simp only [List.length_append, List.length_cons] at hlen
      obtain ⟨v, e', m, l⟩ := h.done a1.length (by omega)
      refine ⟨v, l, m.2 _ ?_⟩
      have : a.take (a1.length + 1) = z :: a1 := by rw [e]; simp
      rw [this]; exact h1
  obtain ⟨v, l1, l2⟩ := hle
  omega
/-- what holds between two turns of the outer loop -/
structure LOut (a b : List Nat) (i : Nat) (row : List Int) (res : Int) : Prop where
  len : row.length = a.length
  rows : ∀ t, t < a.length → ∃ v, row[t]? = some v ∧ Mn (b.take i) (a.take (t + 1)) v
  res : 0 < i → Mn (b.take i) a res
theorem LOut.start (a b : List Nat) (k : Nat) (hk : k = a.length) : LOut a b 0 ((List.range k).map fun (i : Nat) => 2 + (i : Int) * 2) 0 := by
  subst hk
  refine ⟨by simp, fun t ht => ⟨2 + (t : Int) * 2, by simp [ht], ?_⟩, fun h => by omega⟩
  have := Mn.ins (a.take (t + 1))
  rw [List.length_take, Nat.min_eq_left (by omega)] at this
  have e : 2 + (t : Int) * 2 = 2 * ((t + 1 : Nat) : Int) := by omega
  rw [e, List.take_zero]; exact this
theorem LOut.enter {a b : List Nat} {i : Nat} {row : List Int} {res : Int} (h : LOut a b i row res) (hi : i < b.length) (mi : Int) : LIn a b i 0 row (2 * (i : Int)) (2 * (i : Int)) mi := by
  refine ⟨h.len, fun t ht => by omega, fun t _ ht => h.rows t ht, ?_, fun _ => rfl, fun q => by omega⟩
  have := Mn.del (b.take i)
  rw [List.length_take, Nat.min_eq_left (by omega)] at this
  rw [List.take_zero]; exact this
theorem LIn.leave {a b : List Nat} {i : Nat} {row : List Int} {dist res mi : Int} (h : LIn a b i a.length row dist res mi) (ha : 0 < a.length) : LOut a b (i + 1) row res :=
  ⟨h.len, fun t ht => let ⟨v, e, m, _⟩ := h.done t ht; ⟨v, e, m⟩, fun _ => by have := h.res1 ha; rwa [List.take_length] at this⟩
theorem LOut.end {a b : List Nat} {row : List Int} {res : Int} (h : LOut a b b.length row res) (hb : 0 < b.length) : Mn b a res := by
  have := h.res hb; rwa [List.take_length] at this
theorem far {a b : List Nat} {m : Int} (h : m < 2 * ((b.length : Int) - a.length)) : ∀ k, Al b a k → m + 1 ≤ k := fun k x => by have := x.len; omega
end Mine
end

/- L16 -/
section
open PySem PySem.W
set_option maxRecDepth 100000
namespace Mine
variable {W : Wd} {sc : Scope} {ρ : Vs} {n : Nat}
/- answers that are told by what holds of them -/
def ClP (W : Wd) (n : Nat) (f : Value) (ds : List D) (P : D → Prop) : Prop :=
  ∀ A F s vs, AOk n A → SubH F s.heap → GrF W F → Rds W F ds vs → wpAny (model W.prog W.w) A (call f vs) (fun v s' => ∃ F' d, P d ∧ Ext F F' s s' ∧ Rd W F' d v) (fun _ _ => False) s
theorem ClP.up {m : Nat} {f : Value} {ds : List D} {P : D → Prop} (h : ClP W m f ds P) (hm : m ≤ n) : ClP W n f ds P := fun A F s vs hA => h A F s vs (hA.le hm)
def EvE (W : Wd) (sc : Scope) (ρ : Vs) (n : Nat) (e : Expr) (P : D → Prop) : Prop :=
  ∀ env A F s, env.scope = sc → AOk n A → Ctx W env ρ F s → wpAny (model W.prog W.w) A (eval e env) (fun v s' => ∃ F' d, P d ∧ Ext F F' s s' ∧ Rd W F' d v) (fun _ _ => False) s
theorem ClP.of {a c : Addr} {names : List Str} {ds : List D} {P : D → Prop} (G : Gw W) (k : DefOk W a c names) (hn : names.length = ds.length) (hX : X W (scOf a) (names.zip (ds.map V.d)) n (bodyOf a) (fun _ => False) P) : ClP W (n + 1) (.ref a) ds P := fun A F s vs hA hsub hgr r => by
  have k1 : ∀ a o, W.h1.get? a = some o → s.heap.get? a = some o := fun a o e => hsub a o (hgr a o e)
  have hlen : names.length = vs.length := hn.trans r.length.symm
  have hcells : ∀ x, (fdOf a).scope.names.lookup x = some .cell → ∀ m, ((cellsFrom m (fdOf a).scope.names []).lookup x).isSome = true := fun x hx m => cellsFrom_some _ _ _ (.inl hx)
  have hfr : ∀ x ∈ names, (fdOf a).scope.names.lookup x = some .local ∨ (fdOf a).scope.names.lookup x = some .cell := fun x hx => by
    have := List.all_eq_true.mp k.fr x hx
    unfold inArgs scOf at this
    split at this
    · exact .inl ‹_›
    · exact .inr ‹_›
    · cases this
  have hcd : W.h1.CodeRec (fdOf a).code (fdOf a).qualname := ⟨c, _, _, _, k.codeIs, G.at k.code, rfl, k.qual⟩
  refine wpAny_call (codeAny_call_cells (fd := fdOf a) (binds := names.zip vs) hA.room (k1 _ _ (G.at k.look)) rfl (G.gd.lim.keeps k1) (hcd.keeps k1) k.body (k.bind vs hlen.symm) k.clo ?_ (fun s₁ x => ?_) k.co k.gen k.kind)
  · intro z hz
    have : z.1 ∈ names := by
      have := List.mem_map_of_mem (f := (·.1)) hz
      rwa [map_fst_zip hlen] at this
    rcases hfr _ this with q | q
    · exact .inl q
    · exact .inr ⟨q, hcells _ q _⟩
  · have st := st_start (W := W) (f := a) hsub hgr r k.kind k.glob k.bui hn k.nd hcells hfr x
    refine wpAny_mono (hX _ _ _ _ _ _ _ _ ⟨rfl, fun y c e => x.above y c (mem_of_lookup e)⟩ hA.deeper st) (fun fl s' hp => ?_) fun _ _ y => y.elim
    cases fl with
    | next => obtain ⟨_, _, hf, _⟩ := hp; exact hf.elim
    | brk => exact hp.elim
    | cont => exact hp.elim
    | ret v =>
      obtain ⟨F', d', hd, rt, rd⟩ := hp
      exact ⟨F', d', hd, ⟨rt.base, rt.sub, rt.le, rt.fresh, rt.gens, rt.os⟩, rd⟩
theorem EvE.fn {x : Str} {fp pos : Pos} {e : Expr} {es : List Expr} {f : Addr} {ds : List D} {P : D → Prop} (G : Gw W) (hc : ClP W n (.ref f) ds P) (ha : Evs W sc ρ n (e :: es) ds) (hx : gtab.lookup x = some (.ref f)) (hs : sc.names.lookup x = some .globalImplicit) (hdb : (x == ("__debug__" : Str)) = false)
    (ho : (hd.heap_39 W.w.params).lookup f = some (Gw.obj f)) (hp : ∀ env, starEach (e :: es) env = (false, eval e env) :: starEach es env)
    (he : ∀ env, eval (.Call (.Name x fp) (e :: es) [] pos) env = (do callWith pos (← eval (.Name x fp) env) [] (backTo pos (starEach (e :: es) env)) (backToKw pos (keywordEach [] env)))) :
    EvE W sc ρ n (.Call (.Name x fp) (e :: es) [] pos) P := fun env A F s hsc hA c => by
  have hf : Ev W sc ρ n (.Name x fp) (.val (.ref f)) := Ev.glob G.gd (G.gm _ _ hx) (fun F => by simp only [Rd]) hs hdb
  refine PyProof.Rows.Call_ ((hf env A F s hsc hA c).then fun v F1 s1 x1 r1 => ?_) (he env)
  simp only [Rd] at r1
  subst r1
  refine Calls.callWith_function (o := Gw.obj f) (fd := fdOf f) (evalArgs_evs ha hp hsc hA (c.ext x1) fun vs F2 s2 x2 r2 => ⟨⟨x2.sub _ _ (x2.le _ _ (x1.le _ _ (c.gr _ _ (G.at ho)))), rfl⟩, ?_⟩)
  exact wpAny_mono (hc A F2 s2 vs hA x2.sub (fun a o e => x2.le _ _ (x1.le _ _ (c.gr a o e))) r2) (fun v s' ⟨F', d, hd, x, r⟩ => ⟨F', d, hd, (x1.trans x2).trans x, r⟩) fun _ _ y => y
theorem X1.assignE {x : Str} {pos' pos : Pos} {e : Expr} {P : D → Prop} {Rr : D → Prop} (he : EvE W sc ρ n e P) (hx : storable sc x = true)
    (hw : ∀ env, env.scope = sc → swapsWith e (some (.Name x pos')) pos.line env = pure false) : X1 W sc ρ n (.Assign [.Name x pos'] e pos) (fun z => ∃ d, P d ∧ z = (x, .d d) :: ρ) Rr :=
  fun env A B F0 g os F s hs hA st => wpAny_Assign_Name (wpAny_mono (he env A F s hs.scope hA st.ctx) (fun v s1 ⟨F1, d, hd, x1, r1⟩ => (st.ext x1).store (hs.scope ▸ hx) (hs.above x) r1 fun s' st' => ⟨_, F1, ⟨d, hd, rfl⟩, st'⟩) fun _ _ y => y.elim) (hw env hs.scope)
theorem X1.unpackE {elts : List Expr} {k : Nat} {tpos pos : Pos} {e : Expr} {P : D → Prop} {bs : D → Vs} {Rr : D → Prop} (he : EvE W sc ρ n e P) (ha : ∀ d, P d → As W sc n (.Tuple elts k tpos) d (bs d))
    (hs' : ∀ env, env.scope = sc → swapsWithSole [.Tuple elts k tpos] e pos.line env = pure false) (hw : ∀ env, env.scope = sc → swappedStores [.Tuple elts k tpos] e env = pure none) :
    X1 W sc ρ n (.Assign [.Tuple elts k tpos] e pos) (fun z => ∃ d, P d ∧ z = bs d ++ ρ) Rr := fun env A B F0 g os F s hE hA st =>
  PyProof.Rows.Assign_Tuple (wpAny_mono (he env A F s hE.scope hA st.ctx) (fun v s1 ⟨F1, d, hd, x1, r1⟩ => wpAny_mono (ha d hd env A B F0 g os ρ F1 s1 v hE.scope (fun x V _ c e => hE.above x c e) hA (st.ext x1) r1)
    (fun _ s' ⟨F', st', _⟩ => ⟨_, F', ⟨d, hd, rfl⟩, st'⟩) fun _ _ y => y.elim) fun _ _ y => y.elim) (hs' env hE.scope) (hw env hE.scope)
theorem Cl.toP {f : Value} {ds : List D} {d : D} (h : Cl W n f ds d) : ClP W n f ds (fun e => e = d) := fun A F s vs hA hs hg r => wpAny_mono (h A F s vs hA hs hg r) (fun v s' ⟨F', x, r⟩ => ⟨F', d, rfl, x, r⟩) fun _ _ y => y
/- fewer names -/
def SubE (ρ' ρ : Vs) : Prop := ∀ x V, ρ'.lookup x = some V → ρ.lookup x = some V
theorem SubE.nil : SubE [] ρ := fun x V e => by simp at e
theorem SubE.cons {x : Str} {U : V} {r : Vs} (h : ρ.lookup x = some U) (hr : SubE r ρ) : SubE ((x, U) :: r) ρ := fun y V e => by
  rw [List.lookup_cons] at e
  cases q : y == x with
  | true => rw [q] at e; cases e; have := eq_of_beq q; subst this; exact h
  | false => rw [q] at e; exact hr y V e
theorem SubE.refl : SubE ρ ρ := fun _ _ e => e
theorem X.nilW {ρ' : Vs} {Rn : Vs → Prop} {Rr : D → Prop} (h : Rn ρ') (hw : SubE ρ' ρ) : X W sc ρ n [] Rn Rr := X.weak hw (X.nil h)
theorem X.skip {a : Stmt} {r : List Stmt} {Rn : Vs → Prop} {Rr : D → Prop} {ρ' : Vs} (h : X1 W sc ρ n a (fun z => z = ρ') Rr) (hr : X W sc ρ' n r Rn Rr) : X W sc ρ n (a :: r) Rn Rr := X.seq h hr
/-- if t: return .. -/
theorem X.guard {t : Expr} {b1 r : List Stmt} {pos : Pos} {b : Bool} {Rn : Vs → Prop} {Rr : D → Prop} (ht : EvT W sc ρ n t b) (h1 : b = true → X W sc ρ n b1 (fun _ => False) Rr) (h2 : b = false → X W sc ρ n r Rn Rr) : X W sc ρ n (.If t b1 [] pos :: r) Rn Rr := by
  refine X.cons (Rm := fun z => b = false ∧ z = ρ) (X1.ite ht (fun h => (h1 h).mono (fun _ y => y.elim) fun _ y => y) fun h => X.nil ⟨h, rfl⟩) fun ρ' e => ?_
  obtain ⟨h, rfl⟩ := e
  exact h2 h
theorem X1.weakR {a : Stmt} {Rn : Vs → Prop} {Rr : D → Prop} {ρ1 : Vs} (h : X1 W sc ρ n a (fun z => z = ρ1) Rr) (hw : ∃ ρ', Rn ρ' ∧ SubE ρ' ρ1) : X1 W sc ρ n a Rn Rr := fun env A B F0 g os F s hE hA st => by
  obtain ⟨ρ', hr, hs⟩ := hw
  refine wpAny_mono (h env A B F0 g os F s hE hA st) (fun fl s' hp => ?_) fun _ _ y => y
  cases fl with
  | next => obtain ⟨z, F', rfl, st'⟩ := hp; exact ⟨ρ', F', hr, st'.weak hs⟩
  | brk => exact hp
  | cont => exact hp
  | ret v => exact hp
end Mine
end

/- L17 -/
section
open PySem PySem.W
set_option maxRecDepth 100000
namespace Mine
variable {W : Wd} {sc : Scope} {ρ : Vs} {n : Nat}
theorem noOwn_of {x : Str} (h : ρ.all (fun p => !p.2.own) = true) : ∀ y V, y ≠ x → ρ.lookup y = some V → V.own = false := fun y V _ e => by
  have := List.all_eq_true.mp h (y, V) (mem_of_lookup e)
  simpa using this
theorem Ev.lenS {fp pos : Pos} {e : Expr} {l : List Nat} (G : Gw W) (he : Ev W sc ρ n e (.str (sOf l))) (hl : l.length ≤ 100000) (hm : W.mg (Str.ofString "len") = none := by walk_at "m.sd") (hs : sc.names.lookup (Str.ofString "len") = some .globalImplicit := by walk_at "m.sd") 
    (hp : ∀ env, starEach [e] env = (false, eval e env) :: starEach [] env := by walk_at "m.sd") (hq : ∀ env, (starEach [] env).any (·.1) = false := by walk_at "m.sd")
    (hv : ∀ env, eval (.Call (.Name (Str.ofString "len") fp) [e] [] pos) env = (do callWith pos (← eval (.Name (Str.ofString "len") fp) env) [] (backTo pos (starEach [e] env)) (backToKw pos (keywordEach [] env))) := by walk_at "m.sd") :
    Ev W sc ρ n (.Call (.Name (Str.ofString "len") fp) [e] [] pos) (.int l.length) := Ev.bf G G.bl (cl_len_str l hl) (Evs.cons he .nil hp) hm hs (by decide +kernel) hp hq hv
theorem Ev.lenL {fp pos : Pos} {e : Expr} {l : List D} (G : Gw W) (he : Ev W sc ρ n e (.list l)) (hl : l.length ≤ 100000) (hm : W.mg (Str.ofString "len") = none := by walk_at "m.sd") (hs : sc.names.lookup (Str.ofString "len") = some .globalImplicit := by walk_at "m.sd") 
    (hp : ∀ env, starEach [e] env = (false, eval e env) :: starEach [] env := by walk_at "m.sd") (hq : ∀ env, (starEach [] env).any (·.1) = false := by walk_at "m.sd")
    (hv : ∀ env, eval (.Call (.Name (Str.ofString "len") fp) [e] [] pos) env = (do callWith pos (← eval (.Name (Str.ofString "len") fp) env) [] (backTo pos (starEach [e] env)) (backToKw pos (keywordEach [] env))) := by walk_at "m.sd") :
    Ev W sc ρ n (.Call (.Name (Str.ofString "len") fp) [e] [] pos) (.int l.length) := Ev.bf G G.bl (cl_len_list l hl) (Evs.cons he .nil hp) hm hs (by decide +kernel) hp hq hv
theorem Ev.min2 {fp pos : Pos} {e f : Expr} {i j : Int} (G : Gw W) (he : Ev W sc ρ n e (.int i)) (hf : Ev W sc ρ n f (.int j)) (hm : W.mg (Str.ofString "min") = none := by walk_at "m.sd") (hs : sc.names.lookup (Str.ofString "min") = some .globalImplicit := by walk_at "m.sd") 
    (hp : ∀ env, starEach [e, f] env = (false, eval e env) :: starEach [f] env := by walk_at "m.sd") (hp' : ∀ env, starEach [f] env = (false, eval f env) :: starEach [] env := by walk_at "m.sd") (hq : ∀ env, (starEach [f] env).any (·.1) = false := by walk_at "m.sd")
    (hv : ∀ env, eval (.Call (.Name (Str.ofString "min") fp) [e, f] [] pos) env = (do callWith pos (← eval (.Name (Str.ofString "min") fp) env) [] (backTo pos (starEach [e, f] env)) (backToKw pos (keywordEach [] env))) := by walk_at "m.sd") :
    Ev W sc ρ n (.Call (.Name (Str.ofString "min") fp) [e, f] [] pos) (.int (min i j)) := Ev.bf G G.bmi (cl_min2 i j) (Evs.cons he (Evs.cons hf .nil hp') hp) hm hs (by decide +kernel) hp hq hv
theorem Ev.minL {fp pos : Pos} {e : Expr} {l : List Int} (G : Gw W) (he : Ev W sc ρ n e (.list (l.map .int))) (hl : l ≠ []) (hm : W.mg (Str.ofString "min") = none := by walk_at "m.sd") (hs : sc.names.lookup (Str.ofString "min") = some .globalImplicit := by walk_at "m.sd") 
    (hp : ∀ env, starEach [e] env = (false, eval e env) :: starEach [] env := by walk_at "m.sd") (hq : ∀ env, (starEach [] env).any (·.1) = false := by walk_at "m.sd")
    (hv : ∀ env, eval (.Call (.Name (Str.ofString "min") fp) [e] [] pos) env = (do callWith pos (← eval (.Name (Str.ofString "min") fp) env) [] (backTo pos (starEach [e] env)) (backToKw pos (keywordEach [] env))) := by walk_at "m.sd") :
    Ev W sc ρ n (.Call (.Name (Str.ofString "min") fp) [e] [] pos) (.int (lmin l)) := Ev.bf G G.bmi (cl_minL l hl) (Evs.cons he .nil hp) hm hs (by decide +kernel) hp hq hv
theorem Ev.range {fp pos : Pos} {e : Expr} {es : List Expr} {ds : List D} {a b c : Int} (G : Gw W) (hc : Cl W n (.type "range") ds (.rng a b c)) (ha : Evs W sc ρ n (e :: es) ds) (hm : W.mg (Str.ofString "range") = none := by walk_at "m.sd") (hs : sc.names.lookup (Str.ofString "range") = some .globalImplicit := by walk_at "m.sd") 
    (hp : ∀ env, starEach (e :: es) env = (false, eval e env) :: starEach es env := by walk_at "m.sd") (hq : ∀ env, (starEach es env).any (·.1) = false := by walk_at "m.sd")
    (hv : ∀ env, eval (.Call (.Name (Str.ofString "range") fp) (e :: es) [] pos) env = (do callWith pos (← eval (.Name (Str.ofString "range") fp) env) [] (backTo pos (starEach (e :: es) env)) (backToKw pos (keywordEach [] env))) := by walk_at "m.sd") :
    Ev W sc ρ n (.Call (.Name (Str.ofString "range") fp) (e :: es) [] pos) (.rng a b c) := Ev.bt G G.br hc ha hm hs (by decide +kernel) hp hq hv
theorem small_of {a b c : Int} (ha : a.natAbs ≤ 100000) (hb : b.natAbs ≤ 100000) (hc : c = 1 ∨ c = 2) : Builtin.Range.small a b c = true := by
  unfold Builtin.Range.small
  rcases hc with rfl | rfl <;> simp only [Builtin.Range.rangeSize, Builtin.Range.rangeFitsLong, Bool.and_eq_true, Bool.or_eq_true, decide_eq_true_eq, beq_iff_eq] <;> simp <;> (repeat' split) <;> omega
/-- for i in range(k) -/
theorem It.range1 {fp pos : Pos} {e tgt : Expr} {k : Nat} (G : Gw W) (ha : Ev W sc ρ n e (.int k)) (hk : k ≤ 10000) (hm : W.mg (Str.ofString "range") = none := by walk_at "m.sd") (hs : sc.names.lookup (Str.ofString "range") = some .globalImplicit := by walk_at "m.sd") 
    (hp : ∀ env, starEach [e] env = (false, eval e env) :: starEach [] env := by walk_at "m.sd") (hq : ∀ env, (starEach [] env).any (·.1) = false := by walk_at "m.sd")
    (hv : ∀ env, eval (.Call (.Name (Str.ofString "range") fp) [e] [] pos) env = (do callWith pos (← eval (.Name (Str.ofString "range") fp) env) [] (backTo pos (starEach [e] env)) (backToKw pos (keywordEach [] env))) := by walk_at "m.sd") :
    It W sc ρ n (.Call (.Name (Str.ofString "range") fp) [e] [] pos) tgt ((List.range k).map fun i : Nat => D.int (i : Int)) := by
  have := It.rng (tgt := tgt) (k := k) (Ev.range (fp := fp) (pos := pos) G (cl_range1 (k : Int)) (Evs.cons ha .nil hp) hm hs hp hq hv) (small_of (by omega) (by omega) (.inl rfl)) (by unfold Builtin.Range.rangeSize; simp; omega)
  simpa using this
theorem It.range2 {fp pos : Pos} {e f tgt : Expr} {i j : Nat} (G : Gw W) (ha : Ev W sc ρ n e (.int i)) (hb : Ev W sc ρ n f (.int j)) (hi : i ≤ 10000) (hj : j ≤ 10000) (hm : W.mg (Str.ofString "range") = none := by walk_at "m.sd") (hs : sc.names.lookup (Str.ofString "range") = some .globalImplicit := by walk_at "m.sd") 
    (hp : ∀ env, starEach [e, f] env = (false, eval e env) :: starEach [f] env := by walk_at "m.sd") (hp' : ∀ env, starEach [f] env = (false, eval f env) :: starEach [] env := by walk_at "m.sd") (hq : ∀ env, (starEach [f] env).any (·.1) = false := by walk_at "m.sd")
    (hv : ∀ env, eval (.Call (.Name (Str.ofString "range") fp) [e, f] [] pos) env = (do callWith pos (← eval (.Name (Str.ofString "range") fp) env) [] (backTo pos (starEach [e, f] env)) (backToKw pos (keywordEach [] env))) := by walk_at "m.sd") :
    It W sc ρ n (.Call (.Name (Str.ofString "range") fp) [e, f] [] pos) tgt ((List.range (j - i)).map fun k : Nat => D.int ((i + k : Nat) : Int)) := by
  have := It.rng (tgt := tgt) (k := j - i) (Ev.range (fp := fp) (pos := pos) G (cl_range2 (i : Int) (j : Int)) (Evs.cons ha (Evs.cons hb .nil hp') hp) hm hs hp hq hv) (small_of (by omega) (by omega) (.inl rfl)) (by unfold Builtin.Range.rangeSize; simp; omega)
  simpa using this
theorem idx_strN {slice : Expr} {l : List Nat} {i c : Nat} (hp : PlainIdx slice) (hc : l[i]? = some c) (hi : i ≤ 1000) : Idx W n slice (.str (sOf l)) (.int i) (.str (sOf [c])) :=
  idx_str hp (seqIndex_of (by omega) (by have := (List.getElem?_eq_some_iff.mp hc).1; omega)) (by simpa using hc) (by omega) (by omega)
theorem getElem_range_map {α : Type} {f : Nat → α} {k i : Nat} {d : α} (h : ((List.range k).map f)[i]? = some d) : i < k ∧ d = f i := by
  rw [List.getElem?_map] at h
  obtain ⟨j, hj, rfl⟩ := Option.map_eq_some_iff.mp h
  obtain ⟨h1, h2⟩ := List.getElem?_eq_some_iff.mp hj
  simp only [List.length_range] at h1
  simp only [List.getElem_range] at h2
  exact ⟨h1, by rw [h2]⟩
theorem sym_of {l : List Nat} (h : ∀ c ∈ l, Ltr c) {i c : Nat} (e : l[i]? = some c) : Sym c := .inl (h c (List.mem_of_getElem? e))
theorem seqIndex_neg {q k : Nat} (h : q < k) : seqIndex? (-(q : Int) - 1) k = some (k - (q + 1)) := by
  unfold seqIndex?
  have h1 : (-(q : Int) - 1) < 0 := by omega
  simp [h1]
  omega
end Mine
end

/- L21 -/
section
open PySem PySem.W
set_option maxRecDepth 100000
namespace Mine
variable {W : Wd} {sc cs : Scope} {ρ : Vs} {n : Nat}
theorem Ctx.weak {ρ' : Vs} {env : Env} {F : Fz} {s : Shared} (c : Ctx W env ρ F s) (h : SubE ρ' ρ) : Ctx W env ρ' F s := ⟨c.sub, c.gr, c.kind, c.glob, c.bui, fun x V e k => c.vars x V (h x V e) k⟩
theorem Ev.weak {ρ' : Vs} {e : Expr} {d : D} (h : SubE ρ' ρ) (x : Ev W sc ρ' n e d) : Ev W sc ρ n e d := fun env A F s hs hA c => x env A F s hs hA (c.weak h)
theorem EvT.weak {ρ' : Vs} {e : Expr} {b : Bool} (h : SubE ρ' ρ) (x : EvT W sc ρ' n e b) : EvT W sc ρ n e b := fun env A F s hs hA c => x env A F s hs hA (c.weak h)
theorem EvTs.weak {ρ' : Vs} {e : List Expr} {b : Bool} (h : SubE ρ' ρ) (x : EvTs W sc ρ' n e b) : EvTs W sc ρ n e b := fun env A F s hs hA c => x env A F s hs hA (c.weak h)
theorem imms_sub {ρ' : Vs} (h : SubE ρ' ρ) (hi : ρ'.all (fun p => !p.2.own) = true) : SubE ρ' (imms ρ) := fun x V e => by
  have e1 := h x V e
  have o : V.own = false := by
    have := List.all_eq_true.mp hi (x, V) (mem_of_lookup e)
    simpa using this
  refine (filter_lookup (x := x) (fun y => match ρ.lookup y with | some V => !V.own | none => false) ρ).trans ?_
  simp only [e1, o, Bool.not_false, if_true]
theorem sub_append {ρ' : Vs} (h : SubE ρ' ρ) : ∀ bs : Vs, SubE (bs ++ ρ') (bs ++ ρ)
  | [] => h
  | (y, U) :: bs => fun x V e => by
    simp only [List.cons_append, List.lookup_cons] at e ⊢
    cases q : x == y with
    | true => rw [q] at e; exact e
    | false => rw [q] at e; exact sub_append h bs x V e
/-- a list comprehension over data -/
theorem Ev.compM {α : Type} {ρ' : Vs} {elt tgt iter : Expr} {ifs : List Expr} {pos : Pos} (f : α → D) (hf : ∀ x y, f x = f y → x = y) (xs : List α) (p : α → Bool) (r : α → D) (bs : α → Vs) (hsub : SubE ρ' ρ) (himm : ρ'.all (fun p => !p.2.own) = true) (hok : compOk sc cs ρ = true) (hIt : It W sc ρ n iter tgt (xs.map f)) (hlen : xs.length ≤ 10000)
    (hAs : ∀ x ∈ xs, As W (relab sc cs) n tgt (f x) (bs x)) (hbs : ∀ x ∈ xs, ownNames cs (bs x) = true)
    (hel : ∀ x ∈ xs, EvTs W (relab sc cs) (bs x ++ ρ') n ifs (p x) ∧ (p x = true → Ev W (relab sc cs) (bs x ++ ρ') n elt (r x)))
    (hfold : ∀ env x, foldedSetIterable iter env x = pure x) : Ev W sc ρ n (.ListComp elt [⟨tgt, iter, ifs, 0⟩] cs pos) (.list ((xs.filter p).map r)) := by
  classical
  let g : D → Option α := fun d => if h : ∃ x, f x = d then some (Classical.choose h) else none
  have hg : ∀ x, g (f x) = some x := fun x => by
    have h : ∃ y, f y = f x := ⟨x, rfl⟩
    show (if h : ∃ y, f y = f x then some (Classical.choose h) else none) = some x
    rw [dif_pos h]
    exact congrArg some (hf _ _ (Classical.choose_spec h))
  have key := Ev.comp (W := W) (sc := sc) (cs := cs) (ρ := ρ) (n := n) (elt := elt) (tgt := tgt) (iter := iter) (ifs := ifs) (pos := pos) (ds := xs.map f) (fun d => ((g d).map p).getD false) (fun d => ((g d).map r).getD d) (fun d => ((g d).map bs).getD []) hok hIt (by simpa using hlen)
    (fun d hd => by
      obtain ⟨x, hx, rfl⟩ := List.mem_map.mp hd
      rw [hg]; exact hAs x hx)
    (fun d hd => by
      obtain ⟨x, hx, rfl⟩ := List.mem_map.mp hd
      rw [hg]; exact hbs x hx)
    (fun d hd => by
      obtain ⟨x, hx, rfl⟩ := List.mem_map.mp hd
      rw [hg]
      simp only [Option.map_some, Option.getD_some]
      have hs := sub_append (imms_sub hsub himm) (bs x)
      exact ⟨(hel x hx).1.weak hs, fun q => ((hel x hx).2 q).weak hs⟩) hfold
  have e : ((xs.map f).filter fun d => ((g d).map p).getD false).map (fun d => ((g d).map r).getD d) = (xs.filter p).map r := by
    rw [List.filter_map, List.map_map]
    have e1 : (fun d => ((g d).map p).getD false) ∘ f = p := by funext x; simp [hg]
    have e2 : (fun d => ((g d).map r).getD d) ∘ f = r := by funext x; simp [hg]
    rw [e1, e2]
  rw [e] at key; exact key
theorem chr_inj (x y : Nat) (h : D.str (sOf [x]) = D.str (sOf [y])) : x = y := by
  injection h with h
  have := sOf_inj h
  simpa using this
theorem int_inj (x y : Nat) (h : D.int (x : Int) = D.int (y : Int)) : x = y := by
  injection h with h
  omega
theorem filter_yes {α : Type} (l : List α) : l.filter (fun _ => true) = l := by simp
end Mine
end

/- L26 -/
section
open PySem
namespace Mine
variable {W : Wd} {sc cs : Scope} {ρ : Vs} {n : Nat} {B F0 F : Fz} {g : Array GenState} {os : OsState} {env : Env} {s : Shared}
theorem compLoop_dict {A : Around} {R : Result → Shared → Prop} {kx vx target iter : Expr} {scope : Scope} {pos : Pos} {it : Value} {a : Addr} (I : Nat → Shared → Prop)
    (turn : ∀ n s, I n s → wpAny (model W.prog W.w) A (pyNext it) (fun r s₁ => match r with
      | none => R (.ok .next) s₁
      | some v => wpAny (model W.prog W.w) A (letOwnedTupleGo target it v) (fun _ s₁' => wpAny (model W.prog W.w) A (assign target env v) (fun _ s₃ =>
            wpAny (model W.prog W.w) A (eval kx env) (fun kv s₄ => wpAny (model W.prog W.w) A (eval vx env) (fun vv s₅ =>
              wpAny (model W.prog W.w) A (dictSet a kv vv) (fun _ s₆ => ∃ m, m < n ∧ I m s₆) (fun _ _ => False) s₅) (fun _ _ => False) s₄) (fun _ _ => False) s₃) (fun _ _ => False) s₁') (fun _ _ => False) s₁) (fun _ _ => False) s)
    (n : Nat) (h : I n s) : codeAny (model W.prog W.w) A (.compLoop (.DictComp kx vx [⟨target, iter, [], 0⟩] scope pos) 0 it (.ref a) env) R s := by
  refine codeAny_loop rfl I (fun n s hI => ?_) n h
  show wpAny _ A ((compTurn (.DictComp kx vx [⟨target, iter, [], 0⟩] scope pos) 0 it (.ref a) env).onRaise (fun x => do noteFrame x env; theTreesLotGoes x)) _ _ s
  refine wpAny_noted ?_
  rw [compTurn_dict]
  refine wpAny_bind (wpAny_standAt (wpAny_bind (wpAny_mono (turn n s hI) (fun r s₁ h₁ => ?_) fun _ _ h' => h'.elim)))
  cases r with
  | none => exact wpAny_pure h₁
  | some v =>
    refine wpAny_bind (wpAny_mono h₁ (fun _ s₁' h₁' => ?_) fun _ _ h' => h'.elim)
    refine wpAny_bind (wpAny_mono h₁' (fun _ s₂ h₂ => wpAny_bind (wpAny_tests_nil ?_)) fun _ _ h' => h'.elim)
    exact wpAny_bind (wpAny_bind (wpAny_mono h₂ (fun kv s₄ h₄ => wpAny_bind (wpAny_holding (wpAny_mono h₄ (fun vv s₅ h₅ => wpAny_bind (wpAny_standAt (wpAny_holding (wpAny_mono h₅ (fun _ s₆ h₆ => wpAny_pure ⟨rfl, h₆⟩) fun _ _ h' => h'.elim)))) fun _ _ h' => h'.elim))) fun _ _ h' => h'.elim))
abbrev dicObj : Obj := { cls := .type "dict", data := .dict #[] }
theorem dic_new : MapObj W dicObj [] := by
  have h : (Heap.push { objs := #[] } dicObj).DictOf (strKind W.prog W.w) 0 [] := Heap.DictOf.new { objs := #[] }
  obtain ⟨o, ho, m⟩ := of_dict h
  have : (Heap.push { objs := #[] } dicObj).get? 0 = some dicObj := Heap.get?_push_size { objs := #[] } rfl
  rw [this] at ho; cases ho; exact m
theorem comp_dict_run {A : Around} {E : Value → Shared → Prop} {kx vx tgt iter : Expr} {pos : Pos} {ds : List D} {key : D → Str} {r : D → D} {bs : D → Vs} {F2 : Fz} {s2 : Shared} {I : Addr} {wr : List Addr} {Si : Nat → Heap → Prop}
    {RR : Value → Addr → Result → Shared → Prop} (hA : AOk n A) (hok : compOk sc cs ρ = true) (hsc : env.scope = sc) (c : Ctx W env ρ F s) (x : Ext F F2 s s2) (K : Itr W A tgt I wr ds F2 Si) (si : Si 0 s2.heap) (hwr : ∀ b ∈ wr, s.heap.get? b = none ∧ F2 b = none)
    (hlen : ds.length ≤ 10000) (hAs : ∀ d ∈ ds, As W (relab sc cs) n tgt d (bs d)) (hbs : ∀ d ∈ ds, ownNames cs (bs d) = true) (hnd : (ds.map key).Nodup)
    (hel : ∀ d ∈ ds, Ev W (relab sc cs) (bs d ++ imms ρ) n kx (.str (key d)) ∧ Ev W (relab sc cs) (bs d ++ imms ρ) n vx (r d))
    (hRR : ∀ a C s' F'' m o vs, Ext F F'' s s' → s'.heap.get? a = some o → MapObj W o ((ds.map key).zip vs) → Rds W F'' (ds.map r) vs → s.heap.get? a = none → F'' a = none → s'.heap.Ns C m → s.heap.get? C = none → F'' C = none → C ≠ a → RR (.ref a) C (.ok .next) s') :
    wpAny (model W.prog W.w) A newDict (fun acc s3 => wpAny (model W.prog W.w) A (newFunctionEnv cs env.globals (closL env.cells cs.names []) [] env.qual none .none (some env)) (fun cenv s4 =>
      codeAny (model W.prog W.w) A (.compStart (.DictComp kx vx [⟨tgt, iter, [], 0⟩] cs pos) 0 (.ref I) acc { cenv with scope := relabel cs env }) (RR acc cenv.locals) s4) E s3) E s2 := by
  have hlive : ∀ b ∈ wr, ∃ o, s2.heap.get? b = some o := K.live _ _ si
  refine wpAny_newObj_type (nfe ?_)
  have st0 := comp_start (oacc := dicObj) (tk := s2.toks) hok hsc c x hwr hlive rfl _ rfl
  show codeAny _ A (.compStart _ 0 (.ref I) (.ref s2.heap.objs.size) (cEnv cs env (s2.heap.push (dicObj)).objs.size)) (RR (.ref s2.heap.objs.size) (s2.heap.push (dicObj)).objs.size) { s2 with heap := pushCells ((s2.heap.push (dicObj)).push { cls := .type "dict", data := .dict #[] }) cs.names }
  generalize hH : pushCells ((s2.heap.push (dicObj)).push { cls := .type "dict", data := .dict #[] }) cs.names = H at st0 ⊢
  generalize hCC : (s2.heap.push (dicObj)).objs.size = C at st0 ⊢
  have hCe : C = s2.heap.objs.size + 1 := by rw [← hCC]; exact Heap.size_push ..
  have scp : (cEnv cs env C).scope = relab sc cs := relabel_eq hsc
  have keepH : ∀ a o, s2.heap.get? a = some o → H.get? a = some o := fun a o e => by rw [← hH]; exact pushCells_keeps _ _ a o (Heap.get?_push_of_some _ (Heap.get?_push_of_some _ e))
  have accH : H.get? s2.heap.objs.size = some (dicObj) := by rw [← hH]; exact pushCells_keeps _ _ _ _ (Heap.get?_push_of_some _ (Heap.get?_push_size _ rfl))
  have hDs : s.heap.get? s2.heap.objs.size = none := none_of_old x.old (get?_size _)
  have hDF : F2 s2.heap.objs.size = none := x.sub.none (get?_size _)
  have hwr' : ∀ b ∈ s2.heap.objs.size :: wr, s.heap.get? b = none ∧ F2 b = none := fun b hb => by
    rcases List.mem_cons.mp hb with rfl | hb
    · exact ⟨hDs, hDF⟩
    · exact hwr b hb
  have hD : s2.heap.objs.size ∉ wr := fun m => by obtain ⟨o, e⟩ := hlive _ m; exact absurd (Heap.lt_size e) (Nat.lt_irrefl _)
  have hCw : ∀ y cc, (cEnv cs env C).cells.lookup y = some cc → cc ∉ s2.heap.objs.size :: wr := fun y cc e m => by
    obtain ⟨v, o, ho, hd⟩ := st0.fs.cell y cc e
    -- a cell is no list and no thing that was made behind s
    rcases List.mem_cons.mp m with rfl | m
    · have : H.get? s2.heap.objs.size = some o := ho
      rw [accH] at this; cases this; cases hd
    · have e' : (cellsFrom (C + 1) cs.names (closL env.cells cs.names [])).lookup y = some cc := e
      rcases cellsFrom_lookup _ _ _ e' with ⟨h, _⟩ | h
      · obtain ⟨p, hp⟩ := hlive cc m
        exact absurd (Heap.lt_size hp) (Nat.not_lt.mpr (Nat.le_trans (Nat.le_succ_of_le (by rw [hCe]; exact Nat.le_succ _)) h))
      · rcases closL_lookup _ _ h with ⟨k, m', hk, z⟩ | z
        · subst hk
          have hok' := hok
          simp only [compOk, Bool.and_eq_true, List.all_eq_true, beq_iff_eq] at hok'
          have hk := hok'.2 _ m'
          simp only [Bool.and_eq_true, beq_iff_eq] at hk
          cases q : ρ.lookup y with
          | none => rw [q] at hk; cases hk.2
          | some V =>
            cases V with
            | d dd =>
              have hf := hk.1.2
              have hin : inFrame env.scope y = true := by
                rw [hsc]; unfold inFrame; unfold freeIn at hf
                cases z : sc.names.lookup y with
                | none => rw [z] at hf; cases hf
                | some k => rw [z] at hf; cases k <;> first | rfl | cases hf
              obtain ⟨v', l, _⟩ := c.vars y _ q hin
              rcases l with ⟨k, _⟩ | ⟨_, c', e2, o', ho', _⟩
              · have k' : sc.names.lookup y = some .local := by rw [← hsc]; exact k
                unfold freeIn at hf; rw [k'] at hf; cases hf
              · rw [e2] at z
                have : cc = c' := z
                subst this
                rw [(hwr cc m).1] at ho'; cases ho'
            | ol => rw [q] at hk; cases hk.2
            | od => rw [q] at hk; cases hk.2
            | oh => rw [q] at hk; cases hk.2
        · simp at z
  have hCs : s.heap.get? C = none := by
    refine none_of_old x.old ?_
    cases q : s2.heap.get? C with
    | none => rfl
    | some o => exact absurd (Heap.lt_size q) (by rw [hCe]; exact Nat.not_lt.mpr (Nat.le_succ _))
  have loop : codeAny (model W.prog W.w) A (.compLoop (.DictComp kx vx [⟨tgt, iter, [], 0⟩] cs pos) 0 (.ref I) (.ref s2.heap.objs.size) (cEnv cs env C)) (RR (.ref s2.heap.objs.size) C) { s2 with heap := H } := by
    refine compLoop_dict (fun k s' => ∃ i F1 B' ys o, k = ds.length - i ∧ i ≤ ds.length ∧ Si i s'.heap ∧ (∀ b ∈ s2.heap.objs.size :: wr, (B' b).isSome = true) ∧ (∀ a, a ∉ s2.heap.objs.size :: wr → B' a = s.heap.get? a) ∧
        s'.heap.get? s2.heap.objs.size = some o ∧ MapObj W o (((ds.take i).map key).zip ys) ∧ Rds W F1 ((ds.take i).map r) ys ∧ St W B' F2 s.gens s.os (cEnv cs env C) (imms ρ) F1 s')
      ?_ (ds.length - 0) ⟨0, F2, _, [], dicObj, rfl, Nat.zero_le _, K.frame _ _ _ si (fun a o e => keepH a o (x.sub a o e)) (fun b hb o e => keepH b o e), ?_, fun a ha => bUpd_out ha, accH, dic_new, by simp [Rds], st0⟩
    · rintro k s' ⟨i, F1, B', ys, o, rfl, hi, si', hsome, hout, hacc, hmap, hys, st'⟩
      have hF1 : ∀ b ∈ s2.heap.objs.size :: wr, F1 b = none := fun b hb => by
        cases q : F1 b with
        | none => rfl
        | some o =>
          rcases st'.fresh b o q with z | z
          · rw [(hwr' b hb).2] at z; cases z
          · have := hsome b hb; rw [z] at this; cases this
      rcases Nat.lt_or_ge i ds.length with hlt | hge
      · have hd : ds[i]? = some ds[i] := List.getElem?_eq_getElem hlt
        have hmem : ds[i] ∈ ds := List.getElem_mem hlt
        refine wpAny_mono (K.step i s' F1 ds[i] hd si' st'.sub st'.le (fun b hb => hF1 b (List.mem_cons_of_mem _ hb))) (fun rr s3 h3 => ?_) fun _ _ y => y
        obtain ⟨v, rfl, h3⟩ := h3
        refine wpAny_mono h3 (fun _ s4 h4 => ?_) fun _ _ y => y
        obtain ⟨F3, x3, r3, si3⟩ := h4
        have st4 := st'.tick (x3.more fun a ha => List.mem_cons_of_mem _ ha) hsome hCw
        have hacc4 : s4.heap.get? s2.heap.objs.size = some o := x3.old _ _ hD hacc
        refine wpAny_mono (hAs _ hmem _ A _ _ _ _ _ _ _ v scp (own_above hok hsc (hbs _ hmem)) hA st4 r3) (fun _ s5 h5 => ?_) fun _ _ y => y
        obtain ⟨F5, st5, le5⟩ := h5
        have base5 : ∀ b ∈ s2.heap.objs.size :: wr, ∀ o, s4.heap.get? b = some o → s5.heap.get? b = some o := fun b hb o e => st5.base b o (by rw [bUpd_in hb]; exact e)
        obtain ⟨hk, hv⟩ := hel _ hmem
        have tk1 : ds.take (i + 1) = ds.take i ++ [ds[i]] := by rw [List.take_add_one, hd]; rfl
        have out6 : ∀ a, a ∉ s2.heap.objs.size :: wr → bUpd B' (s2.heap.objs.size :: wr) s4.heap a = s.heap.get? a := fun a ha => by rw [bUpd_out ha]; exact hout a ha
        have some6 : ∀ b ∈ s2.heap.objs.size :: wr, (bUpd B' (s2.heap.objs.size :: wr) s4.heap b).isSome = true := fun b hb => by
          rw [bUpd_in hb]
          rcases List.mem_cons.mp hb with rfl | hb
          · rw [hacc4]; rfl
          · obtain ⟨o, e⟩ := K.live _ _ si3 b hb; rw [e]; rfl
        refine (hk _ A F5 s5 scp hA st5.ctx).then fun ku F6 s6 x6 r6 => ?_
        have st6 := st5.ext x6
        refine (hv _ A F6 s6 scp hA st6.ctx).then fun u F7 s7 x7 r7 => ?_
        simp only [Rd] at r6
        obtain ⟨tk, rfl⟩ := r6
        have hacc7 : s7.heap.get? s2.heap.objs.size = some o := x7.old _ _ (x6.old _ _ (base5 _ (List.mem_cons_self ..) _ hacc4))
        have hyl := hys.length
        rw [List.length_map, List.length_take] at hyl
        have hkl : ((ds.take i).map key).length = ys.length := by rw [List.length_map, List.length_take, hyl]
        have hkn : key ds[i] ∉ (ds.take i).map key := fun hm => by
          obtain ⟨d', hd', e'⟩ := List.mem_map.mp hm
          obtain ⟨j, hj, hjj⟩ := List.getElem_of_mem hd'
          have hji : j < i := by rw [List.length_take] at hj; omega
          rw [List.getElem_take] at hjj
          have := (List.nodup_iff_pairwise_ne.mp hnd)
          have h2 := List.pairwise_iff_getElem.mp this j i (by rw [List.length_map]; omega) (by rw [List.length_map]; omega) hji
          simp only [List.getElem_map] at h2
          rw [hjj] at h2; exact h2 e'
        refine wpAny_dictSet_pairs (strKind_is W.prog W.w (key ds[i]) tk) (dict_of hacc7 hmap) (fun h8 hm8 hs8 => ?_) (by rw [List.length_zip, sizeLine_eq]; omega)
        rw [stored_new hkl hkn] at hm8
        obtain ⟨o8, ho8, hmap8⟩ := of_dict hm8
        have st7 := (st6.ext x7)
        have hF7 : F7 s2.heap.objs.size = none := by
          cases q : F7 s2.heap.objs.size with
          | none => rfl
          | some o =>
            rcases st7.fresh _ o q with z | z
            · rw [hDF] at z; cases z
            · have := some6 _ (List.mem_cons_self ..); rw [z] at this; cases this
        have x8 : ExtX [s2.heap.objs.size] F7 F7 s7 { s7 with heap := h8, toks := s7.toks + 1 } := ⟨fun a o ha e => hs8.extBut a o (by simpa using ha) e, fun a o e => hs8.extBut a o (fun z => by rw [z, hF7] at e; cases e) (x7.sub a o e), Fz.le.refl _, fun _ _ e => .inl e, rfl, rfl⟩
        have st8 := st7.tick (x8.more fun a ha => by simp at ha; rw [ha]; exact List.mem_cons_self ..) some6 hCw
        refine ⟨ds.length - (i + 1), by omega, i + 1, F7, bUpd (bUpd B' (s2.heap.objs.size :: wr) s4.heap) (s2.heap.objs.size :: wr) h8, ys ++ [u], o8, rfl, hlt, ?_, ?_, ?_, ho8, ?_, ?_, ?_⟩
        · refine K.frame _ _ _ si3 (fun a o e => ?_) fun b hb o e => ?_
          · exact x8.sub a o (st7.le a o e)
          · exact hs8.extBut b o (fun z => hD (z ▸ hb)) (x7.old b o (x6.old b o (base5 b (List.mem_cons_of_mem _ hb) o e)))
        · intro b hb
          rw [bUpd_in hb]
          rcases List.mem_cons.mp hb with rfl | hb
          · show (h8.get? _).isSome = true; rw [ho8]; rfl
          · obtain ⟨o, e⟩ := K.live _ _ si3 b hb
            show (h8.get? b).isSome = true
            rw [hs8.extBut b o (fun z => hD (z ▸ hb)) (x7.old b o (x6.old b o (base5 b (List.mem_cons_of_mem _ hb) o e)))]; rfl
        · intro a ha
          rw [bUpd_out ha]; exact out6 a ha
        · rw [tk1, List.map_append]; exact hmap8
        · rw [tk1, List.map_append]
          exact ((((hys.mono x3.le).mono le5).mono x6.le).mono x7.le).append ⟨r7, trivial⟩
        · exact st8.weak fun y V e => by
            rw [List.lookup_append]
            cases z : (bs ds[i]).lookup y with
            | none => simpa using e
            | some U =>
              exfalso
              have h1 := List.all_eq_true.mp (hbs _ hmem) _ (mem_of_lookup z)
              obtain ⟨e1, e2⟩ := imms_lookup e
              simp only [compOk, Bool.and_eq_true, List.all_eq_true, beq_iff_eq] at hok
              dsimp only at h1
              cases zz : cs.names.lookup y with
              | none => rw [zz] at h1; cases h1
              | some kk =>
                have := hok.2 _ (mem_of_lookup zz)
                rw [zz] at h1
                cases kk <;> simp [e1] at this h1
      · have hin : i = ds.length := by omega
        subst hin
        refine wpAny_mono (K.done s' F1 si' st'.sub st'.le (fun b hb => hF1 b (List.mem_cons_of_mem _ hb))) (fun rr s3 h3 => ?_) fun _ _ y => y
        obtain ⟨rfl, x3⟩ := h3
        have st3 := st'.tick (x3.more fun a ha => List.mem_cons_of_mem _ ha) hsome hCw
        have hacc3 : s3.heap.get? s2.heap.objs.size = some o := x3.old _ _ hD hacc
        obtain ⟨mm, hns⟩ := st3.fs.ns
        have hlocC : (cEnv cs env C).locals = C := rfl
        rw [hlocC] at hns
        have fr : ∀ a o, F1 a = some o → F a = some o ∨ s.heap.get? a = none := fun a o e => by
          rcases st'.fresh a o e with z | z
          · exact x.fresh a o z
          · right
            rw [← hout a (fun q => by have := hsome a q; rw [z] at this; cases this)]; exact z
        have ext : Ext F F1 s s3 := ⟨fun a o e => ?_, st3.sub, x.le.trans st3.le, fr, st3.gens, st3.os⟩
        · have : C ≠ s2.heap.objs.size := by rw [hCe]; exact Nat.succ_ne_self _
          rw [List.take_length] at hys hmap
          exact hRR _ C s3 F1 mm o ys ext hacc3 hmap hys hDs (hF1 _ (List.mem_cons_self ..)) hns hCs (st3.mf C (.inl hlocC.symm)) this
        · have ha : a ∉ s2.heap.objs.size :: wr := fun q => by rw [(hwr' a q).1] at e; cases e
          exact st3.base a o (by rw [bUpd_out ha, hout a ha]; exact e)
    · intro b hb
      rw [bUpd_in hb]
      rcases List.mem_cons.mp hb with rfl | hb
      · rw [accH]; rfl
      · obtain ⟨o, e⟩ := hlive b hb; rw [keepH b o e]; rfl
  refine codeAny_compStart_dict loop (K.self 0 _ _ _ ?_ loop)
  exact K.frame _ _ _ si (fun a o e => keepH a o (x.sub a o e)) (fun b hb o e => keepH b o e)
end Mine
end

/- L27 -/
section
open PySem
namespace Mine
variable {W : Wd} {sc cs : Scope} {ρ : Vs} {n : Nat} {B F0 F : Fz} {g : Array GenState} {os : OsState} {env : Env} {s : Shared}
theorem St.extB {F' : Fz} {s' : Shared} {C : Addr} {o : Obj} (st : St W B F0 g os env ρ F s) (x : Ext F F' s s') (hC : s'.heap.get? C = some o) (hs : s.heap.get? C = none) (hF : F' C = none) : St W (B.put C o) F0 g os env ρ F' s' := by
  have st' := st.ext x
  have hne : ∀ a p, s.heap.get? a = some p → a ≠ C := fun a p e q => by rw [q, hs] at e; cases e
  refine ⟨st'.sub, st'.gr, st'.kind, st'.glob, st'.bui, st'.fs, fun a p e => ?_, fun a m => ?_, st'.mf, st'.le, fun a p e => ?_, st'.imm, fun y V h k => ?_, st'.own1, st'.gens, st'.os⟩
  · by_cases q : a = C
    · subst q; rw [Fz.put_self] at e; cases e; exact hC
    · rw [Fz.put_ne _ _ q] at e; exact st'.base a p e
  · obtain ⟨p, e⟩ := st.fs.live m
    rw [Fz.put_ne _ _ (hne a p e)]; exact st.mb a m
  · by_cases q : a = C
    · subst q; rw [hF] at e; cases e
    · rw [Fz.put_ne _ _ q]; exact st'.fresh a p e
  · obtain ⟨v, a, l, r, b, f, m⟩ := st.own y V h k
    obtain ⟨p, e⟩ := r.live
    exact ⟨v, a, l.keeps x.old, r.move x.le (fun o e => x.old a o e), by rw [Fz.put_ne _ _ (hne a p e)]; exact b, x.stays e f, m⟩
theorem Ns_at {h : Heap} {C : Addr} {m : Str → Option Value} (x : h.Ns C m) : ∃ o, h.get? C = some o ∧ ∀ h' : Heap, h'.get? C = some o → h'.Ns C m := by
  obtain ⟨o, es, ep, ho, r⟩ := x
  exact ⟨o, ho, fun h' e => ⟨o, es, ep, e, r⟩⟩
/-- y = [.. for ..], y a plain name of the frame -/
theorem X1.assignComp {y : Str} {py spos : Pos} {elt tgt iter : Expr} {ifs : List Expr} {pos : Pos} {ds : List D} {Rr : D → Prop} (p : D → Bool) (r : D → D) (bs : D → Vs) (hok : compOk sc cs ρ = true) (hIt : It W sc ρ n iter tgt ds) (hlen : ds.length ≤ 10000)
    (hAs : ∀ d ∈ ds, As W (relab sc cs) n tgt d (bs d)) (hbs : ∀ d ∈ ds, ownNames cs (bs d) = true)
    (hel : ∀ d ∈ ds, EvTs W (relab sc cs) (bs d ++ imms ρ) n ifs (p d) ∧ (p d = true → Ev W (relab sc cs) (bs d ++ imms ρ) n elt (r d)))
    (hy : storable sc y = true) (hfold : ∀ env x, foldedSetIterable iter env x = pure x)
    (hsw : ∀ env, env.scope = sc → swapsWith (.ListComp elt [⟨tgt, iter, ifs, 0⟩] cs pos) (some (.Name y py)) spos.line env = pure true) :
    X1 W sc ρ n (.Assign [.Name y py] (.ListComp elt [⟨tgt, iter, ifs, 0⟩] cs pos) spos) (fun z => z = (y, .d (.list ((ds.filter p).map r))) :: ρ) Rr := fun env A B F0 g os F s hE hA st => by
  rw [exec_Assign_Name_used _ _ _ _ (hsw env hE.scope)]
  have c := st.ctx
  have hs := hE.scope
  refine wpAny_bind (wpAny_standAt (wpAny_bind ?_))
  show wpAny _ A (do let _ ← comprehension (.ListComp elt [⟨tgt, iter, ifs, 0⟩] cs pos) cs env _ (newList []) false (eval iter env) (some (PySem.assign (.Name y py) env))) _ _ s
  refine wpAny_bind (wpAny_mono (wpAny_comprehension_free (use := some (PySem.assign (.Name y py) env)) (Q := fun _ s' => Post W B F0 g os env (fun z => z = (y, .d (.list ((ds.filter p).map r))) :: ρ) Rr .next s') rfl (hfold env) (closureFor_eq (clos_some hok hs c)) (ok_kind hok) (ok_names hok)
    (wpAny_mono (hIt env A F s hs hA c) (fun xv s1 h1 => wpAny_mono h1 (fun it s2 h2 => ?_) fun _ _ y => y) fun _ _ y => y)) (fun _ s' hq => wpAny_pure (wpAny_pure hq)) fun _ _ e => e)
  obtain ⟨F2, I, wr, Si, rfl, x, K, si, hwr⟩ := h2
  refine comp_list_run (RR := fun acc C => compPost (model W.prog W.w) A (fun _ _ => False) (some (PySem.assign (.Name y py) env)) _ acc C) hA hok hs c x K si hwr hlen hAs hbs hel fun a C s' F'' m ex rd ns hC hF => ?_
  show wpAny _ A (PySem.assign (.Name y py) env (.ref a)) _ _ s'
  obtain ⟨o, ho, hn⟩ := Ns_at ns
  refine wpAny_assign_Name ((st.extB ex ho hC hF).store (hs ▸ hy) (hE.above y) rd fun s5 st5 => ?_)
  have ho5 : s5.heap.get? C = some o := st5.base C o (Fz.put_self ..)
  refine ⟨m, hn s5.heap ho5, fun h' hs' => ?_⟩
  have hBC : B C = none := st.base.none hC
  have x9 : ExtX [C] F'' F'' s5 { s5 with heap := h' } := ⟨fun a o ha e => hs'.extBut a o (by simpa using ha) e, fun a o e => hs'.extBut a o (fun z => by rw [z, hF] at e; cases e) (st5.sub a o e), Fz.le.refl _, fun _ _ e => .inl e, rfl, rfl⟩
  have st6 := st5.tick x9 (fun b hb => by simp at hb; rw [hb, Fz.put_self]; rfl) (fun y' cc e m => by
    obtain ⟨v, o', ho', _⟩ := st.fs.cell y' cc e
    simp at m; rw [m, hC] at ho'; cases ho')
  refine ⟨_, F'', rfl, st6.lessB fun b o' e => ?_⟩
  have hb : b ≠ C := fun q => by rw [q, hBC] at e; cases e
  rw [bUpd_out (by simpa using hb), Fz.put_ne _ _ hb]; exact e
theorem X1.assignCompM {α : Type} {ρ' : Vs} {y : Str} {py spos : Pos} {elt tgt iter : Expr} {ifs : List Expr} {pos : Pos} {Rr : D → Prop} (f : α → D) (hf : ∀ x y, f x = f y → x = y) (xs : List α) (p : α → Bool) (r : α → D) (bs : α → Vs) (hsub : SubE ρ' ρ) (himm : ρ'.all (fun p => !p.2.own) = true) (hok : compOk sc cs ρ = true)
    (hIt : It W sc ρ n iter tgt (xs.map f)) (hlen : xs.length ≤ 10000)
    (hAs : ∀ x ∈ xs, As W (relab sc cs) n tgt (f x) (bs x)) (hbs : ∀ x ∈ xs, ownNames cs (bs x) = true)
    (hel : ∀ x ∈ xs, EvTs W (relab sc cs) (bs x ++ ρ') n ifs (p x) ∧ (p x = true → Ev W (relab sc cs) (bs x ++ ρ') n elt (r x)))
    (hy : storable sc y = true) (hfold : ∀ env x, foldedSetIterable iter env x = pure x)
    (hsw : ∀ env, env.scope = sc → swapsWith (.ListComp elt [⟨tgt, iter, ifs, 0⟩] cs pos) (some (.Name y py)) spos.line env = pure true) :
    X1 W sc ρ n (.Assign [.Name y py] (.ListComp elt [⟨tgt, iter, ifs, 0⟩] cs pos) spos) (fun z => z = (y, .d (.list ((xs.filter p).map r))) :: ρ) Rr := by
  classical
  let g : D → Option α := fun d => if h : ∃ x, f x = d then some (Classical.choose h) else none
  have hg : ∀ x, g (f x) = some x := fun x => by
    have h : ∃ y, f y = f x := ⟨x, rfl⟩
    show (if h : ∃ y, f y = f x then some (Classical.choose h) else none) = some x
    rw [dif_pos h]
    exact congrArg some (hf _ _ (Classical.choose_spec h))
  have key := X1.assignComp (W := W) (sc := sc) (cs := cs) (ρ := ρ) (n := n) (elt := elt) (tgt := tgt) (iter := iter) (ifs := ifs) (pos := pos) (ds := xs.map f) (Rr := Rr) (fun d => ((g d).map p).getD false) (fun d => ((g d).map r).getD d) (fun d => ((g d).map bs).getD []) hok hIt (by simpa using hlen)
    (fun d hd => by
      obtain ⟨x, hx, rfl⟩ := List.mem_map.mp hd
      rw [hg]; exact hAs x hx)
    (fun d hd => by
      obtain ⟨x, hx, rfl⟩ := List.mem_map.mp hd
      rw [hg]; exact hbs x hx)
    (fun d hd => by
      obtain ⟨x, hx, rfl⟩ := List.mem_map.mp hd
      rw [hg]
      simp only [Option.map_some, Option.getD_some]
      have hs := sub_append (imms_sub hsub himm) (bs x)
      exact ⟨(hel x hx).1.weak hs, fun q => ((hel x hx).2 q).weak hs⟩) hy hfold hsw
  have e : ((xs.map f).filter fun d => ((g d).map p).getD false).map (fun d => ((g d).map r).getD d) = (xs.filter p).map r := by
    rw [List.filter_map, List.map_map]
    have e1 : (fun d => ((g d).map p).getD false) ∘ f = p := by funext x; simp [hg]
    have e2 : (fun d => ((g d).map r).getD d) ∘ f = r := by funext x; simp [hg]
    rw [e1, e2]
  rw [e] at key; exact key
/-- {key: value for ..} -/
theorem EvO.dictCompM {α : Type} {ρ' : Vs} {kx vx tgt iter : Expr} {pos : Pos} (f : α → D) (hf : ∀ x y, f x = f y → x = y) (xs : List α) (key : α → Str) (r : α → D) (bs : α → Vs) (hsub : SubE ρ' ρ) (himm : ρ'.all (fun p => !p.2.own) = true) (hok : compOk sc cs ρ = true)
    (hIt : It W sc ρ n iter tgt (xs.map f)) (hlen : xs.length ≤ 10000) (hnd : (xs.map key).Nodup)
    (hAs : ∀ x ∈ xs, As W (relab sc cs) n tgt (f x) (bs x)) (hbs : ∀ x ∈ xs, ownNames cs (bs x) = true)
    (hel : ∀ x ∈ xs, Ev W (relab sc cs) (bs x ++ ρ') n kx (.str (key x)) ∧ Ev W (relab sc cs) (bs x ++ ρ') n vx (r x))
    (hfold : ∀ env x, foldedSetIterable iter env x = pure x) : EvO W sc ρ n (.DictComp kx vx [⟨tgt, iter, [], 0⟩] cs pos) (.od (xs.map key) (xs.map r)) := fun env A F s hs hA c => by
  classical
  let g : D → Option α := fun d => if h : ∃ x, f x = d then some (Classical.choose h) else none
  have hg : ∀ x, g (f x) = some x := fun x => by
    have h : ∃ y, f y = f x := ⟨x, rfl⟩
    show (if h : ∃ y, f y = f x then some (Classical.choose h) else none) = some x
    rw [dif_pos h]
    exact congrArg some (hf _ _ (Classical.choose_spec h))
  have e1 : (xs.map f).map (fun d => ((g d).map key).getD Str.empty) = xs.map key := by
    rw [List.map_map]; congr 1; funext x; simp [hg]
  have e2 : (xs.map f).map (fun d => ((g d).map r).getD d) = xs.map r := by
    rw [List.map_map]; congr 1; funext x; simp [hg]
  rw [arm_eval_DictComp]
  refine wpAny_comprehension_free (use := none) rfl (hfold env) (closureFor_eq (clos_some hok hs c)) (ok_kind hok) (ok_names hok) (wpAny_mono (hIt env A F s hs hA c) (fun xv s1 h1 => wpAny_mono h1 (fun it s2 h2 => ?_) fun _ _ y => y) fun _ _ y => y)
  obtain ⟨F2, I, wr, Si, rfl, x, K, si, hwr⟩ := h2
  refine comp_dict_run (ds := xs.map f) (key := fun d => ((g d).map key).getD Str.empty) (r := fun d => ((g d).map r).getD d) (bs := fun d => ((g d).map bs).getD []) (RR := fun acc C => compPost (model W.prog W.w) A (fun _ _ => False) none _ acc C) hA hok hs c x K si hwr (by simpa using hlen)
    (fun d hd => by
      obtain ⟨x, hx, rfl⟩ := List.mem_map.mp hd
      rw [hg]; exact hAs x hx)
    (fun d hd => by
      obtain ⟨x, hx, rfl⟩ := List.mem_map.mp hd
      rw [hg]; exact hbs x hx) (by rw [e1]; exact hnd)
    (fun d hd => by
      obtain ⟨x, hx, rfl⟩ := List.mem_map.mp hd
      rw [hg]
      simp only [Option.map_some, Option.getD_some]
      have hs := sub_append (imms_sub hsub himm) (bs x)
      exact ⟨(hel x hx).1.weak hs, (hel x hx).2.weak hs⟩) fun a C s' F'' m o vs ex ha hm hr hn hF ns hC hFC hCa => ?_
  rw [e1] at hm
  rw [e2] at hr
  refine ⟨m, ns, fun h' hs' => ⟨F'', a, ⟨fun b o e => hs'.extBut b o (fun z => by rw [z, hC] at e; cases e) (ex.old b o e), fun b o e => hs'.extBut b o (fun z => by rw [z, hFC] at e; cases e) (ex.sub b o e), ex.le, ex.fresh, ex.gens, ex.os⟩, ⟨o, vs, rfl, hs'.extBut a o (Ne.symm hCa) ha, hm, hr⟩, hn, hF⟩⟩
theorem X1.weakJ {a : Stmt} {Rm Rn : Vs → Prop} {Rr : D → Prop} (h : X1 W sc ρ n a Rm Rr) (hw : ∀ ρ', Rm ρ' → Rn ρ') : X1 W sc ρ n a Rn Rr := fun env A B F0 g os F s hE hA st =>
  wpAny_mono (h env A B F0 g os F s hE hA st) (fun fl s' hp => hp.mono hw fun _ x => x) fun _ _ y => y
end Mine
end

/- M3 -/
section
open PySem
namespace Mine
/- the words that come of a name -/
def LtrL (w : List Nat) : Prop := ∀ c ∈ w, Ltr c
def Nm (c : Nat) : Prop := c = 83 ∨ c = 84 ∨ c = 115 ∨ c = 116
theorem Ltr.no {c : Nat} (h : Ltr c) (h' : Nm c) : False := by unfold Ltr at h; unfold Nm at h'; omega
abbrev Gr := List (Nat × List Nat)
def rulesOf (rs : Gr) (nm : Nat) : List (List Nat) := (rs.filter fun r => upc r.1 == nm).map (·.2)
inductive Gen (rs : Gr) : List Nat → List Nat → Prop
  | done {w : List Nat} : LtrL w → Gen rs w w
  | step {p s v w : List Nat} {c : Nat} : LtrL p → Nm c → v ∈ rulesOf rs (upc c) → Gen rs (p ++ v ++ s) w → Gen rs (p ++ c :: s) w
variable {rs : Gr}
theorem LtrL.app {u v : List Nat} (h : LtrL u) (h' : LtrL v) : LtrL (u ++ v) := fun c hc => (List.mem_append.mp hc).elim (h c) (h' c)
theorem LtrL.l {u v : List Nat} (h : LtrL (u ++ v)) : LtrL u := fun c hc => h c (List.mem_append.mpr (.inl hc))
theorem LtrL.r {u v : List Nat} (h : LtrL (u ++ v)) : LtrL v := fun c hc => h c (List.mem_append.mpr (.inr hc))
theorem Gen.ltr {r w : List Nat} (h : Gen rs r w) : LtrL w := by
  induction h with
  | done h => exact h
  | step _ _ _ _ ih => exact ih
theorem lead_unique : ∀ {p p' : List Nat} {c c' : Nat} {s s' : List Nat}, LtrL p → LtrL p' → Nm c → Nm c' → p ++ c :: s = p' ++ c' :: s' → p = p' ∧ c = c' ∧ s = s'
  | [], [], c, c', s, s', _, _, _, _, e => by simp at e; exact ⟨rfl, e.1, e.2⟩
  | [], x :: p', c, c', s, s', _, h', hc, _, e => by
    simp at e
    exact ((h' x (by simp)).no (e.1 ▸ hc)).elim
  | x :: p, [], c, c', s, s', h, _, _, hc', e => by
    simp at e
    exact ((h x (by simp)).no (e.1 ▸ hc')).elim
  | x :: p, y :: p', c, c', s, s', h, h', hc, hc', e => by
    simp only [List.cons_append, List.cons.injEq] at e
    obtain ⟨e1, e2, e3⟩ := lead_unique (fun a ha => h a (List.mem_cons_of_mem _ ha)) (fun a ha => h' a (List.mem_cons_of_mem _ ha)) hc hc' e.2
    exact ⟨by rw [e.1, e1], e2, e3⟩
theorem Gen.inv_ltr {r w : List Nat} (hr : LtrL r) (h : Gen rs r w) : w = r := by
  cases h with
  | done _ => rfl
  | @step p s v _ c _ hc _ _ => exact ((hr c (by simp)).no hc).elim
theorem Gen.inv {p s w : List Nat} {c : Nat} (hp : LtrL p) (hc : Nm c) (h : Gen rs (p ++ c :: s) w) : ∃ v ∈ rulesOf rs (upc c), Gen rs (p ++ v ++ s) w := by
  generalize hr : p ++ c :: s = r at h
  cases h with
  | done hw => subst hr; exact ((hw c (by simp)).no hc).elim
  | @step p' s' v _ c' hp' hc' hv h =>
    obtain ⟨rfl, rfl, rfl⟩ := lead_unique hp hp' hc hc' hr
    exact ⟨v, hv, h⟩
theorem Gen.len (hne : ∀ nm, ∀ v ∈ rulesOf rs nm, 1 ≤ v.length) {r w : List Nat} (h : Gen rs r w) : r.length ≤ w.length := by
  induction h with
  | done _ => exact Nat.le_refl _
  | @step p s v w c _ _ hv _ ih =>
    have := hne _ v hv
    simp only [List.length_append, List.length_cons] at ih ⊢
    omega
theorem Gen.pre {u : List Nat} (hu : LtrL u) {v w : List Nat} (h : Gen rs v w) : Gen rs (u ++ v) (u ++ w) := by
  induction h with
  | done h => exact .done (hu.app h)
  | @step p s v w c hp hc hv _ ih =>
    rw [← List.append_assoc]
    refine .step (hu.app hp) hc hv ?_
    simpa [List.append_assoc] using ih
theorem Gen.app {u v w1 w2 : List Nat} (h : Gen rs u w1) (h' : Gen rs v w2) : Gen rs (u ++ v) (w1 ++ w2) := by
  induction h with
  | done h => exact h'.pre h
  | @step p s x w c hp hc hv _ ih =>
    rw [List.append_assoc, List.cons_append]
    refine .step hp hc hv ?_
    simpa [List.append_assoc] using ih
/- what is asked of the rules -/
def Lin (v : List Nat) : Prop := ∃ p c s, v = p ++ c :: s ∧ LtrL p ∧ LtrL s ∧ Nm c ∧ 1 ≤ p.length + s.length ∧ p.length + s.length ≤ 2
def GOk (rs : Gr) : Prop := ∀ nm, nm = 83 ∨ nm = 84 → ∃ a v1 v2, rulesOf rs nm = [[a], v1, v2] ∧ Ltr a ∧ Lin v1 ∧ Lin v2
theorem upc_nm {c : Nat} (h : Nm c) : upc c = 83 ∨ upc c = 84 := by
  rcases h with rfl | rfl | rfl | rfl <;> decide
theorem Lin.len {v : List Nat} (h : Lin v) : 2 ≤ v.length ∧ v.length ≤ 3 := by
  obtain ⟨p, c, s, rfl, _, _, _, h1, h2⟩ := h
  simp only [List.length_append, List.length_cons]; omega
def isL (c : Nat) : Bool := c == 97 || c == 65 || c == 98 || c == 66
theorem isL_iff {c : Nat} : isL c = true ↔ Ltr c := by simp [isL, Ltr, or_assoc]
theorem allL {r : List Nat} : r.all isL = true ↔ LtrL r := by
  rw [List.all_eq_true]; exact ⟨fun h c hc => isL_iff.mp (h c hc), fun h c hc => isL_iff.mpr (h c hc)⟩
def Frm (r : List Nat) : Prop := LtrL r ∨ ∃ p c s, r = p ++ c :: s ∧ LtrL p ∧ LtrL s ∧ Nm c
def wt (r : List Nat) : Nat := if r.all isL = true then 1 else 3 ^ (7 - r.length)
theorem wt_pos (r : List Nat) : 1 ≤ wt r := by
  unfold wt; split
  · omega
  · exact Nat.one_le_pow _ _ (by omega)
theorem wt_ltr {r : List Nat} (h : LtrL r) : wt r = 1 := by unfold wt; rw [if_pos (allL.mpr h)]
theorem wt_le (r : List Nat) : wt r ≤ 3 ^ (7 - r.length) := by
  unfold wt; split
  · exact Nat.one_le_pow _ _ (by omega)
  · exact Nat.le_refl _
theorem wt_nm {p s : List Nat} {c : Nat} (hc : Nm c) : wt (p ++ c :: s) = 3 ^ (7 - (p ++ c :: s).length) := by
  unfold wt
  rw [if_neg]
  intro h
  exact ((allL.mp h) c (by simp)).no hc
theorem sum_ge : ∀ l : List (List Nat), l.length ≤ (l.map wt).sum
  | [] => by simp
  | r :: l => by
    have := sum_ge l
    have := wt_pos r
    simp only [List.length_cons, List.map_cons, List.sum_cons]; omega
structure SI (rs : Gr) (nm : Nat) (tx : List Nat) (rows : List (List Nat)) (a : Nat) (best : Int) (word : List Nat) (m : Nat) : Prop where
  le : a ≤ rows.length
  me : m = ((rows.drop a).map wt).sum
  cap : a + m ≤ 729
  frm : ∀ r ∈ rows, Frm r ∧ r.length ≤ 7
  sound : ∀ r ∈ rows, ∀ w, Gen rs r w → Gen rs [nm] w
  cover : ∀ w, Gen rs [nm] w → (∀ k, Al tx w k → best ≤ k) ∨ ∃ r ∈ rows.drop a, Gen rs r w
  ph : (a = 0 ∧ rows = [[nm]] ∧ best = 99) ∨ (a = 1 ∧ (∃ c rest, rows = [nm] :: [c] :: rest ∧ Ltr c) ∧ best = 99) ∨ (best ≤ 6 ∧ Gen rs [nm] word ∧ Mn tx word best)
variable {nm : Nat} {tx : List Nat} {rows : List (List Nat)} {a : Nat} {best : Int} {word : List Nat} {m : Nat}
theorem SI.start (hnm : nm = 83 ∨ nm = 84) (word : List Nat) : SI rs nm tx [[nm]] 0 99 word 729 where
  le := by simp
  me := by
    have hc : Nm nm := by rcases hnm with rfl | rfl <;> simp [Nm]
    have := wt_nm (p := []) (s := []) hc
    simp only [List.nil_append] at this
    simp [this]
  cap := by omega
  frm := fun r hr => by
    simp at hr; subst hr
    have hc : Nm nm := by rcases hnm with rfl | rfl <;> simp [Nm]
    exact ⟨.inr ⟨[], nm, [], rfl, by simp [LtrL], by simp [LtrL], hc⟩, by simp⟩
  sound := fun r hr w h => by simp at hr; subst hr; exact h
  cover := fun w h => .inr ⟨[nm], by simp, h⟩
  ph := .inl ⟨rfl, rfl, rfl⟩
theorem SI.rows_le (h : SI rs nm tx rows a best word m) : rows.length ≤ 729 := by
  have h1 := sum_ge (rows.drop a)
  have h2 := h.me
  have h3 := h.cap
  have h4 := h.le
  rw [List.length_drop] at h1
  omega
theorem drop_at {r : List Nat} (hr : rows[a]? = some r) : rows.drop a = r :: rows.drop (a + 1) := by
  obtain ⟨h, e⟩ := List.getElem?_eq_some_iff.mp hr
  rw [List.drop_eq_getElem_cons h, e]
/-- a row is passed by: no word of it is nearer -/
theorem SI.pass {r : List Nat} (h : SI rs nm tx rows a best word m) (hr : rows[a]? = some r) {best' : Int} {word' : List Nat} (hb : best' ≤ best) (hw : ∀ w, Gen rs r w → ∀ k, Al tx w k → best' ≤ k)
    (hph : best' ≤ 6 ∧ Gen rs [nm] word' ∧ Mn tx word' best') : ∃ m', m' < m ∧ SI rs nm tx rows (a + 1) best' word' m' := by
  have hd := drop_at hr
  have hlt : a < rows.length := (List.getElem?_eq_some_iff.mp hr).1
  have h1 := h.me
  rw [hd, List.map_cons, List.sum_cons] at h1
  have := wt_pos r
  have h3 := h.cap
  refine ⟨_, ?_, ⟨hlt, rfl, ?_, h.frm, h.sound, fun w g => ?_, .inr (.inr hph)⟩⟩
  · omega
  · omega
  · rcases h.cover w g with q | ⟨r', hr', g'⟩
    · exact .inl fun k x => Int.le_trans hb (q k x)
    · rw [hd] at hr'
      rcases List.mem_cons.mp hr' with rfl | hr'
      · exact .inl (hw w g')
      · exact .inr ⟨r', hr', g'⟩
theorem one_cost {c : Nat} {tx : List Nat} (h1 : 1 ≤ tx.length) (h3 : tx.length ≤ 3) : ∃ k, k ≤ 6 ∧ Al tx [c] k := by
  cases tx with
  | nil => simp at h1
  | cons x t =>
    have := subc_le x c
    simp only [List.length_cons] at h3
    exact ⟨_, by omega, Al.sub x c (Al.del_all t)⟩
theorem SI.wordStep {r : List Nat} {cost : Int} (h : SI rs nm tx rows a best word m) (h1 : 1 ≤ tx.length) (h3 : tx.length ≤ 3) (hr : rows[a]? = some r) (hl : LtrL r) (hnm : nm = 83 ∨ nm = 84) (hc : LevOk tx r (best - 1) cost) :
    (cost < best → ∃ m', m' < m ∧ SI rs nm tx rows (a + 1) cost r m') ∧ (¬ cost < best → ∃ m', m' < m ∧ SI rs nm tx rows (a + 1) best word m') := by
  have hmem : r ∈ rows := List.mem_of_getElem? hr
  have g0 : Gen rs [nm] r := h.sound r hmem r (.done hl)
  have ph6 : (∃ c, r = [c]) ∧ best = 99 ∨ best ≤ 6 ∧ Gen rs [nm] word ∧ Mn tx word best := by
    rcases h.ph with ⟨rfl, rfl, _⟩ | ⟨rfl, ⟨c, rest, rfl, _⟩, hb⟩ | q
    · simp at hr; subst hr
      have := hl nm (by simp)
      exact (this.no (by rcases hnm with rfl | rfl <;> simp [Nm])).elim
    · simp at hr; exact .inl ⟨⟨c, hr.symm⟩, hb⟩
    · exact .inr q
  refine ⟨fun q => ?_, fun q => ?_⟩
  · have hM : Mn tx r cost := by
      rcases hc with hc | ⟨e, _⟩
      · exact hc
      · omega
    refine h.pass hr (Int.le_of_lt q) (fun w g k x => ?_) ⟨?_, g0, hM⟩
    · have := Gen.inv_ltr hl g; subst this
      exact hM.2 k x
    · rcases ph6 with ⟨⟨c, rfl⟩, _⟩ | ⟨p, _⟩
      · obtain ⟨k, hk, x⟩ := one_cost (c := c) h1 h3
        exact Int.le_trans (hM.2 k x) hk
      · omega
  · have lo : ∀ k, Al tx r k → best ≤ k := fun k x => by
      rcases hc with hc | ⟨e, hc⟩
      · have := hc.2 k x; omega
      · have := hc k x; omega
    rcases ph6 with ⟨⟨c, rfl⟩, e⟩ | p
    · obtain ⟨k, hk, x⟩ := one_cost (c := c) h1 h3
      have := lo k x; omega
    · refine h.pass hr (Int.le_refl _) (fun w g k x => ?_) p
      have := Gen.inv_ltr hl g; subst this
      exact lo k x
theorem GOk.nonempty (h : GOk rs) : ∀ c, Nm c → ∀ v ∈ rulesOf rs (upc c), 1 ≤ v.length ∧ v.length ≤ 3 := fun c hc v hv => by
  obtain ⟨x, v1, v2, e, _, h1, h2⟩ := h _ (upc_nm hc)
  rw [e] at hv
  have := h1.len
  have := h2.len
  simp at hv
  rcases hv with rfl | rfl | rfl
  · simp
  · omega
  · omega
theorem Gen.len' (hg : GOk rs) {r w : List Nat} (h : Gen rs r w) : r.length ≤ w.length := by
  induction h with
  | done _ => exact Nat.le_refl _
  | @step p s v w c _ hc hv _ ih =>
    have := hg.nonempty c hc v hv
    simp only [List.length_append, List.length_cons] at ih ⊢
    omega
theorem SI.no1 {p s : List Nat} {c : Nat} (h : SI rs nm tx rows a best word m) (hc : Nm c) (hr : rows[a]? = some (p ++ c :: s)) : (a = 0 ∧ rows = [[nm]] ∧ best = 99 ∧ p = [] ∧ s = [] ∧ c = nm) ∨ (best ≤ 6 ∧ Gen rs [nm] word ∧ Mn tx word best) := by
  rcases h.ph with ⟨rfl, rfl, hb⟩ | ⟨rfl, ⟨x, rest, rfl, hx⟩, _⟩ | q
  · simp at hr
    have hl := congrArg List.length hr
    simp at hl
    obtain rfl : p = [] := List.length_eq_zero_iff.mp (by omega)
    obtain rfl : s = [] := List.length_eq_zero_iff.mp (by omega)
    simp at hr
    exact .inl ⟨rfl, rfl, hb, rfl, rfl, hr.symm⟩
  · simp at hr
    have : c ∈ [x] := by rw [hr]; simp
    simp at this
    subst this
    exact (hx.no hc).elim
  · exact .inr q
theorem SI.prune {p s : List Nat} {c : Nat} (hg : GOk rs) (h : SI rs nm tx rows a best word m) (hc : Nm c) (h1 : 1 ≤ tx.length) (hr : rows[a]? = some (p ++ c :: s)) (hq : ¬ 2 * (((p ++ c :: s).length : Int) - tx.length) < best) :
    ∃ m', m' < m ∧ SI rs nm tx rows (a + 1) best word m' := by
  rcases h.no1 hc hr with ⟨_, _, rfl, rfl, rfl, rfl⟩ | q
  · simp at hq; omega
  · refine h.pass hr (Int.le_refl _) (fun w g k x => ?_) q
    have l1 := g.len' hg
    have l2 := x.symm.len
    omega
theorem SI.expand {p s : List Nat} {c : Nat} (hg : GOk rs) (h : SI rs nm tx rows a best word m) (hp : LtrL p) (hs : LtrL s) (hc : Nm c) (h3 : tx.length ≤ 3) (hnm : nm = 83 ∨ nm = 84) (hr : rows[a]? = some (p ++ c :: s)) (hq : 2 * (((p ++ c :: s).length : Int) - tx.length) < best) :
    ∃ m', m' < m ∧ SI rs nm tx (rows ++ (rulesOf rs (upc c)).map fun v => p ++ v ++ s) (a + 1) best word m' := by
  have hd := drop_at hr
  have hlt : a < rows.length := (List.getElem?_eq_some_iff.mp hr).1
  have hmem : p ++ c :: s ∈ rows := List.mem_of_getElem? hr
  have h1 := h.me
  rw [hd, List.map_cons, List.sum_cons, wt_nm hc] at h1
  have hcap := h.cap
  have hph := h.no1 hc hr
  have hl5 : (p ++ c :: s).length ≤ 5 := by
    rcases hph with ⟨_, _, _, rfl, rfl, rfl⟩ | ⟨q, _⟩
    · simp
    · omega
  obtain ⟨x, v1, v2, e, hx, L1, L2⟩ := hg _ (upc_nm hc)
  have hdrop : (rows ++ (rulesOf rs (upc c)).map fun v => p ++ v ++ s).drop (a + 1) = rows.drop (a + 1) ++ (rulesOf rs (upc c)).map fun v => p ++ v ++ s := by
    rw [List.drop_append_of_le_length (by omega)]
  have frmL : ∀ v, Lin v → Frm (p ++ v ++ s) ∧ (p ++ v ++ s).length ≤ 7 ∧ wt (p ++ v ++ s) ≤ 3 ^ (6 - (p ++ c :: s).length) := fun v L => by
    have hlen := L.len
    have l1 : (p ++ v ++ s).length = (p ++ c :: s).length - 1 + v.length := by simp only [List.length_append, List.length_cons]; omega
    obtain ⟨p', c', s', rfl, hp', hs', hc', _, _⟩ := L
    refine ⟨.inr ⟨p ++ p', c', s' ++ s, by simp, hp.app hp', hs'.app hs, hc'⟩, by omega, ?_⟩
    refine Nat.le_trans (wt_le _) (Nat.pow_le_pow_right (by omega) ?_)
    have : 1 ≤ (p ++ c :: s).length := by simp; omega
    omega
  have hw1 := frmL v1 L1
  have hw2 := frmL v2 L2
  have hw0 : wt (p ++ [x] ++ s) = 1 := wt_ltr ((hp.app (fun y hy => by simp at hy; exact hy ▸ hx)).app hs)
  have hl1 : 1 ≤ (p ++ c :: s).length := by simp; omega
  have hpow : 3 ^ (7 - (p ++ c :: s).length) = 3 * 3 ^ (6 - (p ++ c :: s).length) := by
    rw [show 7 - (p ++ c :: s).length = (6 - (p ++ c :: s).length) + 1 by omega, Nat.pow_succ]; omega
  have hpow2 : 3 ≤ 3 ^ (6 - (p ++ c :: s).length) := by
    have : 3 ^ 1 ≤ 3 ^ (6 - (p ++ c :: s).length) := Nat.pow_le_pow_right (by omega) (by omega)
    simpa using this
  have hsum : (((rulesOf rs (upc c)).map fun v => p ++ v ++ s).map wt).sum < 3 ^ (7 - (p ++ c :: s).length) := by
    rw [e]
    simp only [List.map_cons, List.map_nil, List.sum_cons, List.sum_nil]
    rw [hw0, hpow]
    have a1 := hw1.2.2
    have a2 := hw2.2.2
    omega
  refine ⟨_, ?_, ⟨?_, rfl, ?_, fun r hr' => ?_, fun r hr' w g => ?_, fun w g => ?_, ?_⟩⟩
  · rw [hdrop, List.map_append, List.sum_append]
    omega
  · rw [List.length_append]; omega
  · rw [hdrop, List.map_append, List.sum_append]
    omega
  · rcases List.mem_append.mp hr' with q | q
    · exact h.frm r q
    · rw [e] at q
      simp only [List.map_cons, List.map_nil, List.mem_cons, List.not_mem_nil, or_false] at q
      rcases q with rfl | rfl | rfl
      · refine ⟨.inl ((hp.app (fun y hy => by simp at hy; exact hy ▸ hx)).app hs), ?_⟩
        have : (p ++ [x] ++ s).length = (p ++ c :: s).length := by simp
        omega
      · exact ⟨hw1.1, hw1.2.1⟩
      · exact ⟨hw2.1, hw2.2.1⟩
  · rcases List.mem_append.mp hr' with q | q
    · exact h.sound r q w g
    · obtain ⟨v, hv, rfl⟩ := List.mem_map.mp q
      exact h.sound _ hmem w (.step hp hc hv g)
  · rw [hdrop]
    rcases h.cover w g with q | ⟨r', hr', g'⟩
    · exact .inl q
    · rw [hd] at hr'
      rcases List.mem_cons.mp hr' with rfl | hr'
      · obtain ⟨v, hv, g2⟩ := Gen.inv hp hc g'
        exact .inr ⟨_, List.mem_append.mpr (.inr (List.mem_map.mpr ⟨v, hv, rfl⟩)), g2⟩
      · exact .inr ⟨r', List.mem_append.mpr (.inl hr'), g'⟩
  · rcases hph with ⟨rfl, rfl, hb, rfl, rfl, rfl⟩ | q
    · exact .inr (.inl ⟨rfl, ⟨x, [v1, v2], by rw [e]; simp, hx⟩, hb⟩)
    · exact .inr (.inr q)
theorem SI.done (h : SI rs nm tx rows a best word m) (ha : ¬ a < rows.length) : best ≤ 6 ∧ Gen rs [nm] word ∧ Mn tx word best ∧ ∀ w, Gen rs [nm] w → ∀ k, Al tx w k → best ≤ k := by
  have hd : rows.drop a = [] := List.drop_eq_nil_of_le (by omega)
  have hc : ∀ w, Gen rs [nm] w → ∀ k, Al tx w k → best ≤ k := fun w g => by
    rcases h.cover w g with q | ⟨r, hr, _⟩
    · exact q
    · rw [hd] at hr; cases hr
  rcases h.ph with ⟨rfl, rfl, _⟩ | ⟨rfl, ⟨c, rest, rfl, _⟩, _⟩ | ⟨q1, q2, q3⟩
  · simp at ha
  · simp at ha
  · exact ⟨q1, q2, q3, hc⟩
end Mine
end

section
open PySem PySem.W
set_option maxRecDepth 100000
namespace Mine
local macro_rules | `(tactic| walk_at "m.dk1") => `(tactic| exact ⟨by kernel_rfl, by kernel_rfl, by kernel_rfl, by kernel_rfl, by kernel_rfl, by kernel_rfl, fun vals h => by (match vals, h with | [v], _ => kernel_rfl), by decide +kernel, by kernel_rfl, by kernel_rfl, by kernel_rfl, by kernel_rfl, by kernel_rfl, by kernel_rfl⟩)
local macro_rules | `(tactic| walk_at "m.dk2") => `(tactic| exact ⟨by kernel_rfl, by kernel_rfl, by kernel_rfl, by kernel_rfl, by kernel_rfl, by kernel_rfl, fun vals h => by (match vals, h with | [u, v], _ => kernel_rfl), by decide +kernel, by kernel_rfl, by kernel_rfl, by kernel_rfl, by kernel_rfl, by kernel_rfl, by kernel_rfl⟩)
local macro_rules | `(tactic| walk_at "m.dk3") => `(tactic| exact ⟨by kernel_rfl, by kernel_rfl, by kernel_rfl, by kernel_rfl, by kernel_rfl, by kernel_rfl, fun vals h => by (match vals, h with | [u, v, w], _ => kernel_rfl), by decide +kernel, by kernel_rfl, by kernel_rfl, by kernel_rfl, by kernel_rfl, by kernel_rfl, by kernel_rfl⟩)
local macro_rules | `(tactic| walk_at "m.lk") => `(tactic| first | (with_reducible exact lookup_cons_self) | ((with_reducible refine (lookup_cons_ne ?_).trans ?_); (focus decide +kernel); (focus walk_at "m.lk")))
local macro_rules | `(tactic| walk_at "m.nm") => `(tactic| ((with_reducible refine Ev.name ?_ ?_ ?_ ?_); (focus walk_at "m.lk"); (focus kernel_rfl); (focus kernel_rfl); (focus kernel_rfl)))
local macro_rules | `(tactic| walk_at "m.gi") => `(tactic| first
  | ((with_reducible refine Ev.gMove ‹_› ?_); kernel_rfl)
  | ((with_reducible refine Ev.gCase ‹_› ?_); kernel_rfl)
  | ((with_reducible refine Ev.gMax ‹_› ?_); kernel_rfl)
  | ((with_reducible refine Ev.gEnd ‹_› ?_); kernel_rfl)
  | ((with_reducible refine Ev.gNt ‹_› ?_); kernel_rfl))
local macro_rules | `(tactic| walk_at "m.sd") => `(tactic| first | exact Gw.nm ‹_› _ (by decide +kernel) | (intros; kernel_rfl))
local macro_rules | `(tactic| walk_at "m.om") => `(tactic| first | assumption | omega | (simp; done) | (simp; omega))
local macro_rules | `(tactic| walk_at "m.ev") => `(tactic| first
  | with_reducible exact Ev.int _ _ _
  | with_reducible exact Ev.noneC _ _
  | with_reducible exact Ev.boolC _ _ _
  | ((with_reducible refine Ev.strL _ ?_); decide +kernel)
  | walk_at "m.nm"
  | walk_at "m.gi"
  | ((with_reducible apply Ev.iadd); (focus walk_at "m.ev"); (focus walk_at "m.ev"))
  | ((with_reducible apply Ev.isub); (focus walk_at "m.ev"); (focus walk_at "m.ev"))
  | ((with_reducible apply Ev.imul); (focus walk_at "m.ev"); (focus walk_at "m.ev"); (focus walk_at "m.om"); (focus walk_at "m.om"))
  | ((with_reducible refine Ev.lenS ‹_› ?_ ?_); (focus walk_at "m.ev"); (focus walk_at "m.om"))
  | ((with_reducible refine Ev.lenL ‹_› ?_ ?_); (focus walk_at "m.ev"); (focus walk_at "m.om"))
  | ((with_reducible refine Ev.min2 ‹_› ?_ ?_); (focus walk_at "m.ev"); (focus walk_at "m.ev")))
local macro_rules | `(tactic| walk_at "m.es") => `(tactic| first
  | with_reducible exact Evs.nil
  | ((with_reducible refine Evs.cons ?_ ?_ ?_); (focus walk_at "m.ev"); (focus walk_at "m.es"); (focus (intros; kernel_rfl))))
local macro_rules | `(tactic| walk_at "m.sb") => `(tactic| repeat (first | exact SubE.nil | ((with_reducible refine SubE.cons ?_ ?_); (focus walk_at "m.lk"))))
/- L18 -/
section
open PySem PySem.W
set_option maxRecDepth 100000
variable {W : Wd} {sc : Scope} {ρ : Vs} {n : Nat}
theorem dk_lev : DefOk W 66 65 [(Str.ofString "a"), (Str.ofString "b"), (Str.ofString "max_cost")] := by walk_at "m.dk3"
def levR (a b : List Nat) (m : Int) (d : D) : Prop := ∃ r, d = .int r ∧ LevOk b a m r
def levE (a b : List Nat) (m : Int) : Vs := [((Str.ofString "a"), .d (.str (sOf a))), ((Str.ofString "b"), .d (.str (sOf b))), ((Str.ofString "max_cost"), .d (.int m))]
def outE (a b : List Nat) (m : Int) (row : List Int) (res : Int) : Vs := ((Str.ofString "row"), .ol (row.map .int)) :: ((Str.ofString "result"), .d (.int res)) :: levE a b m
def inE (a b : List Nat) (m : Int) (y : Nat) (row : List Int) (dist res mi : Int) : Vs := ((Str.ofString "row"), .ol (row.map .int)) :: ((Str.ofString "result"), .d (.int res)) :: ((Str.ofString "distance"), .d (.int dist)) :: ((Str.ofString "minimum"), .d (.int mi)) :: ((Str.ofString "bchar"), .d (.str (sOf [y]))) :: levE a b m
/-- the rows -/
theorem lev_rows (G : Gw W) {a b : List Nat} {m : Int} (ha : ∀ c ∈ a, Ltr c) (hb : ∀ c ∈ b, Ltr c) (ha0 : 0 < a.length) (hb0 : 0 < b.length) (la : a.length ≤ 40) (lb : b.length ≤ 40) :
    X W (scOf 66) (levE a b m) 2 ((bodyOf 66).drop 13) (fun _ => False) (levR a b m) := by
  conv => arg 5; whnf
  unfold levE
  with_reducible refine X.seq (X1.assignOwn (EvO.listRange (k := a.length) (a := 2) (b := 2 * ((a.length : Int) + 1)) (c := 2) (Ev.bui G.gd ?_ G.bli ?_ ?_) (Ev.range G (cl_range3 _ _ _ ?_ ?_ ?_) ?_) ?_ ?_ ?_ ?_ ?_) rfl ?_ ?_ ?_) ?_
  · walk_at "m.sd"
  · walk_at "m.sd"
  · walk_at "m.sd"
  · omega
  · omega
  · omega
  · walk_at "m.es"
  · exact small_of (by omega) (by omega) (.inr rfl)
  · unfold Builtin.Range.rangeSize; simp; omega
  · omega
  · intros; rfl
  · intros; rfl
  · kernel_rfl
  · exact noOwn_of (by kernel_rfl)
  · intros; rfl
  with_reducible refine X.seq (X1.assign (Ev.int 0 _ _) ?_ ?_) ?_
  · kernel_rfl
  · intros; rfl
  with_reducible refine X.weak (ρ' := outE a b m ((List.range a.length).map fun (i : Nat) => 2 + (i : Int) * 2) 0) ?_ ?_
  · show SubE _ _
    unfold outE levE
    rw [show ((List.range a.length).map fun (i : Nat) => 2 + (i : Int) * 2).map D.int = (List.range a.length).map fun (i : Nat) => D.int (2 + (i : Int) * 2) by rw [List.map_map]; rfl]
    walk_at "m.sb"
  with_reducible refine X.cons (X1.loop (J := fun i ρ => ∃ row res, LOut a b i row res ∧ ρ = outE a b m row res) (bs := fun i => [((Str.ofString "bindex"), .d (.int i))]) (It.range1 (k := b.length) G ?_ ?_) ?_ ⟨_, _, LOut.start a b a.length rfl, rfl⟩ ?_ ?_) fun ρ' h => ?_
  · unfold outE levE; walk_at "m.ev"
  · omega
  · intro i d hd
    obtain ⟨_, rfl⟩ := getElem_range_map hd
    exact As.name (by kernel_rfl)
  · intro i d ρ' hd hJ
    obtain ⟨hi, rfl⟩ := getElem_range_map hd
    obtain ⟨row, res, L, rfl⟩ := hJ
    obtain ⟨y, hy⟩ : ∃ y, b[i]? = some y := ⟨b[i], List.getElem?_eq_getElem hi⟩
    unfold outE levE
    show X W _ (((Str.ofString "bindex"), .d (.int i)) :: ((Str.ofString "row"), .ol (row.map .int)) :: ((Str.ofString "result"), .d (.int res)) :: ((Str.ofString "a"), .d (.str (sOf a))) :: ((Str.ofString "b"), .d (.str (sOf b))) :: ((Str.ofString "max_cost"), .d (.int m)) :: []) _ _ _ _
    with_reducible refine X.seq (X1.assign (Ev.sub (a := .str (sOf b)) (b := .int i) ?_ ?_ (idx_strN ?_ hy ?_)) ?_ ?_) ?_
    · walk_at "m.ev"
    · walk_at "m.ev"
    · intros; intro _ _; rfl
    · omega
    · kernel_rfl
    · intros; rfl
    with_reducible refine X.seq (X1.assign2 (d := .int (2 * (i : Int))) ?_ ?_ ?_ ?_) ?_
    · rw [Int.mul_comm]
      walk_at "m.ev"
    · kernel_rfl
    · kernel_rfl
    · intros; rfl
    with_reducible refine X.seq (X1.assign (Ev.int _ _ _) ?_ ?_) ?_
    · kernel_rfl
    · intros; rfl
    with_reducible refine X.weak (ρ' := inE a b m y row (2 * (i : Int)) (2 * (i : Int)) 9223372036854775807) ?_ ?_
    · show SubE _ _
      unfold inE levE
      walk_at "m.sb"
    with_reducible refine X.cons (X1.loop (J := fun j ρ => ∃ row dist res mi, LIn a b i j row dist res mi ∧ ρ = inE a b m y row dist res mi) (bs := fun i => [((Str.ofString "index"), .d (.int i))]) (It.range1 (k := a.length) G ?_ ?_) ?_ ⟨_, _, _, _, L.enter hi _, rfl⟩ ?_ ?_) fun ρ' h => ?_
    · unfold inE levE; walk_at "m.ev"
    · omega
    · intro i d hd
      obtain ⟨_, rfl⟩ := getElem_range_map hd
      exact As.name (by kernel_rfl)
    · intro j d ρ' hd hJ
      obtain ⟨hj, rfl⟩ := getElem_range_map hd
      obtain ⟨row, dist, res, mi, L, rfl⟩ := hJ
      obtain ⟨x, hx⟩ : ∃ x, a[j]? = some x := ⟨a[j], List.getElem?_eq_getElem hj⟩
      obtain ⟨v, hv, _⟩ := L.todo j (Nat.le_refl j) hj
      unfold inE levE
      show X W _ (((Str.ofString "index"), .d (.int j)) :: ((Str.ofString "row"), .ol (row.map .int)) :: ((Str.ofString "result"), .d (.int res)) :: ((Str.ofString "distance"), .d (.int dist)) :: ((Str.ofString "minimum"), .d (.int mi)) :: ((Str.ofString "bchar"), .d (.str (sOf [y]))) :: ((Str.ofString "a"), .d (.str (sOf a))) :: ((Str.ofString "b"), .d (.str (sOf b))) :: ((Str.ofString "max_cost"), .d (.int m)) :: []) _ _ _ _
      with_reducible refine X.seq (X1.assign (Ev.bin ?_ (Ev.fn G ((cl_sub G y x (sym_of hb hy) (sym_of ha hx)).up ?_) (Evs.cons ?_ (Evs.cons (Ev.sub (a := .str (sOf a)) (b := .int j) ?_ ?_ (idx_strN ?_ hx ?_)) Evs.nil ?_) ?_) ?_ ?_ ?_ ?_ ?_ ?_) (op_add dist _)) ?_ ?_) ?_
      · walk_at "m.ev"
      · omega
      · walk_at "m.ev"
      · walk_at "m.ev"
      · walk_at "m.ev"
      · intros; intro _ _; rfl
      · omega
      · intros; kernel_rfl
      · intros; kernel_rfl
      · kernel_rfl
      · kernel_rfl
      · kernel_rfl
      · kernel_rfl
      · intros; kernel_rfl
      · intros; kernel_rfl
      · kernel_rfl
      · intros; rfl
      with_reducible refine X.seq (X1.assign (Ev.ownItem (ds := row.map .int) (j := j) (d := .int v) ?_ ?_ ?_ ?_ ?_ ?_ ?_ ?_) ?_ ?_) ?_
      · walk_at "m.lk"
      · kernel_rfl
      · walk_at "m.ev"
      · rw [List.getElem?_map, hv]; rfl
      · omega
      · intro _ _; rfl
      · kernel_rfl
      · kernel_rfl
      · kernel_rfl
      · intros; rfl
      with_reducible refine X.seq (X1.assign (d := .int (min res v + 2)) ?_ ?_ ?_) ?_
      · walk_at "m.ev"
      · kernel_rfl
      · intros; rfl
      with_reducible refine X.seq (X1.assign (d := .int (min (min res v + 2) (dist + subc y x))) ?_ ?_ ?_) ?_
      · walk_at "m.ev"
      · kernel_rfl
      · intros; rfl
      with_reducible refine X.seq (X1.setItem (ds := row.map .int) (j := j) (d := .int (min (min res v + 2) (dist + subc y x))) ?_ ?_ ?_ ?_ ?_ ?_ ?_ ?_) ?_
      · walk_at "m.lk"
      · walk_at "m.ev"
      · walk_at "m.ev"
      · rw [List.length_map, L.len]; exact hj
      · rw [List.length_map, L.len]; omega
      · kernel_rfl
      · kernel_rfl
      · intros; rfl
      have N := L.next hx hy hv rfl rfl
      generalize min (min res v + 2) (dist + subc y x) = r at N ⊢
      rw [show (row.map D.int).set j (.int r) = (row.set j r).map .int by rw [List.map_set]]
      with_reducible refine X.last (X1.ite (EvT.cmp (a := .int r) (b := .int mi) ?_ ?_ (op_ltI _ _) ?_) (fun h => X.seq (X1.assign (d := .int r) ?_ ?_ ?_) (X.nilW (ρ' := inE a b m y (row.set j r) v r r) ?_ ?_)) fun h => X.nilW (ρ' := inE a b m y (row.set j r) v r mi) ?_ ?_)
      · walk_at "m.ev"
      · walk_at "m.ev"
      · kernel_rfl
      · walk_at "m.ev"
      · kernel_rfl
      · intros; rfl
      · rw [if_pos (by simpa using h)] at N
        exact ⟨_, _, _, _, N, rfl⟩
      · unfold inE levE
        walk_at "m.sb"
      · rw [if_neg (by simpa using h)] at N
        exact ⟨_, _, _, _, N, rfl⟩
      · unfold inE levE
        walk_at "m.sb"
    · intros; rfl
    obtain ⟨row, dist, res, mi, L, rfl⟩ := h
    rw [List.length_map, List.length_range] at L
    unfold inE levE
    refine X.guard (EvT.cmp (a := .int mi) (b := .int m) ?_ ?_ (op_gtI _ _) ?_) (fun h => X.ret (X1.ret (d := .int (m + 1)) ?_ ⟨m + 1, rfl, .inr ⟨rfl, L.cut hi ha0 (by simpa using h)⟩⟩)) fun h => X.nilW (ρ' := outE a b m row res) ?_ ?_
    · walk_at "m.ev"
    · walk_at "m.ev"
    · kernel_rfl
    · walk_at "m.ev"
    · exact ⟨_, _, L.leave ha0, rfl⟩
    · unfold outE levE
      walk_at "m.sb"
  · intros; rfl
  obtain ⟨row, res, L, rfl⟩ := h
  rw [List.length_map, List.length_range] at L
  refine X.ret (X1.ret (d := .int res) ?_ ⟨res, rfl, .inl (L.end hb0)⟩)
  unfold outE levE
  walk_at "m.ev"
end

/- L19 -/
section
open PySem PySem.W
set_option maxRecDepth 100000
variable {W : Wd} {sc : Scope} {ρ : Vs} {n : Nat}
theorem levR.symm {a b : List Nat} {m : Int} {d : D} (h : levR a b m d) : levR b a m d := let ⟨r, e, q⟩ := h; ⟨r, e, q.symm⟩
theorem lev_mid (G : Gw W) {a b : List Nat} {m : Int} (ha : ∀ c ∈ a, Ltr c) (hb : ∀ c ∈ b, Ltr c) (la : a.length ≤ 40) (lb : b.length ≤ 40) :
    X W (scOf 66) (levE a b m) 2 ((bodyOf 66).drop 9) (fun _ => False) (levR a b m) := by
  conv => arg 5; whnf
  unfold levE
  refine X.guard (EvT.or (EvT.not (EvT.plain (d := .str (sOf a)) ?_ (tr_str a ?_) ?_)) fun _ => EvT.or (EvT.not (EvT.plain (d := .str (sOf b)) ?_ (tr_str b ?_) ?_)) fun _ => EvT.or_nil) (fun h => X.ret (X1.ret (d := .int (2 * ((a.length : Int) + b.length))) ?_ ?_)) fun h => ?_
  · walk_at "m.ev"
  · omega
  · intros; rfl
  · walk_at "m.ev"
  · omega
  · intros; rfl
  · walk_at "m.ev"
  · refine ⟨_, rfl, .inl ?_⟩
    simp at h
    rcases h with rfl | rfl
    · simp only [List.length_nil]
      have := Mn.del b
      rw [show (2 : Int) * ((0 : Nat) + (b.length : Nat)) = 2 * (b.length : Nat) by omega]; exact this
    · simp only [List.length_nil]
      have := Mn.ins a
      rw [show (2 : Int) * ((a.length : Nat) + (0 : Nat)) = 2 * (a.length : Nat) by omega]; exact this
  have ha0 : 0 < a.length := by
    cases a with
    | nil => simp at h
    | cons => simp
  have hb0 : 0 < b.length := by
    cases b with
    | nil => simp at h
    | cons => simp
  refine X.guard (EvT.or (EvT.cmp (a := .int a.length) (b := .int 40) ?_ ?_ (op_gtI _ _) ?_) fun _ => EvT.or (EvT.cmp (a := .int b.length) (b := .int 40) ?_ ?_ (op_gtI _ _) ?_) fun _ => EvT.or_nil) (fun h => ?_) fun _ => ?_
  · walk_at "m.ev"
  · walk_at "m.ev"
  · kernel_rfl
  · walk_at "m.ev"
  · walk_at "m.ev"
  · kernel_rfl
  · simp at h; omega
  have tail : ∀ a b : List Nat, (∀ c ∈ a, Ltr c) → (∀ c ∈ b, Ltr c) → 0 < a.length → 0 < b.length → a.length ≤ 40 → b.length ≤ 40 → a.length ≤ b.length → X W (scOf 66) (levE a b m) 2 ((bodyOf 66).drop 12) (fun _ => False) (levR a b m) := by
    intro a b ha hb ha0 hb0 la lb hab
    conv => arg 5; whnf
    unfold levE
    refine X.guard (EvT.cmp (a := .int (((b.length : Int) - a.length) * 2)) (b := .int m) ?_ ?_ (op_gtI _ _) ?_) (fun h => X.ret (X1.ret (d := .int (m + 1)) ?_ ⟨_, rfl, .inr ⟨rfl, far ?_⟩⟩)) fun _ => lev_rows G ha hb ha0 hb0 la lb
    · walk_at "m.ev"
    · walk_at "m.ev"
    · kernel_rfl
    · walk_at "m.ev"
    · simp at h; omega
  refine X.cons (Rm := fun z => (z = levE a b m ∧ a.length ≤ b.length) ∨ (z = ((Str.ofString "a"), .d (.str (sOf b))) :: ((Str.ofString "b"), .d (.str (sOf a))) :: levE a b m ∧ b.length ≤ a.length)) (X1.ite (EvT.cmp (a := .int b.length) (b := .int a.length) ?_ ?_ (op_ltI _ _) ?_)
    (fun h => X.seq (X1.swap2 (Ev.tup (ds := [.str (sOf b), .str (sOf a)]) ?_ ?_) ?_ ?_ ?_ ?_) (X.nil (.inr ⟨rfl, ?_⟩))) fun h => X.nil (.inl ⟨rfl, ?_⟩)) fun ρ' h => ?_
  · walk_at "m.ev"
  · walk_at "m.ev"
  · kernel_rfl
  · walk_at "m.es"
  · simp
  · kernel_rfl
  · kernel_rfl
  · intros; rfl
  · intro env h
    show swappedStores _ _ env = _
    unfold swappedStores Env.blockKind Env.kindOf
    rw [h]
    kernel_rfl
  · simp at h; omega
  · simp at h; omega
  rcases h with ⟨rfl, hab⟩ | ⟨rfl, hab⟩
  · exact tail a b ha hb ha0 hb0 la lb hab
  · refine X.weak (ρ' := levE b a m) ?_ ((tail b a hb ha hb0 ha0 lb la hab).mono (fun _ h => h) fun d h => h.symm)
    show SubE _ _
    unfold levE
    walk_at "m.sb"
def eqAt (a b : List Nat) (p q : Nat) : Bool := match a[p]?, b[q]? with
  | some x, some y => x == y
  | _, _ => false
theorem drop_empty {l : List Nat} {p : Nat} (h : p ≤ l.length) : (l.drop p).isEmpty = decide (p = l.length) := by
  by_cases q : p = l.length
  · simp [q]
  · have : l.drop p ≠ [] := by simp; omega
    simp [q, this]
end

/- L20 -/
section
open PySem PySem.W
set_option maxRecDepth 100000
variable {W : Wd} {sc : Scope} {ρ : Vs} {n : Nat}
theorem eqAt_some {a b : List Nat} {p q x y : Nat} (hx : a[p]? = some x) (hy : b[q]? = some y) : eqAt a b p q = (sOf [x] == sOf [y]) := by
  unfold eqAt; rw [hx, hy, sOf_beq]; simp
theorem eqAt_take {a b : List Nat} {p : Nat} (h : a.take p = b.take p) (e : eqAt a b p p = true) : a.take (p + 1) = b.take (p + 1) := by
  unfold eqAt at e
  split at e
  · rename_i x y hx hy
    rw [take_snoc hx, take_snoc hy, h, eq_of_beq e]
  · cases e
theorem drop_back {l : List Nat} {q : Nat} (h : q < l.length) : l.drop (l.length - (q + 1)) = l[l.length - (q + 1)] :: l.drop (l.length - q) := by
  rw [List.drop_eq_getElem_cons (by omega), show l.length - (q + 1) + 1 = l.length - q by omega]
theorem eqAt_drop {a b : List Nat} {q : Nat} (ha : q < a.length) (hb : q < b.length) (h : a.drop (a.length - q) = b.drop (b.length - q)) (e : eqAt a b (a.length - (q + 1)) (b.length - (q + 1)) = true) :
    a.drop (a.length - (q + 1)) = b.drop (b.length - (q + 1)) := by
  unfold eqAt at e
  rw [List.getElem?_eq_getElem (by omega), List.getElem?_eq_getElem (by omega)] at e
  rw [drop_back ha, drop_back hb, h, eq_of_beq e]
theorem take_empty {l : List Nat} {q : Nat} (h : q ≤ l.length) : (l.take (l.length - q)).isEmpty = decide (q = l.length) := by
  by_cases e : q = l.length
  · simp [e]
  · have : l.take (l.length - q) ≠ [] := fun z => by
      have := congrArg List.length z
      rw [List.length_take, List.length_nil] at this
      omega
    simp only [e, decide_false]
    cases q' : l.take (l.length - q) with
    | nil => exact absurd q' this
    | cons => rfl
def postK (q : Nat) : Option Int := if q = 0 then none else some (-(q : Int))
theorem sl_post (l : List Nat) (q : Nat) (h : q ≤ l.length) : sl l none (postK q) = l.take (l.length - q) := by
  unfold postK
  by_cases e : q = 0
  · rw [if_pos e, sl_all]; simp [e]
  · rw [if_neg e, sl_neg l q (by omega)]
theorem ev_post {p1 p2 p3 : Pos} {k : Nat} {q : Nat} (hx : ρ.lookup (Str.ofString "post") = some (.d (.int (-(q : Int))))) (hf : inFrame sc (Str.ofString "post") = true) : EvP W sc ρ n (some (.BoolOp .Or [.Name (Str.ofString "post") p1, .Constant .none k p2] p3)) (postK q) := by
  have hn : Ev W sc ρ n (.Name (Str.ofString "post") p1) (.int (-(q : Int))) := Ev.name hx hf (by decide +kernel) (by decide +kernel)
  unfold postK
  by_cases e : q = 0
  · rw [if_pos e]
    refine EvP.nil (Ev.or2 (d' := .val .none) hn (tr_int _) (fun h => ?_) fun _ => Ev.noneC _ _)
    simp [e] at h
  · rw [if_neg e]
    refine EvP.int (Ev.or2 (d' := .val .none) hn (tr_int _) (fun _ => rfl) fun h => ?_)
    simp at h; omega
/-- _levenshtein_distance -/
theorem cl_lev (G : Gw W) {a b : List Nat} {m : Int} (ha : ∀ c ∈ a, Ltr c) (hb : ∀ c ∈ b, Ltr c) (la : a.length ≤ 40) (lb : b.length ≤ 40) :
    ClP W 3 (.ref 66) [.str (sOf a), .str (sOf b), .int m] (levR a b m) := by
  refine ClP.of G dk_lev rfl ?_
  show X W _ (levE a b m) _ _ _ _
  conv => arg 5; whnf
  unfold levE
  refine X.guard (EvT.cmp (a := .str (sOf a)) (b := .str (sOf b)) ?_ ?_ (op_eqS _ _) ?_) (fun h => X.ret (X1.ret (d := .int 0) ?_ ⟨0, rfl, .inl ?_⟩)) fun _ => ?_
  · walk_at "m.ev"
  · walk_at "m.ev"
  · kernel_rfl
  · walk_at "m.ev"
  · rw [sOf_beq] at h
    have : a = b := by simpa using h
    rw [this]; exact Mn.self b
  refine X.seq (X1.assign (d := .int 0) ?_ ?_ ?_) ?_
  · walk_at "m.ev"
  · kernel_rfl
  · intros; rfl
  with_reducible refine X.cons (X1.while (m0 := a.length) (J := fun mm ρ => ∃ p : Nat, p ≤ a.length ∧ p ≤ b.length ∧ a.take p = b.take p ∧ mm + p = a.length ∧ ρ = ((Str.ofString "pre"), .d (.int p)) :: levE a b m)
    (Rn := fun ρ => ∃ p : Nat, p ≤ a.length ∧ p ≤ b.length ∧ a.take p = b.take p ∧ ρ = ((Str.ofString "pre"), .d (.int p)) :: levE a b m) ⟨0, by omega, by omega, rfl, by omega, rfl⟩ ?_) fun ρ' h => ?_
  · rintro mm ρ' ⟨p, hpa, hpb, hab, hmm, rfl⟩
    unfold levE
    refine ⟨(!(a.drop p).isEmpty) && ((!(b.drop p).isEmpty) && (eqAt a b p p && true)), EvT.and ?_ fun h1 => EvT.and ?_ fun h2 => EvT.and ?_ fun _ => EvT.and_nil, fun h => ?_, fun _ => ⟨p, hpa, hpb, hab, rfl⟩⟩
    · rw [← sl_from a p]
      with_reducible refine EvT.plain (Ev.sliceS ?_ (EvP.int ?_) EvP.none ?_ ?_) (tr_str _ ?_) ?_
      · walk_at "m.ev"
      · walk_at "m.ev"
      · omega
      · intros; rfl
      · rw [sl_from]; simp; omega
      · intros; rfl
    · rw [← sl_from b p]
      with_reducible refine EvT.plain (Ev.sliceS ?_ (EvP.int ?_) EvP.none ?_ ?_) (tr_str _ ?_) ?_
      · walk_at "m.ev"
      · walk_at "m.ev"
      · omega
      · intros; rfl
      · rw [sl_from]; simp; omega
      · intros; rfl
    · rw [drop_empty hpa] at h1
      rw [drop_empty hpb] at h2
      simp at h1 h2
      have hx : a[p]? = some a[p] := List.getElem?_eq_getElem (by omega)
      have hy : b[p]? = some b[p] := List.getElem?_eq_getElem (by omega)
      rw [eqAt_some hx hy]
      with_reducible refine EvT.cmp (Ev.sub (a := .str (sOf a)) (b := .int p) ?_ ?_ (idx_strN ?_ hx ?_)) (Ev.sub (a := .str (sOf b)) (b := .int p) ?_ ?_ (idx_strN ?_ hy ?_)) (op_eqS _ _) ?_
      · walk_at "m.ev"
      · walk_at "m.ev"
      · intro _ _; rfl
      · omega
      · walk_at "m.ev"
      · walk_at "m.ev"
      · intro _ _; rfl
      · omega
      · kernel_rfl
    · rw [drop_empty hpa, drop_empty hpb] at h
      simp at h
      with_reducible refine X.last ((fun q => q) ?_)
      with_reducible refine X1.weakR (X1.aug (a := .int p) (b := .int 1) ?_ ?_ ?_ (op_iadd _ _) ?_ ?_) ?_
      · walk_at "m.lk"
      · kernel_rfl
      · walk_at "m.ev"
      · kernel_rfl
      · kernel_rfl
      · refine ⟨((Str.ofString "pre"), .d (.int ((p : Int) + 1))) :: levE a b m, ?_, ?_⟩
        · exact ⟨a.length - (p + 1), by omega, p + 1, by omega, by omega, eqAt_take hab h.2.2, by omega, by rw [show ((p + 1 : Nat) : Int) = (p : Int) + 1 by omega]; rfl⟩
        · unfold levE; walk_at "m.sb"
  obtain ⟨p, hpa, hpb, hab, rfl⟩ := h
  unfold levE
  with_reducible refine X.seq (X1.assign (d := .str (sOf (a.drop p))) ?_ ?_ ?_) ?_
  · rw [← sl_from a p]
    with_reducible refine Ev.sliceS ?_ (EvP.int ?_) EvP.none ?_ ?_
    · walk_at "m.ev"
    · walk_at "m.ev"
    · omega
    · intros; rfl
  · kernel_rfl
  · intros; rfl
  with_reducible refine X.seq (X1.assign (d := .str (sOf (b.drop p))) ?_ ?_ ?_) ?_
  · rw [← sl_from b p]
    with_reducible refine Ev.sliceS ?_ (EvP.int ?_) EvP.none ?_ ?_
    · walk_at "m.ev"
    · walk_at "m.ev"
    · omega
    · intros; rfl
  · kernel_rfl
  · intros; rfl
  have wrapA : ∀ d, levR (a.drop p) (b.drop p) m d → levR a b m d := by
    rintro d ⟨r, e, h⟩
    have := h.wrap (p := a.take p) (q := [])
    rw [List.append_nil, List.append_nil, List.take_append_drop, hab, List.take_append_drop] at this
    exact ⟨r, e, this⟩
  with_reducible refine X.mono (Rn := fun _ => False) (Rr := levR (a.drop p) (b.drop p) m) ?_ (fun _ h => h) wrapA
  have ha' : ∀ c ∈ a.drop p, Ltr c := fun c hc => ha c (List.mem_of_mem_drop hc)
  have hb' : ∀ c ∈ b.drop p, Ltr c := fun c hc => hb c (List.mem_of_mem_drop hc)
  have la' : (a.drop p).length ≤ 40 := by simp; omega
  have lb' : (b.drop p).length ≤ 40 := by simp; omega
  with_reducible refine X.weak (ρ' := levE (a.drop p) (b.drop p) m) ?_ ?_
  · show SubE _ _
    unfold levE
    walk_at "m.sb"
  clear wrapA hab hpa hpb ha hb la lb
  revert ha' hb' la' lb'
  generalize a.drop p = a
  generalize b.drop p = b
  intro ha hb la lb
  unfold levE
  with_reducible refine X.seq (X1.assign (d := .int 0) ?_ ?_ ?_) ?_
  · walk_at "m.ev"
  · kernel_rfl
  · intros; rfl
  with_reducible refine X.cons (X1.while (m0 := a.length) (J := fun mm ρ => ∃ q : Nat, q ≤ a.length ∧ q ≤ b.length ∧ a.drop (a.length - q) = b.drop (b.length - q) ∧ mm + q = a.length ∧ ρ = ((Str.ofString "post"), .d (.int (-(q : Int)))) :: levE a b m)
    (Rn := fun ρ => ∃ q : Nat, q ≤ a.length ∧ q ≤ b.length ∧ a.drop (a.length - q) = b.drop (b.length - q) ∧ ρ = ((Str.ofString "post"), .d (.int (-(q : Int)))) :: levE a b m) ⟨0, by omega, by omega, by simp, by omega, rfl⟩ ?_) fun ρ' h => ?_
  · rintro mm ρ' ⟨q, hpa, hpb, hab, hmm, rfl⟩
    unfold levE
    refine ⟨(!(a.take (a.length - q)).isEmpty) && ((!(b.take (b.length - q)).isEmpty) && (eqAt a b (a.length - (q + 1)) (b.length - (q + 1)) && true)), EvT.and ?_ fun h1 => EvT.and ?_ fun h2 => EvT.and ?_ fun _ => EvT.and_nil, fun h => ?_, fun _ => ⟨q, hpa, hpb, hab, rfl⟩⟩
    · rw [← sl_post a q hpa]
      with_reducible refine EvT.plain (Ev.sliceS ?_ EvP.none (ev_post ?_ ?_) ?_ ?_) (tr_str _ ?_) ?_
      · walk_at "m.ev"
      · walk_at "m.lk"
      · kernel_rfl
      · omega
      · intros; rfl
      · rw [sl_post a q hpa]; simp; omega
      · intros; rfl
    · rw [← sl_post b q hpb]
      with_reducible refine EvT.plain (Ev.sliceS ?_ EvP.none (ev_post ?_ ?_) ?_ ?_) (tr_str _ ?_) ?_
      · walk_at "m.ev"
      · walk_at "m.lk"
      · kernel_rfl
      · omega
      · intros; rfl
      · rw [sl_post b q hpb]; simp; omega
      · intros; rfl
    · rw [take_empty hpa] at h1
      rw [take_empty hpb] at h2
      simp at h1 h2
      have hx : a[a.length - (q + 1)]? = some a[a.length - (q + 1)] := List.getElem?_eq_getElem (by omega)
      have hy : b[b.length - (q + 1)]? = some b[b.length - (q + 1)] := List.getElem?_eq_getElem (by omega)
      rw [eqAt_some hx hy]
      with_reducible refine EvT.cmp (Ev.sub (a := .str (sOf a)) (b := .int (-(q : Int) - 1)) ?_ ?_ (idx_str ?_ ?_ hx ?_ ?_)) (Ev.sub (a := .str (sOf b)) (b := .int (-(q : Int) - 1)) ?_ ?_ (idx_str ?_ ?_ hy ?_ ?_)) (op_eqS _ _) ?_
      · walk_at "m.ev"
      · walk_at "m.ev"
      · intro _ _; rfl
      · exact seqIndex_neg (by omega)
      · omega
      · omega
      · walk_at "m.ev"
      · walk_at "m.ev"
      · intro _ _; rfl
      · exact seqIndex_neg (by omega)
      · omega
      · omega
      · kernel_rfl
    · rw [take_empty hpa, take_empty hpb] at h
      simp at h
      with_reducible refine X.last ((fun q => q) ?_)
      with_reducible refine X1.weakR (X1.aug (a := .int (-(q : Int))) (b := .int 1) ?_ ?_ ?_ (op_isub _ _) ?_ ?_) ?_
      · walk_at "m.lk"
      · kernel_rfl
      · walk_at "m.ev"
      · kernel_rfl
      · kernel_rfl
      · refine ⟨((Str.ofString "post"), .d (.int (-(q : Int) - 1))) :: levE a b m, ?_, ?_⟩
        · exact ⟨a.length - (q + 1), by omega, q + 1, by omega, by omega, eqAt_drop (by omega) (by omega) hab h.2.2, by omega, by rw [show -((q + 1 : Nat) : Int) = -(q : Int) - 1 by omega]; rfl⟩
        · unfold levE; walk_at "m.sb"
  obtain ⟨q, hpa, hpb, hab, rfl⟩ := h
  unfold levE
  with_reducible refine X.seq (X1.assign (d := .str (sOf (a.take (a.length - q)))) ?_ ?_ ?_) ?_
  · rw [← sl_post a q hpa]
    with_reducible refine Ev.sliceS ?_ EvP.none (ev_post ?_ ?_) ?_ ?_
    · walk_at "m.ev"
    · walk_at "m.lk"
    · kernel_rfl
    · omega
    · intros; rfl
  · kernel_rfl
  · intros; rfl
  with_reducible refine X.seq (X1.assign (d := .str (sOf (b.take (b.length - q)))) ?_ ?_ ?_) ?_
  · rw [← sl_post b q hpb]
    with_reducible refine Ev.sliceS ?_ EvP.none (ev_post ?_ ?_) ?_ ?_
    · walk_at "m.ev"
    · walk_at "m.lk"
    · kernel_rfl
    · omega
    · intros; rfl
  · kernel_rfl
  · intros; rfl
  have wrapB : ∀ d, levR (a.take (a.length - q)) (b.take (b.length - q)) m d → levR a b m d := by
    rintro d ⟨r, e, h⟩
    have := h.wrap (p := []) (q := a.drop (a.length - q))
    rw [List.nil_append, List.nil_append, List.take_append_drop, hab, List.take_append_drop] at this
    exact ⟨r, e, this⟩
  with_reducible refine X.mono (Rn := fun _ => False) (Rr := levR (a.take (a.length - q)) (b.take (b.length - q)) m) ?_ (fun _ h => h) wrapB
  with_reducible refine X.weak (ρ' := levE (a.take (a.length - q)) (b.take (b.length - q)) m) ?_ ?_
  · show SubE _ _
    unfold levE
    walk_at "m.sb"
  exact lev_mid G (fun c hc => ha c (List.mem_of_mem_take hc)) (fun c hc => hb c (List.mem_of_mem_take hc)) (by simp; omega) (by simp; omega)
end

/- L22 -/
section
open PySem PySem.W
set_option maxRecDepth 100000
variable {W : Wd} {sc cs : Scope} {ρ : Vs} {n : Nat}
def codeOf (c : Nat) : Int := if upc c = 83 then 256 else if upc c = 84 then 257 else c
theorem inST {c : Nat} (h : Sym c) : (!(Builtin.Str.occurrences (sOf [83, 84]) (sOf [upc c]) 0 (sOf [83, 84]).length 1).isEmpty) = (upc c == 83 || upc c == 84) := by
  rcases h with (h | h | h | h) | h | h | h | h <;> subst h <;> decide +kernel
theorem sym_lt {c : Nat} (h : Sym c) : c < 128 := by rcases h with (h | h | h | h) | h | h | h | h <;> subst h <;> decide
theorem Ev.index {o e : Expr} {apos pos : Pos} {x y : Str} {i : Nat} {rest : List Nat} (ho : Ev W sc ρ n o (.str x)) (he : Ev W sc ρ n e (.str y)) (hocc : Builtin.Str.occurrences x y 0 x.length 1 = i :: rest)
    (hbase : ∀ env, attributeBase o (Str.ofString "index") env (eval o env) = eval o env) (hp : ∀ env, starEach [e] env = [(false, eval e env)]) (hline : (apos.endLine == pos.line) = true) :
    Ev W sc ρ n (.Call (.Attribute o (Str.ofString "index") apos) [e] [] pos) (.int i) := Ev.strM1 ho he PySem.F.slot_str_index PySem.F.type_str_index (cl_index x y i rest hocc) hbase hp hline
theorem dk_codes : DefOk W 226 225 [(Str.ofString "value")] := by walk_at "m.dk1"
theorem cl_codes (G : Gw W) {v : List Nat} (hv : ∀ c ∈ v, Sym c) (lv : v.length ≤ 100) : Cl W 1 (.ref 226) [.str (sOf v)] (.list (v.map fun c => .int (codeOf c))) := by
  refine Cl.of G dk_codes rfl ?_
  conv => arg 5; whnf
  show X W _ [((Str.ofString "value"), .d (.str (sOf v)))] _ _ _ _
  with_reducible refine X.ret (X1.ret (d := .list ((v.filter fun _ => true).map fun c => .int (codeOf c))) (Ev.compM (fun c => .str (sOf [c])) chr_inj v (fun _ => true) _ (fun c => [((Str.ofString "sign"), .d (.str (sOf [c])))]) SubE.refl ?_ ?_ (It.str ?_ ?_) ?_ ?_ ?_ ?_ ?_) ?_)
  · kernel_rfl
  · kernel_rfl
  · walk_at "m.ev"
  · exact fun c hc => sym_lt (hv c hc)
  · omega
  · exact fun c hc => As.name (by kernel_rfl)
  · intro c hc; kernel_rfl
  · intro c hc
    have h := hv c hc
    refine ⟨EvTs.nil, fun _ => ?_⟩
    show Ev W _ [((Str.ofString "sign"), .d (.str (sOf [c]))), ((Str.ofString "value"), .d (.str (sOf v)))] _ _ _
    with_reducible refine Ev.ite (b := upc c == 83 || upc c == 84) (inST h ▸ EvT.cmp (Ev.upper h ?_ ?_ ?_) ?_ (op_inS (sOf [83, 84]) (sOf [upc c])) ?_) (fun q => ?_) fun q => ?_
    · walk_at "m.ev"
    · intros; rfl
    · kernel_rfl
    · walk_at "m.ev"
    · kernel_rfl
    · have ho : Builtin.Str.occurrences (sOf [83, 84]) (sOf [upc c]) 0 (sOf [83, 84]).length 1 = [(codeOf c - 256).toNat] ∧ (256 : Int) + (codeOf c - 256).toNat = codeOf c := by
        rcases h with (h | h | h | h) | h | h | h | h <;> subst h <;> first | (exact absurd q (by decide)) | decide +kernel
      rw [← ho.2]
      with_reducible refine Ev.bin (Ev.int _ _ _) (Ev.index (x := sOf [83, 84]) (y := sOf [upc c]) ?_ (Ev.upper h ?_ ?_ ?_) ho.1 ?_ ?_ ?_) (op_add _ _)
      · walk_at "m.ev"
      · walk_at "m.ev"
      · intros; rfl
      · kernel_rfl
      · intros; rfl
      · intros; rfl
      · kernel_rfl
    · have e : codeOf c = (c : Int) := by
        unfold codeOf
        simp at q
        rw [if_neg q.1, if_neg q.2]
      rw [e]
      with_reducible refine Ev.bf G G.bo (cl_ord c) ?_ ?_ ?_ ?_ ?_ ?_ ?_
      · walk_at "m.es"
      all_goals walk_at "m.sd"
  · intros; rfl
  · rw [filter_yes]
end

/- L23 -/
section
open PySem PySem.W
set_option maxRecDepth 100000
variable {W : Wd} {sc cs : Scope} {ρ : Vs} {n : Nat}
def mkT (T : Nat → Nat → Int) : Tab := (List.range 4).map fun i => (List.range 4).map fun j => T i j
theorem mkT_d (T : Nat → Nat → Int) : (mkT T).d = .list ((List.range 4).map fun i => .list ((List.range 4).map fun j => .int (T i j))) := by
  simp [mkT, Tab.d]
theorem mkT_row {T : Nat → Nat → Int} {i : Nat} (hi : i < 4) : ((List.range 4).map fun i => D.list ((List.range 4).map fun j => .int (T i j)))[i]? = some (.list ((List.range 4).map fun j => .int (T i j))) := by
  simp [hi]
theorem mkT_at {T : Nat → Nat → Int} {i j : Nat} (hj : j < 4) : ((List.range 4).map fun j => D.int (T i j))[j]? = some (.int (T i j)) := by
  simp [hj]
/-- [[.. for j in range(4)] for i in range(4)] -/
theorem Ev.tab {ρ' : Vs} {elt : Expr} {ci cj : Scope} {p1 p2 p3 p4 p5 p6 p7 p8 p9 p10 : Pos} {k1 k2 : Nat} (G : Gw W) (T : Nat → Nat → Int) (hsub : SubE ρ' ρ) (himm : ρ'.all (fun p => !p.2.own) = true) (hok : compOk sc ci ρ = true)
    (hel : ∀ i j : Nat, i < 4 → j < 4 → Ev W (relab (relab sc ci) cj) (((Str.ofString "j"), .d (.int j)) :: ((Str.ofString "i"), .d (.int i)) :: ρ') n elt (.int (T i j)))
    (hok2 : ∀ i : Nat, compOk (relab sc ci) cj (((Str.ofString "i"), .d (.int i)) :: ρ') = true)
    (hi : storable (relab sc ci) (Str.ofString "i") = true) (hj : storable (relab (relab sc ci) cj) (Str.ofString "j") = true) (hi' : ∀ i : Nat, ownNames ci [((Str.ofString "i"), .d (.int i))] = true) (hj' : ∀ i : Nat, ownNames cj [((Str.ofString "j"), .d (.int i))] = true)
    (hs1 : sc.names.lookup (Str.ofString "range") = some .globalImplicit) (hs2 : (relab sc ci).names.lookup (Str.ofString "range") = some .globalImplicit) :
    Ev W sc ρ n (.ListComp (.ListComp elt [⟨.Name (Str.ofString "j") p1, .Call (.Name (Str.ofString "range") p2) [.Constant (.int 4) k1 p3] [] p4, [], 0⟩] cj p5) [⟨.Name (Str.ofString "i") p6, .Call (.Name (Str.ofString "range") p7) [.Constant (.int 4) k2 p8] [] p9, [], 0⟩] ci p10) (mkT T).d := by
  rw [mkT_d, ← filter_yes (List.range 4)]
  refine Ev.compM (fun i : Nat => .int i) int_inj (List.range 4) (fun _ => true) _ (fun i => [((Str.ofString "i"), .d (.int i))]) hsub himm hok (It.range1 (k := 4) G (Ev.int 4 _ _) (by omega) (hs := hs1)) (by simp) (fun i _ => As.name hi) (fun i _ => hi' i) (fun i hm => ⟨EvTs.nil, fun _ => ?_⟩) (by intros; rfl)
  have hi4 : i < 4 := by simpa using hm
  refine Ev.compM (ρ' := ((Str.ofString "i"), .d (.int i)) :: ρ') (fun i : Nat => .int i) int_inj (List.range 4) (fun _ => true) _ (fun i => [((Str.ofString "j"), .d (.int i))]) SubE.refl (by simpa [V.own] using himm) (hok2 i) (It.range1 (k := 4) G (Ev.int 4 _ _) (by omega) (hs := hs2)) (by simp) (fun i _ => As.name hj) (fun i _ => hj' i) (fun j hm => ⟨EvTs.nil, fun _ => hel i j hi4 (by simpa using hm)⟩) (by intros; rfl)
/-- what the letter c costs against the stretch from i to j -/
def letT (c : Nat) (tx : List Nat) (i j : Nat) : Int := if i ≤ j then 2 * ((j : Int) - i) + lmin (2 :: (List.range (j - i)).map fun k => subc c (tx.getD (i + k) 0) - 2) else 0
theorem dk_letter : DefOk W 236 235 [(Str.ofString "sign"), (Str.ofString "text")] := by walk_at "m.dk2"
theorem cl_letter (G : Gw W) {c : Nat} {tx : List Nat} (hc : Sym c) (hv : ∀ c ∈ tx, Ltr c) (lv : tx.length = 3) : Cl W 1 (.ref 236) [.str (sOf [c]), .str (sOf tx)] (mkT (letT c tx)).d := by
  refine Cl.of G dk_letter rfl ?_
  conv => arg 5; whnf
  show X W _ [((Str.ofString "sign"), .d (.str (sOf [c]))), ((Str.ofString "text"), .d (.str (sOf tx)))] _ _ _ _
  with_reducible refine X.seq (X1.assign (d := .list ((tx.filter fun _ => true).map fun x => .int (subc c x))) (Ev.compM (fun c => .str (sOf [c])) chr_inj tx (fun _ => true) _ (fun x => [((Str.ofString "x"), .d (.str (sOf [x])))]) SubE.refl ?_ ?_ (It.str ?_ ?_) ?_ ?_ ?_ ?_ ?_) ?_ ?_) ?_
  · kernel_rfl
  · kernel_rfl
  · walk_at "m.ev"
  · exact fun c hc => sym_lt (.inl (hv c hc))
  · omega
  · exact fun c hc => As.name (by kernel_rfl)
  · intro c hc; kernel_rfl
  · intro x hx
    refine ⟨EvTs.nil, fun _ => ?_⟩
    show Ev W _ [((Str.ofString "x"), .d (.str (sOf [x]))), ((Str.ofString "sign"), .d (.str (sOf [c]))), ((Str.ofString "text"), .d (.str (sOf tx)))] _ _ _
    refine Ev.ite (EvT.cmp (a := .str (sOf [c])) (b := .str (sOf [x])) ?_ ?_ (op_eqS _ _) ?_) (fun q => ?_) fun q => Ev.ite (EvT.cmp (Ev.lower hc ?_ ?_ ?_) (Ev.lower (.inl (hv x hx)) ?_ ?_ ?_) (op_eqS _ _) ?_) (fun q' => ?_) fun q' => ?_
    · walk_at "m.ev"
    · walk_at "m.ev"
    · kernel_rfl
    · rw [sOf_beq] at q
      rw [show subc c x = 0 by simp at q; simp [subc, q]]
      exact Ev.int _ _ _
    · walk_at "m.ev"
    · intros; rfl
    · kernel_rfl
    · walk_at "m.ev"
    · intros; rfl
    · kernel_rfl
    · kernel_rfl
    · rw [sOf_beq] at q q'
      rw [show subc c x = 1 by simp at q q'; simp [subc, q, q']]
      exact Ev.int _ _ _
    · rw [sOf_beq] at q q'
      rw [show subc c x = 2 by simp at q q'; simp [subc, q, q']]
      exact Ev.int _ _ _
  · intros; rfl
  · kernel_rfl
  · intro env h
    show swapsWith _ _ _ env = _
    unfold swapsWith Env.blockKind Env.kindOf
    rw [h]
    kernel_rfl
  rw [filter_yes]
  with_reducible refine X.ret (X1.ret (Ev.tab G (letT c tx) SubE.refl ?_ ?_ (fun i j hi hj => ?_) (fun i => ?_) ?_ ?_ (fun i => ?_) (fun i => ?_) ?_ ?_) rfl)
  · kernel_rfl
  · kernel_rfl
  · with_reducible refine Ev.ite (EvT.cmp (a := .int i) (b := .int j) ?_ ?_ (op_leI _ _) ?_) (fun q => ?_) fun q => ?_
    · walk_at "m.ev"
    · walk_at "m.ev"
    · kernel_rfl
    · have hij : i ≤ j := by simpa using q
      rw [show letT c tx i j = 2 * ((j : Int) - i) + lmin (2 :: (List.range (j - i)).map fun k => subc c (tx.getD (i + k) 0) - 2) by unfold letT; rw [if_pos hij]]
      with_reducible refine Ev.bin ?_ (Ev.minL G (l := 2 :: (List.range (j - i)).map fun k => subc c (tx.getD (i + k) 0) - 2) ?_ ?_) (op_add _ _)
      · walk_at "m.ev"
      · rw [show D.list ((2 :: (List.range (j - i)).map fun k => subc c (tx.getD (i + k) 0) - 2).map .int) = D.list ([.int 2] ++ (((List.range (j - i)).filter fun _ => true).map fun k => .int (subc c (tx.getD (i + k) 0) - 2))) by rw [filter_yes]; simp]
        with_reducible refine Ev.bin (Ev.list (Evs.cons (Ev.int 2 _ _) Evs.nil ?_) ?_) (Ev.compM (fun k : Nat => .int ((i + k : Nat) : Int)) (fun x y h => ?_) (List.range (j - i)) (fun _ => true) _ (fun k => [((Str.ofString "k"), .d (.int ((i + k : Nat) : Int)))]) SubE.refl ?_ ?_ (It.range2 G ?_ ?_ ?_ ?_) ?_ ?_ ?_ (fun k hk => ⟨EvTs.nil, fun _ => ?_⟩) ?_) (op_catL _ _ ?_ ?_)
        · intros; rfl
        · simp
        · injection h with h; omega
        · kernel_rfl
        · kernel_rfl
        · walk_at "m.ev"
        · walk_at "m.ev"
        · omega
        · omega
        · simp; omega
        · exact fun k _ => As.name (by kernel_rfl)
        · intro k _; kernel_rfl
        · have hk' : k < j - i := by simpa using hk
          simp only [List.cons_append, List.nil_append]
          with_reducible refine Ev.bin (Ev.sub (a := .list (tx.map fun x => .int (subc c x))) (b := .int ((i + k : Nat) : Int)) ?_ ?_ (idx_list (d := .int (subc c (tx.getD (i + k) 0))) ?_ ?_ ?_)) (Ev.int _ _ _) (op_sub _ _)
          · walk_at "m.nm"
          · walk_at "m.nm"
          · intro _ _; rfl
          · rw [List.getElem?_map, List.getElem?_eq_getElem (by omega)]
            simp [List.getD_eq_getElem?_getD, List.getElem?_eq_getElem (show i + k < tx.length by omega)]
          · omega
        · intros; rfl
        · simp
        · rw [filter_yes]; simp; omega
      · simp
    · have hij : ¬ i ≤ j := by simpa using q
      rw [show letT c tx i j = 0 by unfold letT; rw [if_neg hij]]
      exact Ev.int _ _ _
  all_goals kernel_rfl
end

/- L24 -/
section
open PySem PySem.W
set_option maxRecDepth 100000
set_option maxHeartbeats 2000000
variable {W : Wd} {sc cs : Scope} {ρ : Vs} {n : Nat}
def kc (c : Nat) : Nat := if c = 115 ∨ c = 116 then upc c else c
def keysL : List Nat := [97, 65, 98, 66, 83, 84]
abbrev TabF := Nat → Nat → Nat → Int
def knD (K : TabF) : D := .dict (keysL.map fun c => sOf [c]) (keysL.map fun c => (mkT (K c)).d)
theorem key_at {c : Nat} (h : Sym c) : ∃ i : Nat, keysL[i]? = some (kc c) := by
  rcases h with (h | h | h | h) | h | h | h | h <;> subst h <;> first | exact ⟨0, by decide⟩ | exact ⟨1, by decide⟩ | exact ⟨2, by decide⟩ | exact ⟨3, by decide⟩ | exact ⟨4, by decide⟩ | exact ⟨5, by decide⟩
theorem inst {c : Nat} (h : Sym c) : (!(Builtin.Str.occurrences (sOf [115, 116]) (sOf [c]) 0 (sOf [115, 116]).length 1).isEmpty) = (c == 115 || c == 116) := by
  rcases h with (h | h | h | h) | h | h | h | h <;> subst h <;> decide +kernel
/-- known[x.upper() if x in 'st' else x] -/
theorem Ev.known {e1 e2 e3 : Expr} {kx : Nat} {p1 p2 p3 p4 p5 p6 kp : Pos} {c : Nat} {K : TabF} (h : Sym c) (he1 : Ev W sc ρ n e1 (.str (sOf [c]))) (he2 : Ev W sc ρ n e2 (.str (sOf [c]))) (he3 : Ev W sc ρ n e3 (.str (sOf [c]))) (hk : Ev W sc ρ n (.Name (Str.ofString "known") kp) (knD K))
    (hbase : ∀ env, attributeBase e2 (Str.ofString "upper") env (eval e2 env) = eval e2 env) (hline : (p2.endLine == p3.line) = true) (hm : behindInMarks .In (.Constant (.str (Str.ofString "st")) kx p4) = false)
    (hp : PlainIdx (.IfExp (.Compare e1 [.In] [.Constant (.str (Str.ofString "st")) kx p4] p1) (.Call (.Attribute e2 (Str.ofString "upper") p2) [] [] p3) e3 p5)) :
    Ev W sc ρ n (.Subscript (.Name (Str.ofString "known") kp) (.IfExp (.Compare e1 [.In] [.Constant (.str (Str.ofString "st")) kx p4] p1) (.Call (.Attribute e2 (Str.ofString "upper") p2) [] [] p3) e3 p5) p6) (mkT (K (kc c))).d := by
  obtain ⟨i, hi⟩ := key_at h
  with_reducible refine Ev.sub hk (b := .str (sOf [kc c])) (Ev.ite (b := c == 115 || c == 116) (inst h ▸ EvT.cmp he1 (Ev.strL [115, 116] (by decide +kernel)) (op_inS (sOf [115, 116]) (sOf [c])) hm) (fun q => ?_) fun q => ?_) (idx_dict (i := i) hp ?_ ?_)
  · rw [show kc c = upc c by unfold kc; rw [if_pos (by simpa using q)]]
    exact Ev.upper h he2 hbase hline
  · rw [show kc c = c by unfold kc; rw [if_neg (by simpa using q)]]
    exact he3
  · rw [List.getElem?_map, hi]; rfl
  · rw [List.getElem?_map, hi]; rfl
def mulT (A B : Nat → Nat → Int) (i j : Nat) : Int := if i ≤ j then lmin ((List.range (j + 1 - i)).map fun k => A i (i + k) + B (i + k) j) else 0
def chainF (K : TabF) (T : Nat → Nat → Int) (r : List Nat) : Nat → Nat → Int := r.foldl (fun T x => mulT T (K (kc x))) T
def chainT (K : TabF) : List Nat → Nat → Nat → Int
  | [] => fun _ _ => 0
  | c :: r => chainF K (K (kc c)) r
theorem dk_chain : DefOk W 241 240 [(Str.ofString "value"), (Str.ofString "known")] := by walk_at "m.dk2"
def chE (v : List Nat) (K : TabF) (T : Nat → Nat → Int) : Vs := [((Str.ofString "table"), .d (mkT T).d), ((Str.ofString "value"), .d (.str (sOf v))), ((Str.ofString "known"), .d (knD K))]
theorem mkT_get {T : Nat → Nat → Int} {e ei ej : Expr} {p q : Pos} {i j : Nat} (h : Ev W sc ρ n e (mkT T).d) (hi : Ev W sc ρ n ei (.int i)) (hj : Ev W sc ρ n ej (.int j)) (hi4 : i < 4) (hj4 : j < 4) (h1 : PlainIdx ei) (h2 : PlainIdx ej) :
    Ev W sc ρ n (.Subscript (.Subscript e ei p) ej q) (.int (T i j)) := by
  rw [mkT_d] at h
  exact Ev.sub (Ev.sub h hi (idx_list h1 (mkT_row hi4) (by omega))) hj (idx_list h2 (mkT_at hj4) (by omega))
theorem cl_chain (G : Gw W) {v : List Nat} {K : TabF} (hv : ∀ c ∈ v, Sym c) (h0 : 0 < v.length) (lv : v.length ≤ 100) : Cl W 1 (.ref 241) [.str (sOf v), knD K] (mkT (chainT K v)).d := by
  refine Cl.of G dk_chain rfl ?_
  conv => arg 5; whnf
  show X W _ [((Str.ofString "value"), .d (.str (sOf v))), ((Str.ofString "known"), .d (knD K))] _ _ _ _
  obtain ⟨c, r, rfl⟩ : ∃ c r, v = c :: r := by
    cases v with
    | nil => simp at h0
    | cons c r => exact ⟨c, r, rfl⟩
  have hv0 : ∀ p q k r', Ev W (scOf 241) [((Str.ofString "value"), .d (.str (sOf (c :: r)))), ((Str.ofString "known"), .d (knD K))] 0 (.Subscript (.Name (Str.ofString "value") p) (.Constant (.int 0) k q) r') (.str (sOf [c])) := fun p q k r' => by
    with_reducible refine Ev.sub (a := .str (sOf (c :: r))) (b := .int ((0 : Nat) : Int)) ?_ (Ev.int 0 _ _) (idx_strN (c := c) ?_ ?_ ?_)
    · walk_at "m.nm"
    · intro _ _; rfl
    · rfl
    · omega
  with_reducible refine X.seq (X1.assign (Ev.known (K := K) (hv c (by simp)) (hv0 _ _ _ _) (hv0 _ _ _ _) (hv0 _ _ _ _) ?_ ?_ ?_ ?_ ?_) ?_ ?_) ?_
  · walk_at "m.nm"
  · intros; rfl
  · kernel_rfl
  · kernel_rfl
  · intro _ _; rfl
  · kernel_rfl
  · intros; rfl
  with_reducible refine X.cons (X1.loop (J := fun i ρ => ρ = chE (c :: r) K (chainF K (K (kc c)) (r.take i))) (bs := fun i => [((Str.ofString "sign"), .d (.str (sOf [r.getD i 0])))]) (It.str (l := r) ?_ ?_) (fun i d hd => ?_) rfl (fun i d ρ' hd hJ => ?_) ?_) fun ρ' h => ?_
  · have e : sl (c :: r) (some ((1 : Nat) : Int)) none = r := by rw [sl_from]; rfl
    refine (congrArg (fun z => Ev W _ _ _ _ (.str (sOf z))) e).mp ?_
    with_reducible refine Ev.sliceS ?_ (EvP.int (Ev.int _ _ _)) EvP.none ?_ ?_
    · walk_at "m.nm"
    · omega
    · intros; rfl
  · exact fun x hx => sym_lt (hv x (by simp [hx]))
  · rw [List.getElem?_map] at hd
    obtain ⟨x, hx, rfl⟩ := Option.map_eq_some_iff.mp hd
    rw [show r.getD i 0 = x by simp [hx]]
    exact As.name (by kernel_rfl)
  · subst hJ
    rw [List.getElem?_map] at hd
    obtain ⟨x, hx, rfl⟩ := Option.map_eq_some_iff.mp hd
    rw [show r.getD i 0 = x by simp [hx]]
    have hx' : Sym x := hv x (by simp [List.mem_of_getElem? hx])
    rw [take_snoc hx, show chainF K (K (kc c)) (r.take i ++ [x]) = mulT (chainF K (K (kc c)) (r.take i)) (K (kc x)) by unfold chainF; rw [List.foldl_append]; rfl]
    generalize chainF K (K (kc c)) (r.take i) = T
    generalize c :: r = v
    show X W _ (((Str.ofString "sign"), .d (.str (sOf [x]))) :: ((Str.ofString "table"), .d (mkT T).d) :: ((Str.ofString "value"), .d (.str (sOf v))) :: ((Str.ofString "known"), .d (knD K)) :: []) _ _ _ _
    with_reducible refine X.seq (X1.assign (Ev.known (K := K) hx' ?_ ?_ ?_ ?_ ?_ ?_ ?_ ?_) ?_ ?_) ?_
    · walk_at "m.nm"
    · walk_at "m.nm"
    · walk_at "m.nm"
    · walk_at "m.nm"
    · intros; rfl
    · kernel_rfl
    · kernel_rfl
    · intro _ _; rfl
    · kernel_rfl
    · intros; rfl
    generalize K (kc x) = B
    with_reducible refine X.seq (X1.assign (d := (mkT (mulT T B)).d) (Ev.tab G (mulT T B) SubE.refl ?_ ?_ (fun i j hi hj => ?_) (fun i => ?_) ?_ ?_ (fun i => ?_) (fun i => ?_) ?_ ?_) ?_ ?_) (X.nilW rfl ?_)
    · kernel_rfl
    · kernel_rfl
    · with_reducible refine Ev.ite (EvT.cmp (a := .int i) (b := .int j) ?_ ?_ (op_leI _ _) ?_) (fun q => ?_) fun q => ?_
      · walk_at "m.ev"
      · walk_at "m.ev"
      · kernel_rfl
      · have hij : i ≤ j := by simpa using q
        rw [show mulT T B i j = lmin ((List.range (j + 1 - i)).map fun k => T i (i + k) + B (i + k) j) by unfold mulT; rw [if_pos hij]]
        with_reducible refine Ev.minL G ?_ ?_
        · rw [show D.list (((List.range (j + 1 - i)).map fun k => T i (i + k) + B (i + k) j).map .int) = D.list (((List.range (j + 1 - i)).filter fun _ => true).map fun k => .int (T i (i + k) + B (i + k) j)) by rw [filter_yes]; simp]
          with_reducible refine Ev.compM (fun k : Nat => .int ((i + k : Nat) : Int)) (fun x y h => ?_) (List.range (j + 1 - i)) (fun _ => true) _ (fun k => [((Str.ofString "k"), .d (.int ((i + k : Nat) : Int)))]) SubE.refl ?_ ?_ (It.range2 (j := j + 1) G ?_ ?_ ?_ ?_) ?_ ?_ ?_ (fun k hk => ⟨EvTs.nil, fun _ => ?_⟩) ?_
          · injection h with h; omega
          · kernel_rfl
          · kernel_rfl
          · walk_at "m.ev"
          · rw [show ((j + 1 : Nat) : Int) = (j : Int) + 1 by omega]
            walk_at "m.ev"
          · omega
          · omega
          · simp; omega
          · exact fun k _ => As.name (by kernel_rfl)
          · intro k _; kernel_rfl
          · have hk' : k < j + 1 - i := by simpa using hk
            simp only [List.cons_append, List.nil_append]
            with_reducible refine Ev.bin (mkT_get (T := T) (i := i) (j := i + k) ?_ ?_ ?_ ?_ ?_ ?_ ?_) (mkT_get (T := B) (i := i + k) (j := j) ?_ ?_ ?_ ?_ ?_ ?_ ?_) (op_add _ _)
            · walk_at "m.nm"
            · walk_at "m.nm"
            · walk_at "m.nm"
            · omega
            · omega
            · intro _ _; rfl
            · intro _ _; rfl
            · walk_at "m.nm"
            · walk_at "m.nm"
            · walk_at "m.nm"
            · omega
            · omega
            · intro _ _; rfl
            · intro _ _; rfl
          · intros; rfl
        · intro h
          have := congrArg List.length h
          simp at this
          omega
      · have hij : ¬ i ≤ j := by simpa using q
        rw [show mulT T B i j = 0 by unfold mulT; rw [if_neg hij]]
        exact Ev.int _ _ _
    · kernel_rfl
    · kernel_rfl
    · kernel_rfl
    · kernel_rfl
    · kernel_rfl
    · kernel_rfl
    · kernel_rfl
    · kernel_rfl
    · intro env h
      show swapsWith _ _ _ env = _
      unfold swapsWith Env.blockKind Env.kindOf
      rw [h]
      kernel_rfl
    · unfold chE
      walk_at "m.sb"
  · intros; rfl
  · subst h
    rw [List.length_map, List.take_length]
    unfold chE
    with_reducible refine X.ret (X1.ret (d := (mkT (chainF K (K (kc c)) r)).d) ?_ rfl)
    walk_at "m.nm"
end

/- L25 -/
section
open PySem PySem.W
set_option maxRecDepth 100000
set_option maxHeartbeats 2000000
variable {W : Wd} {sc cs : Scope} {ρ : Vs} {n : Nat}
theorem Ev.castI {e : Expr} {i j : Int} (h : Ev W sc ρ n e (.int i)) (q : i = j) : Ev W sc ρ n e (.int j) := q ▸ h
theorem op_divN (a k : Nat) (b : Int) (hb : b = k) (h0 : 0 < k) (h1 : a < 1000000000) (h2 : k < 1000000000) : Op2 W n (binaryOp .FloorDiv) (.int a) (.int b) (.int ((a / k : Nat) : Int)) := by
  subst hb
  have := op_fdiv (W := W) (n := n) (a : Int) (k : Int) (by omega) (by omega) (by omega)
  rwa [show Int.fdiv (a : Int) (k : Int) = ((a / k : Nat) : Int) by rw [Int.fdiv_eq_ediv_of_nonneg _ (by omega)]; rfl] at this
theorem op_modN (a k : Nat) (b : Int) (hb : b = k) (h0 : 0 < k) : Op2 W n (binaryOp .Mod) (.int a) (.int b) (.int ((a % k : Nat) : Int)) := by
  subst hb
  have := op_fmod (W := W) (n := n) (a : Int) (k : Int) (by omega)
  rwa [show Int.fmod (a : Int) (k : Int) = ((a % k : Nat) : Int) by rw [Int.fmod_eq_emod_of_nonneg _ (by omega)]; rfl] at this
def signC (n : Nat) : Nat := [97, 65, 98, 66].getD (n % 4) 0
def innerC (n : Nat) : Nat := [83, 84, 115, 116].getD (n / 4 % 2 + 2 * (n / 64 % 2)) 0
def nameC (k n : Nat) : Nat := [83, 115, 84, 116].getD (2 * (k / 3) + n / 32 % 2) 0
def ruleV (k n : Nat) : List Nat := if k % 3 = 0 then [signC n] else if k % 3 = 1 then [signC n, innerC n, signC (n / 8)] else if n / 8 % 2 = 0 then [signC n, innerC n] else [innerC n, signC n]
def ruleD (num : Nat → Nat) (k : Nat) : D := .tup [.str (sOf [nameC k (num k)]), .str (sOf (ruleV k (num k)))]
theorem dk_grammar : DefOk W 221 220 [(Str.ofString "numbers")] := by walk_at "m.dk1"
theorem aAbB_at (m : Nat) : ([97, 65, 98, 66] : List Nat)[m % 4]? = some (signC m) := by
  unfold signC
  have : m % 4 < 4 := Nat.mod_lt _ (by omega)
  generalize m % 4 = r at this
  match r, this with
  | 0, _ => rfl
  | 1, _ => rfl
  | 2, _ => rfl
  | 3, _ => rfl
/-- 'aAbB'[e] -/
theorem Ev.letter {e : Expr} {kx : Nat} {p q : Pos} {m : Nat} (he : Ev W sc ρ n e (.int ((m % 4 : Nat) : Int))) (hp : PlainIdx e) : Ev W sc ρ n (.Subscript (.Constant (.str (Str.ofString "aAbB")) kx p) e q) (.str (sOf [signC m])) :=
  Ev.sub (Ev.strL [97, 65, 98, 66] (by decide +kernel)) he (idx_strN hp (aAbB_at m) (by omega))
theorem Ev.div {e : Expr} {kx : Nat} {p q : Pos} {a : Nat} (k : Nat) (he : Ev W sc ρ n e (.int (a : Int))) (h0 : 0 < k) (h1 : a < 1000000000) (h2 : k < 1000000000) : Ev W sc ρ n (.BinOp e .FloorDiv (.Constant (.int (k : Int)) kx p) q) (.int ((a / k : Nat) : Int)) :=
  Ev.bin he (Ev.int _ _ _) (op_divN a k _ rfl h0 h1 h2)
theorem Ev.mod {e : Expr} {kx : Nat} {p q : Pos} {a : Nat} (k : Nat) (he : Ev W sc ρ n e (.int (a : Int))) (h0 : 0 < k) : Ev W sc ρ n (.BinOp e .Mod (.Constant (.int (k : Int)) kx p) q) (.int ((a % k : Nat) : Int)) :=
  Ev.bin he (Ev.int _ _ _) (op_modN a k _ rfl h0)
theorem name_at (i m : Nat) (hi : i < 6) : ([.str (sOf [83]), .str (sOf [115]), .str (sOf [84]), .str (sOf [116])] : List D)[2 * (i / 3) + m / 32 % 2]? = some (.str (sOf [nameC i m])) := by
  unfold nameC
  have : 2 * (i / 3) + m / 32 % 2 < 4 := by omega
  generalize 2 * (i / 3) + m / 32 % 2 = r at this
  match r, this with
  | 0, _ => rfl
  | 1, _ => rfl
  | 2, _ => rfl
  | 3, _ => rfl
theorem inner_at (m : Nat) : ([.str (sOf [83]), .str (sOf [84]), .str (sOf [115]), .str (sOf [116])] : List D)[m / 4 % 2 + 2 * (m / 64 % 2)]? = some (.str (sOf [innerC m])) := by
  unfold innerC
  have : m / 4 % 2 + 2 * (m / 64 % 2) < 4 := by omega
  generalize m / 4 % 2 + 2 * (m / 64 % 2) = r at this
  match r, this with
  | 0, _ => rfl
  | 1, _ => rfl
  | 2, _ => rfl
  | 3, _ => rfl
theorem cl_grammar (G : Gw W) (num : Nat → Nat) (ns : List Nat) (hns : ns = (List.range 7).map num) (hnum : ∀ k, num k < 2000000) : Cl W 1 (.ref 221) [.list (ns.map fun k : Nat => .int (k : Int))] (.list ((List.range 6).map (ruleD num))) := by
  refine Cl.of G dk_grammar rfl ?_
  conv => arg 5; whnf
  show X W _ [((Str.ofString "numbers"), .d (.list (ns.map fun k : Nat => .int (k : Int))))] _ _ _ _
  with_reducible refine X.seq (X1.assignOwn (EvO.list Evs.nil ?_) rfl ?_ ?_ ?_) ?_
  · simp
  · kernel_rfl
  · exact noOwn_of (by kernel_rfl)
  · intros; rfl
  have hlen : (List.range (sl (ns.map fun k : Nat => D.int (k : Int)) none (some ((6 : Nat) : Int))).length).zipWith (fun i d => D.tup [.int ((i : Nat) : Int), d]) (sl (ns.map fun k : Nat => D.int (k : Int)) none (some ((6 : Nat) : Int))) = (List.range 6).map fun i : Nat => D.tup [.int (i : Int), .int (num i : Int)] := by
    rw [sl_upto, hns]; rfl
  with_reducible refine X.cons (X1.loop (J := fun i ρ => ρ = [((Str.ofString "grammar"), .ol ((List.range i).map (ruleD num))), ((Str.ofString "numbers"), .d (.list (ns.map fun k : Nat => .int (k : Int))))]) (bs := fun i => [((Str.ofString "n"), .d (.int (num i : Int))), ((Str.ofString "k"), .d (.int (i : Int)))])
    ((congrArg (It W _ _ _ _ _) hlen).mp <| It.enum (Ev.bui G.gd ?_ G.be ?_ ?_) (Ev.sliceL (b := some ((6 : Nat) : Int)) ?_ EvP.none (EvP.int (Ev.int 6 _ _)) ?_ ?_) ?_ ?_) (fun i d hd => ?_) rfl (fun i d ρ' hd hJ => ?_) ?_) fun ρ' h => ?_
  · walk_at "m.sd"
  · kernel_rfl
  · kernel_rfl
  · walk_at "m.nm"
  · rw [hns]; simp
  · intros; rfl
  · intros; rfl
  · intros; rfl
  · obtain ⟨_, rfl⟩ := getElem_range_map hd
    exact As.tup2 (by kernel_rfl) (by kernel_rfl) (by kernel_rfl)
  · obtain ⟨hi, rfl⟩ := getElem_range_map hd
    subst hJ
    have hm := hnum i
    rw [List.range_succ, List.map_append, show List.map (ruleD num) [i] = [ruleD num i] from rfl]
    rw [show ruleD num i = D.tup [.str (sOf [nameC i (num i)]), .str (sOf (ruleV i (num i)))] from rfl]
    generalize num i = m at hm ⊢
    show X W _ (((Str.ofString "n"), .d (.int (m : Int))) :: ((Str.ofString "k"), .d (.int (i : Int))) :: ((Str.ofString "grammar"), .ol ((List.range i).map (ruleD num))) :: ((Str.ofString "numbers"), .d (.list (ns.map fun k : Nat => .int (k : Int)))) :: []) _ _ _ _
    have hi6 : i < 6 := hi
    with_reducible refine X.seq (X1.assign (Ev.sub (b := .int ((2 * (i / 3) + m / 32 % 2 : Nat) : Int)) (Ev.tup (ds := [.str (sOf [83]), .str (sOf [115]), .str (sOf [84]), .str (sOf [116])]) ?_ ?_) (Ev.castI (Ev.bin (Ev.bin (Ev.int 2 _ _) (Ev.div 3 (a := i) ?_ ?_ ?_ ?_) (op_mul _ _ ?_ ?_)) (Ev.mod 2 (Ev.div 32 (a := m) ?_ ?_ ?_ ?_) ?_) (op_add _ _)) ?_) (idx_tup ?_ (name_at i m hi6) ?_)) ?_ ?_) ?_
    · walk_at "m.es"
    · simp
    · walk_at "m.nm"
    · omega
    · omega
    · omega
    · omega
    · omega
    · walk_at "m.nm"
    · omega
    · omega
    · omega
    · omega
    · omega
    · intro _ _; rfl
    · omega
    · kernel_rfl
    · intros; rfl
    with_reducible refine X.seq (X1.assign (Ev.sub (b := .int ((m / 4 % 2 + 2 * (m / 64 % 2) : Nat) : Int)) (Ev.tup (ds := [.str (sOf [83]), .str (sOf [84]), .str (sOf [115]), .str (sOf [116])]) ?_ ?_) (Ev.castI (Ev.bin (Ev.mod 2 (Ev.div 4 (a := m) ?_ ?_ ?_ ?_) ?_) (Ev.bin (Ev.int 2 _ _) (Ev.mod 2 (Ev.div 64 (a := m) ?_ ?_ ?_ ?_) ?_) (op_mul _ _ ?_ ?_)) (op_add _ _)) ?_) (idx_tup ?_ (inner_at m) ?_)) ?_ ?_) ?_
    · walk_at "m.es"
    · simp
    · walk_at "m.nm"
    · omega
    · omega
    · omega
    · omega
    · walk_at "m.nm"
    · omega
    · omega
    · omega
    · omega
    · omega
    · omega
    · omega
    · intro _ _; rfl
    · omega
    · kernel_rfl
    · intros; rfl
    with_reducible refine X.seq (X1.assign (Ev.letter (m := m) (Ev.mod 4 ?_ ?_) ?_) ?_ ?_) ?_
    · walk_at "m.nm"
    · omega
    · intro _ _; rfl
    · kernel_rfl
    · intros; rfl
    generalize hρ : ((Str.ofString "sign"), V.d (.str (sOf [signC m]))) :: ((Str.ofString "inner"), V.d (.str (sOf [innerC m]))) :: ((Str.ofString "name"), V.d (.str (sOf [nameC i m]))) :: ((Str.ofString "n"), V.d (.int (m : Int))) :: ((Str.ofString "k"), V.d (.int (i : Int))) :: ((Str.ofString "grammar"), V.ol ((List.range i).map (ruleD num))) :: ((Str.ofString "numbers"), V.d (.list (ns.map fun k : Nat => .int (k : Int)))) :: [] = ρ0
    with_reducible refine X.cons (Rm := fun z => z = ((Str.ofString "value"), .d (.str (sOf (ruleV i m)))) :: ρ0) (X1.ite (EvT.cmp (a := .int ((i % 3 : Nat) : Int)) (b := .int 0) (Ev.mod 3 ?_ ?_) (Ev.int 0 _ _) (op_eqI _ _) ?_) (fun q => X.last (X1.assign ?_ ?_ ?_)) fun q => X.last (X1.ite (EvT.cmp (a := .int ((i % 3 : Nat) : Int)) (b := .int 1) (Ev.mod 3 ?_ ?_) (Ev.int 1 _ _) (op_eqI _ _) ?_) (fun q' => X.last (X1.assign ?_ ?_ ?_)) fun q' => X.last (X1.assign ?_ ?_ ?_))) fun ρ' e => ?_
    · subst hρ; walk_at "m.nm"
    · omega
    · kernel_rfl
    · subst hρ
      have : i % 3 = 0 := by simp at q; omega
      rw [show ruleV i m = [signC m] by unfold ruleV; rw [if_pos this]]
      walk_at "m.nm"
    · kernel_rfl
    · intros; rfl
    · subst hρ; walk_at "m.nm"
    · omega
    · kernel_rfl
    · have h0 : ¬ i % 3 = 0 := by simp at q; omega
      have h1 : i % 3 = 1 := by simp at q'; omega
      rw [show ruleV i m = [signC m] ++ [innerC m] ++ [signC (m / 8)] by unfold ruleV; rw [if_neg h0, if_pos h1]; rfl]
      subst hρ
      with_reducible refine Ev.bin (Ev.bin ?_ ?_ (op_cat _ _ ?_ ?_)) (Ev.letter (m := m / 8) (Ev.mod 4 (Ev.div 8 (a := m) ?_ ?_ ?_ ?_) ?_) ?_) (op_cat _ _ ?_ ?_)
      · walk_at "m.nm"
      · walk_at "m.nm"
      · simp
      · simp
      · walk_at "m.nm"
      · omega
      · omega
      · omega
      · omega
      · intro _ _; rfl
      · simp
      · simp
    · kernel_rfl
    · intros; rfl
    · have h0 : ¬ i % 3 = 0 := by simp at q; omega
      have h1 : ¬ i % 3 = 1 := by simp at q'; omega
      subst hρ
      with_reducible refine Ev.ite (EvT.cmp (a := .int ((m / 8 % 2 : Nat) : Int)) (b := .int 0) (Ev.mod 2 (Ev.div 8 (a := m) ?_ ?_ ?_ ?_) ?_) (Ev.int 0 _ _) (op_eqI _ _) ?_) (fun q2 => ?_) fun q2 => ?_
      · walk_at "m.nm"
      · omega
      · omega
      · omega
      · omega
      · kernel_rfl
      · have h2 : m / 8 % 2 = 0 := by simp at q2; omega
        rw [show ruleV i m = [signC m] ++ [innerC m] by unfold ruleV; rw [if_neg h0, if_neg h1, if_pos h2]; rfl]
        with_reducible refine Ev.bin ?_ ?_ (op_cat _ _ ?_ ?_)
        · walk_at "m.nm"
        · walk_at "m.nm"
        · simp
        · simp
      · have h2 : ¬ m / 8 % 2 = 0 := by simp at q2; omega
        rw [show ruleV i m = [innerC m] ++ [signC m] by unfold ruleV; rw [if_neg h0, if_neg h1, if_neg h2]; rfl]
        with_reducible refine Ev.bin ?_ ?_ (op_cat _ _ ?_ ?_)
        · walk_at "m.nm"
        · walk_at "m.nm"
        · simp
        · simp
    · kernel_rfl
    · intros; rfl
    subst e
    subst hρ
    with_reducible refine X.last (X1.weakR (X1.append (x := (Str.ofString "grammar")) (ds := (List.range i).map (ruleD num)) (d := .tup [.str (sOf [nameC i m]), .str (sOf (ruleV i m))]) ?_ (Ev.tup ?_ ?_) ?_ ?_ ?_ ?_ ?_ ?_) ⟨_, rfl, ?_⟩)
    · walk_at "m.lk"
    · walk_at "m.es"
    · simp
    · simp; omega
    · kernel_rfl
    · kernel_rfl
    · intros; rfl
    · intros; rfl
    · kernel_rfl
    · walk_at "m.sb"
  · intros; rfl
  · subst h
    rw [List.length_map, List.length_range]
    with_reducible refine X.ret (X1.retOwn (x := (Str.ofString "grammar")) ?_ rfl ?_ ?_)
    · walk_at "m.lk"
    · kernel_rfl
    · kernel_rfl
end

/- L28 -/
section
open PySem PySem.W
set_option maxRecDepth 100000
set_option maxHeartbeats 2000000
variable {W : Wd} {sc cs : Scope} {ρ : Vs} {n : Nat}
theorem flat_ints : ∀ l : List Int, flat.flats (l.map .int) = true
  | [] => rfl
  | a :: l => by simp [flat.flats, flat, flat_ints l]
theorem flat_rows : ∀ t : Tab, flat.flats (t.map fun r => .list (r.map .int)) = true
  | [] => rfl
  | a :: l => by
    have := flat_rows l
    simp [flat.flats, flat, flat_ints a] at this ⊢; exact this
theorem flat_tab (t : Tab) : flat t.d = true := by
  unfold Tab.d
  simp only [flat]; exact flat_rows t
theorem flat_tabs {α : Type} (f : α → Tab) : ∀ l : List α, flat.flats (l.map fun x => (f x).d) = true
  | [] => rfl
  | a :: l => by simp [flat.flats, flat_tab (f a), flat_tabs f l]
def ruleP (r : Nat × List Nat) : D := .tup [.str (sOf [r.1]), .str (sOf r.2)]
theorem ruleP_inj (x y : Nat × List Nat) (h : ruleP x = ruleP y) : x = y := by
  unfold ruleP at h
  injection h with h
  injection h with h1 h2
  injection h1 with h1
  injection h2 with h2 _
  injection h2 with h2
  have e1 := sOf_inj h1
  have e2 := sOf_inj h2
  cases x; cases y
  simp at e1 e2
  simp [e1, e2]
theorem tab_row_inj : ∀ a b : List Int, a.map D.int = b.map D.int → a = b
  | [], [], _ => rfl
  | [], _ :: _, h => by simp at h
  | _ :: _, [], h => by simp at h
  | x :: a, y :: b, h => by
    simp only [List.map_cons, List.cons.injEq, D.int.injEq] at h
    rw [h.1, tab_row_inj a b h.2]
theorem tab_rows_inj : ∀ a b : Tab, (a.map fun r => D.list (r.map .int)) = (b.map fun r => D.list (r.map .int)) → a = b
  | [], [], _ => rfl
  | [], _ :: _, h => by simp at h
  | _ :: _, [], h => by simp at h
  | x :: a, y :: b, h => by
    simp only [List.map_cons, List.cons.injEq, D.list.injEq] at h
    rw [tab_row_inj x y h.1, tab_rows_inj a b h.2]
theorem tab_inj (a b : Tab) (h : a.d = b.d) : a = b := by
  unfold Tab.d at h
  injection h with h
  exact tab_rows_inj a b h
/-- the least of a name's rules -/
def stepT (rs : List (Nat × List Nat)) (K : TabF) (nm : Nat) (i j : Nat) : Int := lmin ((rs.filter fun r => upc r.1 == nm).map fun r => chainT K r.2 i j)
def updK (K : TabF) (nm : Nat) (T : Nat → Nat → Int) : TabF := fun c => if c = nm then T else K c
def topT (i j : Nat) : Int := if i ≤ j then 99 else 0
def K0 (tx : List Nat) : TabF := fun c => if c = 83 ∨ c = 84 then topT else letT c tx
theorem dk_tables : DefOk W 246 245 [(Str.ofString "grammar"), (Str.ofString "text")] := by walk_at "m.dk2"
def gramD (rs : List (Nat × List Nat)) : D := .list (rs.map ruleP)
def ownK (K : TabF) : V := .od (keysL.map fun c => sOf [c]) (keysL.map fun c => (mkT (K c)).d)
def tabE (rs : List (Nat × List Nat)) (tx : List Nat) (K : TabF) (mv : Bool) : Vs := [((Str.ofString "moved"), .d (.val (.bool mv))), ((Str.ofString "known"), ownK K), ((Str.ofString "grammar"), .d (gramD rs)), ((Str.ofString "text"), .d (.str (sOf tx)))]
theorem tab_start (G : Gw W) {rs : List (Nat × List Nat)} {tx : List Nat} {Rn : Vs → Prop} {Rr : D → Prop} (hv : ∀ c ∈ tx, Ltr c) (lv : tx.length = 3) (h : X W (scOf 246) (tabE rs tx (K0 tx) true) 1 ((bodyOf 246).drop 4) Rn Rr) :
    X W (scOf 246) [((Str.ofString "grammar"), .d (gramD rs)), ((Str.ofString "text"), .d (.str (sOf tx)))] 1 (bodyOf 246) Rn Rr := by
  conv => arg 5; whnf
  with_reducible refine X.seq (X1.assignOwn (EvO.dictCompM (fun c => .str (sOf [c])) chr_inj [97, 65, 98, 66] (fun c => sOf [c]) (fun c => (mkT (letT c tx)).d) (fun c => [((Str.ofString "sign"), .d (.str (sOf [c])))]) SubE.refl ?_ ?_ (It.str ?_ ?_) ?_ ?_ ?_ ?_ (fun c hc => ?_) ?_) rfl ?_ ?_ ?_) ?_
  · kernel_rfl
  · kernel_rfl
  · walk_at "m.ev"
  · intro c hc; simp at hc; omega
  · simp
  · decide +kernel
  · exact fun c hc => As.name (by kernel_rfl)
  · intro c hc; kernel_rfl
  · have hs : Sym c := by
      simp at hc
      rcases hc with h | h | h | h <;> subst h <;> simp [Sym, Ltr]
    simp only [List.cons_append, List.nil_append]
    refine ⟨?_, Ev.fn G (cl_letter G hs hv lv) ?_ ?_ ?_ ?_ ?_ ?_ ?_⟩
    · walk_at "m.nm"
    · walk_at "m.es"
    all_goals walk_at "m.sd"
  · intros; rfl
  · kernel_rfl
  · exact noOwn_of (by kernel_rfl)
  · intro env h
    show swapsWith _ _ _ env = _
    unfold swapsWith Env.blockKind Env.kindOf
    rw [h]
    kernel_rfl
  with_reducible refine X.seq (X1.setDict (k := sOf [83]) (d := (mkT topT).d) (ks' := [sOf [97], sOf [65], sOf [98], sOf [66], sOf [83]]) (ds' := [(mkT (letT 97 tx)).d, (mkT (letT 65 tx)).d, (mkT (letT 98 tx)).d, (mkT (letT 66 tx)).d, (mkT topT).d]) lookup_cons_self
    (Ev.tab (ρ' := []) G topT SubE.nil rfl ?_ (fun i j hi hj => ?_) (fun i => ?_) ?_ ?_ (fun i => ?_) (fun i => ?_) ?_ ?_) (Ev.strL _ ?_) ?_ ?_ (.inr ⟨?_, rfl, rfl⟩) ?_ ?_ ?_) ?_
  · kernel_rfl
  · with_reducible refine Ev.ite (EvT.cmp (a := .int i) (b := .int j) ?_ ?_ (op_leI _ _) ?_) (fun q => ?_) fun q => ?_
    · walk_at "m.ev"
    · walk_at "m.ev"
    · kernel_rfl
    · rw [show topT i j = 99 by unfold topT; rw [if_pos (by simpa using q)]]
      exact Ev.int _ _ _
    · rw [show topT i j = 0 by unfold topT; rw [if_neg (by simpa using q)]]
      exact Ev.int _ _ _
  · kernel_rfl
  · kernel_rfl
  · kernel_rfl
  · kernel_rfl
  · kernel_rfl
  · kernel_rfl
  · kernel_rfl
  · decide +kernel
  · rfl
  · simp
  · decide +kernel
  · kernel_rfl
  · kernel_rfl
  · intros; rfl
  with_reducible refine X.seq (X1.setDict (k := sOf [84]) (d := (mkT topT).d) (ks' := [sOf [97], sOf [65], sOf [98], sOf [66], sOf [83], sOf [84]]) (ds' := [(mkT (letT 97 tx)).d, (mkT (letT 65 tx)).d, (mkT (letT 98 tx)).d, (mkT (letT 66 tx)).d, (mkT topT).d, (mkT topT).d]) lookup_cons_self
    (Ev.borrow (x := (Str.ofString "known")) lookup_cons_self ?_ ?_ (flat_tab _) (Ev.sub (b := .str (sOf [83])) (Ev.name lookup_cons_self ?_ ?_ ?_) (Ev.strL _ ?_) (idx_dict (i := 4) ?_ rfl rfl))) (Ev.strL _ ?_) ?_ ?_ (.inr ⟨?_, rfl, rfl⟩) ?_ ?_ ?_) ?_
  · kernel_rfl
  · exact flat_tabs (fun t => t) [_, _, _, _, _]
  · kernel_rfl
  · kernel_rfl
  · kernel_rfl
  · decide +kernel
  · intro _ _; rfl
  · decide +kernel
  · rfl
  · simp
  · decide +kernel
  · kernel_rfl
  · kernel_rfl
  · intros; rfl
  with_reducible refine X.seq (X1.assign (Ev.boolC _ _ _) ?_ ?_) ?_
  · kernel_rfl
  · intros; rfl
  with_reducible refine X.weak ?_ h
  show SubE _ _
  unfold tabE ownK
  rw [show (keysL.map fun c => (mkT (K0 tx c)).d) = [(mkT (letT 97 tx)).d, (mkT (letT 65 tx)).d, (mkT (letT 98 tx)).d, (mkT (letT 66 tx)).d, (mkT topT).d, (mkT topT).d] from rfl, show (keysL.map fun c => sOf [c]) = [sOf [97], sOf [65], sOf [98], sOf [66], sOf [83], sOf [84]] from rfl]
  walk_at "m.sb"
end

/- L29 -/
section
open PySem PySem.W
set_option maxRecDepth 100000
set_option maxHeartbeats 2000000
variable {W : Wd} {sc cs : Scope} {ρ : Vs} {n : Nat}
def getT (t : Tab) (i j : Nat) : Int := (t.getD i []).getD j 0
theorem getT_mk {T : Nat → Nat → Int} {i j : Nat} (hi : i < 4) (hj : j < 4) : getT (mkT T) i j = T i j := by
  simp [getT, mkT, hi, hj]
theorem tab_get {t : Tab} {e ei ej : Expr} {p q : Pos} {i j : Nat} (h : Ev W sc ρ n e t.d) (hi : Ev W sc ρ n ei (.int i)) (hj : Ev W sc ρ n ej (.int j)) (hw : ∃ T, t = mkT T) (hi4 : i < 4) (hj4 : j < 4) (h1 : PlainIdx ei) (h2 : PlainIdx ej) :
    Ev W sc ρ n (.Subscript (.Subscript e ei p) ej q) (.int (getT t i j)) := by
  obtain ⟨T, rfl⟩ := hw
  rw [getT_mk hi4 hj4]
  exact mkT_get h hi hj hi4 hj4 h1 h2
def nmAt (i : Nat) : Nat := if i = 0 then 84 else 83
def nmI (nm : Nat) : Nat := if nm = 83 then 4 else 5
theorem nm_key {nm : Nat} (h : nm = 83 ∨ nm = 84) : (keysL.map fun c => sOf [c])[nmI nm]? = some (sOf [nm]) := by rcases h with rfl | rfl <;> rfl
theorem nm_val {nm : Nat} {K : TabF} (h : nm = 83 ∨ nm = 84) : (keysL.map fun c => (mkT (K c)).d)[nmI nm]? = some (mkT (K nm)).d := by rcases h with rfl | rfl <;> rfl
theorem nm_set {nm : Nat} {K : TabF} {T : Nat → Nat → Int} (h : nm = 83 ∨ nm = 84) : (keysL.map fun c => (mkT (K c)).d).set (nmI nm) (mkT T).d = keysL.map fun c => (mkT (updK K nm T c)).d := by rcases h with rfl | rfl <;> rfl
theorem knD_eq (K : TabF) : D.dict (keysL.map fun c => sOf [c]) (keysL.map fun c => (mkT (K c)).d) = knD K := rfl
def optsT (rs : List (Nat × List Nat)) (K : TabF) (nm : Nat) : List Tab := (rs.filter fun r => upc r.1 == nm).map fun r => mkT (chainT K r.2)
theorem step_eq {rs : List (Nat × List Nat)} {K : TabF} {nm i j : Nat} (hi : i < 4) (hj : j < 4) : lmin ((optsT rs K nm).map fun t => getT t i j) = stepT rs K nm i j := by
  unfold optsT stepT
  rw [List.map_map]
  congr 1
  apply List.map_congr_left
  intro r _
  exact getT_mk hi hj
/-- the block of the loop that stands at i -/
def stAt (l : List Stmt) (i : Nat) : List Stmt := match l.drop i with
  | .While _ b _ _ :: _ => b
  | .For _ _ b _ _ :: _ => b
  | _ => []
/-- one name's turn -/
theorem tab_name (G : Gw W) {rs : List (Nat × List Nat)} {tx : List Nat} {K : TabF} {mv : Bool} {nm : Nat} {Rn : Vs → Prop} {Rr : D → Prop} (hnm : nm = 83 ∨ nm = 84)
    (hrs : ∀ r ∈ rs, Sym r.1 ∧ (∀ c ∈ r.2, Sym c) ∧ 0 < r.2.length ∧ r.2.length ≤ 100) (hlen : rs.length ≤ 100) (hne : (rs.filter fun r => upc r.1 == nm) ≠ [])
    (h1 : mkT (stepT rs K nm) = mkT (K nm) → Rn (tabE rs tx K mv)) (h2 : mkT (stepT rs K nm) ≠ mkT (K nm) → Rn (tabE rs tx (updK K nm (stepT rs K nm)) true)) :
    X W (scOf 246) (((Str.ofString "name"), .d (.str (sOf [nm]))) :: tabE rs tx K mv) 1 (stAt (stAt (bodyOf 246) 4) 1) Rn Rr := by
  conv => arg 5; whnf
  unfold tabE ownK
  -- options
  with_reducible refine X.seq (X1.assign (d := .list ((rs.filter fun r => upc r.1 == nm).map fun r => (mkT (chainT K r.2)).d)) (Ev.borrow (x := (Str.ofString "known")) (ks := keysL.map fun c => sOf [c]) ?_ ?_ (flat_tabs (fun c => mkT (K c)) keysL) ?_
    (Ev.compM (ρ' := [((Str.ofString "known"), .d (knD K)), ((Str.ofString "name"), .d (.str (sOf [nm])))]) ruleP ruleP_inj rs (fun r => upc r.1 == nm) _ (fun r => [((Str.ofString "value"), .d (.str (sOf r.2))), ((Str.ofString "owner"), .d (.str (sOf [r.1])))]) ?_ ?_ ?_ (It.list (ds := rs.map ruleP) ?_) ?_ ?_ ?_ (fun r hr => ⟨EvTs.one ?_, fun q => ?_⟩) ?_)) ?_ ?_) ?_
  · walk_at "m.lk"
  · kernel_rfl
  · simp only [flat]
    exact flat_tabs (fun r : Nat × List Nat => mkT (chainT K r.2)) _
  · rw [knD_eq]
    walk_at "m.sb"
  · kernel_rfl
  · kernel_rfl
  · refine Ev.name (d := gramD rs) ?_ ?_ ?_ ?_
    · walk_at "m.lk"
    · kernel_rfl
    · kernel_rfl
    · kernel_rfl
  · omega
  · exact fun r hr => As.tup2 (by kernel_rfl) (by kernel_rfl) (by kernel_rfl)
  · intro r hr; kernel_rfl
  · simp only [List.cons_append, List.nil_append]
    have hs := (hrs r hr).1
    have e : (sOf [upc r.1] == sOf [nm]) = (upc r.1 == nm) := by rw [sOf_beq]; simp
    rw [← e]
    with_reducible refine EvT.cmp (Ev.upper hs ?_ ?_ ?_) ?_ (op_eqS _ _) ?_
    · walk_at "m.nm"
    · intros; rfl
    · kernel_rfl
    · walk_at "m.nm"
    · kernel_rfl
  · simp only [List.cons_append, List.nil_append]
    obtain ⟨_, hc, h0, hl⟩ := hrs r hr
    with_reducible refine Ev.fn G (cl_chain G hc h0 hl) ?_ ?_ ?_ ?_ ?_ ?_ ?_
    · walk_at "m.es"
    all_goals walk_at "m.sd"
  · intros; rfl
  · kernel_rfl
  · intro env h
    show swapsWith _ _ _ env = _
    unfold swapsWith Env.blockKind Env.kindOf
    rw [h]
    kernel_rfl
  -- least
  rw [show (rs.filter fun r => upc r.1 == nm).map (fun r => (mkT (chainT K r.2)).d) = (optsT rs K nm).map Tab.d by unfold optsT; rw [List.map_map]; rfl]
  have hopt : optsT rs K nm ≠ [] := by
    unfold optsT
    intro h
    exact hne (List.map_eq_nil_iff.mp h)
  have hmk : ∀ t ∈ optsT rs K nm, ∃ T, t = mkT T := fun t ht => by
    unfold optsT at ht
    obtain ⟨r, _, rfl⟩ := List.mem_map.mp ht
    exact ⟨_, rfl⟩
  have hol : (optsT rs K nm).length ≤ 100 := by
    unfold optsT
    rw [List.length_map]
    exact Nat.le_trans (List.length_filter_le ..) hlen
  with_reducible refine X.seq (X1.assignCompM (ρ' := [((Str.ofString "options"), .d (.list ((optsT rs K nm).map Tab.d)))]) (fun i : Nat => .int i) int_inj (List.range 4) (fun _ => true) (fun i => .list ((List.range 4).map fun j => .int (stepT rs K nm i j))) (fun i => [((Str.ofString "i"), .d (.int i))]) ?_ ?_ ?_ (It.range1 (k := 4) G (Ev.int 4 _ _) (by omega)) ?_ ?_ ?_ (fun i hi => ⟨EvTs.nil, fun _ => ?_⟩) ?_ ?_ ?_) ?_
  · walk_at "m.sb"
  · kernel_rfl
  · kernel_rfl
  · simp
  · exact fun i _ => As.name (by kernel_rfl)
  · intro i _; kernel_rfl
  · have hi4 : i < 4 := by simpa using hi
    simp only [List.cons_append, List.nil_append]
    rw [← filter_yes (List.range 4)]
    with_reducible refine Ev.compM (fun j : Nat => .int j) int_inj (List.range 4) (fun _ => true) _ (fun j => [((Str.ofString "j"), .d (.int j))]) SubE.refl ?_ ?_ (It.range1 (k := 4) G (Ev.int 4 _ _) (by omega)) ?_ ?_ ?_ (fun j hj => ⟨EvTs.nil, fun _ => ?_⟩) ?_
    · kernel_rfl
    · kernel_rfl
    · simp
    · exact fun i _ => As.name (by kernel_rfl)
    · intro i _; kernel_rfl
    · have hj4 : j < 4 := by simpa using hj
      simp only [List.cons_append, List.nil_append]
      rw [← step_eq hi4 hj4]
      with_reducible refine Ev.minL G ?_ ?_
      · rw [show D.list (((optsT rs K nm).map fun t => getT t i j).map .int) = D.list (((optsT rs K nm).filter fun _ => true).map fun t => .int (getT t i j)) by rw [filter_yes, List.map_map]; rfl]
        with_reducible refine Ev.compM Tab.d tab_inj (optsT rs K nm) (fun _ => true) _ (fun t => [((Str.ofString "option"), .d t.d)]) SubE.refl ?_ ?_ (It.list ?_) ?_ ?_ ?_ (fun t ht => ⟨EvTs.nil, fun _ => ?_⟩) ?_
        · kernel_rfl
        · kernel_rfl
        · walk_at "m.nm"
        · omega
        · exact fun i _ => As.name (by kernel_rfl)
        · intro i _; kernel_rfl
        · simp only [List.cons_append, List.nil_append]
          refine tab_get ?_ ?_ ?_ (hmk t ht) hi4 hj4 ?_ ?_
          · walk_at "m.nm"
          · walk_at "m.nm"
          · walk_at "m.nm"
          · intro _ _; rfl
          · intro _ _; rfl
        · intros; rfl
      · intro h
        exact hopt (List.map_eq_nil_iff.mp h)
    · intros; rfl
  · kernel_rfl
  · intros; rfl
  · intro env h
    show swapsWith _ _ _ env = _
    unfold swapsWith Env.blockKind Env.kindOf
    rw [h]
    kernel_rfl
  rw [filter_yes, ← mkT_d]
  with_reducible refine X.last (X1.ite (b := mkT (stepT rs K nm) != mkT (K nm)) (EvT.borrow (x := (Str.ofString "known")) (ks := keysL.map fun c => sOf [c]) ?_ ?_ (flat_tabs (fun c => mkT (K c)) keysL) (EvT.cmp ?_ (Ev.sub (b := .str (sOf [nm])) (Ev.name lookup_cons_self ?_ ?_ ?_) ?_ (idx_dict ?_ (nm_key hnm) (nm_val hnm))) (op_neT _ _) ?_)) (fun q => ?_) fun q => ?_)
  · walk_at "m.lk"
  · kernel_rfl
  · walk_at "m.nm"
  · kernel_rfl
  · kernel_rfl
  · kernel_rfl
  · walk_at "m.nm"
  · intro _ _; rfl
  · kernel_rfl
  · with_reducible refine X.seq (X1.setDict (k := sOf [nm]) (d := (mkT (stepT rs K nm)).d) (ks := keysL.map fun c => sOf [c]) (ds := keysL.map fun c => (mkT (K c)).d) ?_ ?_ ?_ ?_ ?_ (.inl ⟨nmI nm, nm_key hnm, rfl, rfl⟩) ?_ ?_ ?_) ?_
    · walk_at "m.lk"
    · walk_at "m.nm"
    · walk_at "m.nm"
    · simp
    · decide
    · kernel_rfl
    · kernel_rfl
    · intros; rfl
    rw [nm_set hnm]
    with_reducible refine X.seq (X1.assign (Ev.boolC _ _ _) ?_ ?_) (X.nilW (h2 (by simpa using q)) ?_)
    · kernel_rfl
    · intros; rfl
    · unfold tabE ownK
      walk_at "m.sb"
  · with_reducible refine X.nilW (h1 (by simpa using q)) ?_
    unfold tabE ownK
    walk_at "m.sb"
end

/- L30 -/
section
open PySem PySem.W
set_option maxRecDepth 100000
set_option maxHeartbeats 2000000
variable {W : Wd} {sc cs : Scope} {ρ : Vs} {n : Nat}
def FixK (rs : List (Nat × List Nat)) (K : TabF) : Prop := ∀ nm, nm = 83 ∨ nm = 84 → mkT (stepT rs K nm) = mkT (K nm)
/-- _law_tables -/
theorem cl_tables (G : Gw W) {rs : List (Nat × List Nat)} {tx : List Nat} (hv : ∀ c ∈ tx, Ltr c) (lv : tx.length = 3)
    (hrs : ∀ r ∈ rs, Sym r.1 ∧ (∀ c ∈ r.2, Sym c) ∧ 0 < r.2.length ∧ r.2.length ≤ 100) (hlen : rs.length ≤ 100) (hne : ∀ nm, nm = 83 ∨ nm = 84 → (rs.filter fun r => upc r.1 == nm) ≠ [])
    (Inv : TabF → Prop) (Mz : TabF → Nat) (hI0 : Inv (K0 tx)) (hstep : ∀ K nm, nm = 83 ∨ nm = 84 → Inv K → mkT (stepT rs K nm) ≠ mkT (K nm) → Inv (updK K nm (stepT rs K nm)) ∧ Mz (updK K nm (stepT rs K nm)) < Mz K) :
    ClP W 2 (.ref 246) [gramD rs, .str (sOf tx)] (fun d => ∃ K, d = knD K ∧ Inv K ∧ FixK rs K) := by
  refine ClP.of G dk_tables rfl ?_
  show X W _ [((Str.ofString "grammar"), .d (gramD rs)), ((Str.ofString "text"), .d (.str (sOf tx)))] _ _ _ _
  refine tab_start G hv lv ?_
  conv => arg 5; whnf
  with_reducible refine X.cons (X1.while (m0 := Mz (K0 tx) + 1) (J := fun m ρ => ∃ K mv, Inv K ∧ ρ = tabE rs tx K mv ∧ ((mv = true ∧ m = Mz K + 1) ∨ (mv = false ∧ FixK rs K)))
    (Rn := fun ρ => ∃ K mv, Inv K ∧ ρ = tabE rs tx K mv ∧ FixK rs K) ⟨K0 tx, true, hI0, rfl, .inl ⟨rfl, rfl⟩⟩ ?_) fun ρ' h => ?_
  · rintro m ρ' ⟨K, mv, hI, rfl, hm⟩
    refine ⟨mv, EvT.plain (d := .val (.bool mv)) ?_ (tr_bool mv) ?_, fun q => ?_, fun q => ?_⟩
    · unfold tabE; walk_at "m.nm"
    · intros; rfl
    · subst q
      have hm' : m = Mz K + 1 := by rcases hm with ⟨_, e⟩ | ⟨e, _⟩ <;> first | exact e | cases e
      unfold tabE
      with_reducible refine X.seq (X1.assign (Ev.boolC _ _ _) ?_ ?_) ?_
      · kernel_rfl
      · intros; rfl
      with_reducible refine X.weak (ρ' := tabE rs tx K false) ?_ ?_
      · show SubE _ _
        unfold tabE
        walk_at "m.sb"
      have hlp : ∀ (K1 : TabF) (mv : Bool) (i : Nat), nmAt i = 83 ∨ nmAt i = 84 := fun _ _ i => by unfold nmAt; split <;> simp
      with_reducible refine X.last (X1.weakJ (X1.loop (J := fun i ρ => ∃ K1 mv, Inv K1 ∧ ρ = tabE rs tx K1 mv ∧ ((mv = true ∧ Mz K1 < Mz K) ∨ (mv = false ∧ K1 = K ∧ ∀ t, t < i → mkT (stepT rs K (nmAt t)) = mkT (K (nmAt t))))) (bs := fun i => [((Str.ofString "name"), .d (.str (sOf [nmAt i])))]) (It.str (l := [84, 83]) ?_ ?_) (fun i d hd => ?_)
        ⟨K, false, hI, rfl, .inr ⟨rfl, rfl, fun t ht => by omega⟩⟩ (fun i d ρ' hd hJ => ?_) ?_) fun ρ' hJ => ?_)
      · unfold tabE; walk_at "m.ev"
      · intro c hc; simp at hc; omega
      · have hd' : d = .str (sOf [nmAt i]) := by
          match i, hd with
          | 0, hd => simp at hd; simp [← hd, nmAt]
          | 1, hd => simp at hd; simp [← hd, nmAt]
        subst hd'
        exact As.name (by kernel_rfl)
      · obtain ⟨K1, mv, hI1, rfl, hc⟩ := hJ
        refine tab_name G (hlp K1 mv i) hrs hlen (hne _ (hlp K1 mv i)) (fun e => ?_) fun e => ?_
        · refine ⟨K1, mv, hI1, rfl, ?_⟩
          rcases hc with hc | ⟨e1, rfl, hc⟩
          · exact .inl hc
          · refine .inr ⟨e1, rfl, fun t ht => ?_⟩
            by_cases q : t = i
            · subst q; exact e
            · exact hc t (by omega)
        · obtain ⟨hI2, hlt⟩ := hstep K1 _ (hlp K1 mv i) hI1 e
          refine ⟨_, true, hI2, rfl, .inl ⟨rfl, ?_⟩⟩
          rcases hc with ⟨_, hc⟩ | ⟨_, rfl, _⟩
          · omega
          · exact hlt
      · intros; rfl
      · obtain ⟨K1, mv, hI1, rfl, hc⟩ := hJ
        rcases hc with ⟨rfl, hc⟩ | ⟨rfl, rfl, hc⟩
        · exact ⟨Mz K1 + 1, by omega, K1, true, hI1, rfl, .inl ⟨rfl, rfl⟩⟩
        · refine ⟨0, by omega, K1, false, hI1, rfl, .inr ⟨rfl, fun nm hnm => ?_⟩⟩
          rcases hnm with rfl | rfl
          · exact hc 1 (by simp)
          · exact hc 0 (by simp)
    · rcases hm with ⟨e, _⟩ | ⟨_, hf⟩
      · rw [q] at e; cases e
      · exact ⟨K, mv, hI, rfl, hf⟩
  obtain ⟨K, mv, hI, rfl, hf⟩ := h
  unfold tabE ownK
  with_reducible refine X.ret (X1.retOwnD (x := (Str.ofString "known")) ?_ ⟨K, rfl, hI, hf⟩ ?_ ?_)
  · walk_at "m.lk"
  · kernel_rfl
  · kernel_rfl
end

end Mine
end

/- M4 -/
section
open PySem
namespace Mine
/-- the stretch of the text from i to j -/
def st (tx : List Nat) (i j : Nat) : List Nat := (tx.drop i).take (j - i)
theorem st_len {tx : List Nat} {i j : Nat} (hj : j ≤ tx.length) : (st tx i j).length = j - i := by
  unfold st; rw [List.length_take, List.length_drop]; omega
theorem st_self (tx : List Nat) (i : Nat) : st tx i i = [] := by simp [st]
theorem st_app {tx : List Nat} {i k j : Nat} (h1 : i ≤ k) (h2 : k ≤ j) : st tx i k ++ st tx k j = st tx i j := by
  unfold st
  have e1 : tx.drop k = (tx.drop i).drop (k - i) := by rw [List.drop_drop]; congr 1; omega
  rw [e1, show j - i = (k - i) + (j - k) by omega, List.take_add]
/-- a first part of a stretch is a stretch -/
theorem st_split {tx b1 b2 : List Nat} {i j : Nat} (hij : i ≤ j) (hj : j ≤ tx.length) (h : st tx i j = b1 ++ b2) : ∃ k, i ≤ k ∧ k ≤ j ∧ b1 = st tx i k ∧ b2 = st tx k j := by
  have hl := congrArg List.length h
  rw [st_len hj, List.length_append] at hl
  refine ⟨i + b1.length, by omega, by omega, ?_⟩
  have e := st_app (tx := tx) (i := i) (k := i + b1.length) (j := j) (by omega) (by omega)
  rw [h] at e
  have l1 : (st tx i (i + b1.length)).length = b1.length := by rw [st_len (by omega)]; omega
  have := List.append_inj e l1
  exact ⟨this.1.symm, this.2.symm⟩
/- one letter -/
def oneT (c : Nat) (t : List Nat) : Int := 2 * (t.length : Int) + lmin (2 :: t.map fun x => subc c x - 2)
theorem oneT_le {c : Nat} {t : List Nat} {y : Int} (h : y ∈ (2 :: t.map fun x => subc c x - 2)) : oneT c t ≤ 2 * (t.length : Int) + y := by
  unfold oneT
  have := lmin_le h
  omega
theorem one_lower {c : Nat} {t : List Nat} {k : Int} (h : Al [c] t k) : 2 * (t.length : Int) + 2 ≤ k ∨ ∃ x ∈ t, 2 * (t.length : Int) + (subc c x - 2) ≤ k := by
  generalize hw : [c] = w at h
  induction h with
  | nil => cases hw
  | @sub x y a b k h ih =>
    simp only [List.cons.injEq] at hw
    obtain ⟨rfl, hw⟩ := hw
    subst hw
    have := h.from_nil
    refine .inr ⟨y, by simp, ?_⟩
    simp only [List.length_cons]; omega
  | @del x a b k h ih =>
    simp only [List.cons.injEq] at hw
    obtain ⟨rfl, hw⟩ := hw
    subst hw
    have := h.from_nil
    exact .inl (by omega)
  | @ins y a b k h ih =>
    rcases ih hw with q | ⟨x, hx, q⟩
    · refine .inl ?_
      simp only [List.length_cons]; omega
    · refine .inr ⟨x, List.mem_cons_of_mem _ hx, ?_⟩
      simp only [List.length_cons]; omega
theorem one_sub (c x : Nat) : ∀ (t : List Nat), x ∈ t → Al [c] t (2 * (t.length : Int) + (subc c x - 2))
  | y :: t, h => by
    rcases List.mem_cons.mp h with rfl | h
    · have := Al.sub c x (Al.ins_all t)
      have e : 2 * ((x :: t).length : Int) + (subc c x - 2) = subc c x + 2 * (t.length : Int) := by simp only [List.length_cons]; omega
      rw [e]; exact this
    · have := Al.ins y (one_sub c x t h)
      have e : 2 * ((y :: t).length : Int) + (subc c x - 2) = 2 + (2 * (t.length : Int) + (subc c x - 2)) := by simp only [List.length_cons]; omega
      rw [e]; exact this
theorem oneT_mn (c : Nat) (t : List Nat) : Mn [c] t (oneT c t) := by
  constructor
  · have hm := lmin_mem (l := 2 :: t.map fun x => subc c x - 2) (by simp)
    unfold oneT
    rcases List.mem_cons.mp hm with e | e
    · rw [e]
      have := Al.del c (Al.ins_all t)
      rwa [Int.add_comm] at this
    · obtain ⟨x, hx, e⟩ := List.mem_map.mp e
      rw [← e]
      exact one_sub c x t hx
  · intro k h
    rcases one_lower h with q | ⟨x, hx, q⟩
    · exact Int.le_trans (oneT_le (List.mem_cons_self ..)) q
    · exact Int.le_trans (oneT_le (List.mem_cons_of_mem _ (List.mem_map.mpr ⟨x, hx, rfl⟩))) q
theorem letT_one {c : Nat} {tx : List Nat} {i j : Nat} (hij : i ≤ j) (hj : j ≤ tx.length) : letT c tx i j = oneT c (st tx i j) := by
  unfold letT oneT
  rw [if_pos hij, st_len hj]
  have e : (List.range (j - i)).map (fun k => subc c (tx.getD (i + k) 0) - 2) = (st tx i j).map fun x => subc c x - 2 := by
    apply List.ext_getElem
    · rw [List.length_map, List.length_map, List.length_range, st_len hj]
    · intro n h1 h2
      simp only [List.length_map, List.length_range] at h1
      simp only [List.getElem_map, List.getElem_range]
      congr 2
      simp only [st, List.getElem_take, List.getElem_drop]
      rw [List.getD_eq_getElem?_getD, List.getElem?_eq_getElem (by omega)]
      rfl
  rw [e, show ((j - i : Nat) : Int) = (j : Int) - i by omega]
theorem letT_mn {c : Nat} {tx : List Nat} {i j : Nat} (hij : i ≤ j) (hj : j ≤ tx.length) : Mn [c] (st tx i j) (letT c tx i j) := by
  rw [letT_one hij hj]; exact oneT_mn c _
theorem letT_zero {c : Nat} {tx : List Nat} {i j : Nat} (hij : ¬ i ≤ j) : letT c tx i j = 0 := by unfold letT; rw [if_neg hij]
/- products of tables -/
inductive Path (K : TabF) : List Nat → Nat → Nat → Int → Prop
  | nil (i : Nat) : Path K [] i i 0
  | cons {c : Nat} {r : List Nat} {i k j : Nat} {x : Int} : i ≤ k → Path K r k j x → Path K (c :: r) i j (K (kc c) i k + x)
variable {K K' : TabF}
theorem Path.le {r : List Nat} {i j : Nat} {x : Int} (h : Path K r i j x) : i ≤ j := by
  induction h with
  | nil => exact Nat.le_refl _
  | cons h _ ih => omega
theorem Path.app {u v : List Nat} {i k j : Nat} {x y : Int} (h : Path K u i k x) (h' : Path K v k j y) : Path K (u ++ v) i j (x + y) := by
  induction h with
  | nil => simpa using h'
  | cons h _ ih =>
    rw [List.cons_append, Int.add_assoc]
    exact .cons h (ih h')
theorem Path.split : ∀ {u v : List Nat} {i j : Nat} {x : Int}, Path K (u ++ v) i j x → ∃ k y z, Path K u i k y ∧ Path K v k j z ∧ x = y + z
  | [], v, i, j, x, h => ⟨i, 0, x, .nil i, h, (Int.zero_add _).symm⟩
  | c :: u, v, i, j, x, h => by
    rw [List.cons_append] at h
    cases h with
    | @cons _ _ _ k _ x h1 h2 =>
      obtain ⟨k', y, z, p1, p2, rfl⟩ := Path.split h2
      exact ⟨k', _, z, .cons h1 p1, p2, (Int.add_assoc ..).symm⟩
theorem Path.one {c i j : Nat} (h : i ≤ j) : Path K [c] i j (K (kc c) i j) := by
  have := Path.cons (K := K) (c := c) h (Path.nil j)
  rwa [Int.add_zero] at this
theorem Path.one_eq {c i j : Nat} {x : Int} (h : Path K [c] i j x) : x = K (kc c) i j := by
  cases h with
  | cons _ h2 => cases h2; exact Int.add_zero _
def MinP (K : TabF) (u : List Nat) (T : Nat → Nat → Int) : Prop := ∀ i j, i ≤ j → Path K u i j (T i j) ∧ ∀ x, Path K u i j x → T i j ≤ x
theorem MinP.mul {u : List Nat} {T : Nat → Nat → Int} {c : Nat} (h : MinP K u T) : MinP K (u ++ [c]) (mulT T (K (kc c))) := fun i j hij => by
  unfold mulT
  rw [if_pos hij]
  have hne : (List.range (j + 1 - i)).map (fun k => T i (i + k) + K (kc c) (i + k) j) ≠ [] := fun q => by
    have := congrArg List.length q
    simp at this; omega
  refine ⟨?_, fun x p => ?_⟩
  · obtain ⟨k, hk, e⟩ := List.mem_map.mp (lmin_mem hne)
    have hk' : k < j + 1 - i := by simpa using hk
    rw [← e]
    exact (h i (i + k) (by omega)).1.app (Path.one (by omega))
  · obtain ⟨k, y, z, p1, p2, rfl⟩ := p.split
    have l1 := p1.le
    have l2 := p2.le
    have e := p2.one_eq
    subst e
    have q := (h i k l1).2 y p1
    refine Int.le_trans (lmin_le (a := T i k + K (kc c) k j) (List.mem_map.mpr ⟨k - i, by simp; omega, ?_⟩)) (by omega)
    rw [show i + (k - i) = k by omega]
theorem MinP.fold : ∀ (r : List Nat) {u : List Nat} {T : Nat → Nat → Int}, MinP K u T → MinP K (u ++ r) (chainF K T r)
  | [], u, T, h => by simpa [chainF] using h
  | c :: r, u, T, h => by
    have := MinP.fold r (h.mul (c := c))
    rw [List.append_assoc] at this
    exact this
theorem chain_min {v : List Nat} (hv : v ≠ []) : MinP K v (chainT K v) := by
  cases v with
  | nil => exact absurd rfl hv
  | cons c r =>
    have h0 : MinP K [c] (K (kc c)) := fun i j hij => ⟨Path.one hij, fun x p => Int.le_of_eq p.one_eq.symm⟩
    exact MinP.fold r h0
theorem chainF_zero {i j : Nat} (hij : ¬ i ≤ j) : ∀ (r : List Nat) {T : Nat → Nat → Int}, T i j = 0 → chainF K T r i j = 0
  | [], T, h => h
  | c :: r, T, h => chainF_zero hij r (T := mulT T (K (kc c))) (by unfold mulT; rw [if_neg hij])
theorem chainT_zero {v : List Nat} {i j : Nat} (hij : ¬ i ≤ j) (hK : ∀ c, K c i j = 0) : chainT K v i j = 0 := by
  cases v with
  | nil => rfl
  | cons c r => exact chainF_zero hij r (hK _)
theorem Path.mono {r : List Nat} {i j : Nat} {x : Int} (h : Path K r i j x) (hj : j < 4) (hle : ∀ c a b, a ≤ b → b < 4 → K' c a b ≤ K c a b) : ∃ y, y ≤ x ∧ Path K' r i j y := by
  induction h with
  | nil i => exact ⟨0, Int.le_refl _, .nil i⟩
  | @cons c r i k j x h1 h2 ih =>
    obtain ⟨y, hy, p⟩ := ih hj
    have := h2.le
    exact ⟨_, by have := hle (kc c) i k h1 (by omega); omega, .cons h1 p⟩
theorem Path.nonneg {r : List Nat} {i j : Nat} {x : Int} (h : Path K r i j x) (hj : j < 4) (hle : ∀ c a b, a ≤ b → b < 4 → 0 ≤ K c a b) : 0 ≤ x := by
  induction h with
  | nil i => exact Int.le_refl _
  | @cons c r i k j x h1 h2 ih =>
    have := ih hj
    have := h2.le
    have := hle (kc c) i k h1 (by omega)
    omega
theorem kc_ltr {c : Nat} (h : Ltr c) : kc c = c := by
  rcases h with rfl | rfl | rfl | rfl <;> rfl
theorem kc_nm {c : Nat} (h : Nm c) : kc c = upc c := by
  rcases h with rfl | rfl | rfl | rfl <;> decide
def LetK (tx : List Nat) (K : TabF) : Prop := ∀ c, Ltr c → ∀ i j, K c i j = letT c tx i j
variable {tx : List Nat} {rs : Gr}
/-- a word of letters: its way through the text -/
theorem path_of_al (hK : LetK tx K) {j : Nat} (hj : j ≤ tx.length) : ∀ (w : List Nat), w ≠ [] → LtrL w → ∀ {i : Nat} {k : Int}, i ≤ j → Al w (st tx i j) k → ∃ x, x ≤ k ∧ Path K w i j x
  | [], h, _, _, _, _, _ => absurd rfl h
  | [c], _, hl, i, k, hij, h => by
    have hc := hl c (by simp)
    refine ⟨_, ?_, Path.one hij⟩
    rw [kc_ltr hc, hK c hc]
    exact (letT_mn hij hj).2 k h
  | c :: d :: w, _, hl, i, k, hij, h => by
    have hc := hl c (by simp)
    obtain ⟨b1, b2, k1, k2, e, rfl, h1, h2⟩ := Al.split (a := [c]) (c := d :: w) h
    obtain ⟨m, m1, m2, rfl, rfl⟩ := st_split hij hj e
    obtain ⟨x, hx, p⟩ := path_of_al hK hj (d :: w) (by simp) (fun y hy => hl y (List.mem_cons_of_mem _ hy)) m2 h2
    refine ⟨_, ?_, Path.cons m1 p⟩
    rw [kc_ltr hc, hK c hc]
    have := (letT_mn m1 (Nat.le_trans m2 hj)).2 k1 h1
    omega
theorem al_of_path (hK : LetK tx K) {r : List Nat} {i j : Nat} {x : Int} (h : Path K r i j x) (hj : j ≤ tx.length) (hl : LtrL r) : Al r (st tx i j) x := by
  induction h with
  | nil i => rw [st_self]; exact .nil
  | @cons c r i k j x h1 h2 ih =>
    have hc := hl c (by simp)
    have l2 := h2.le
    rw [kc_ltr hc, hK c hc, ← st_app h1 l2]
    exact (letT_mn h1 (Nat.le_trans l2 hj)).1.append (ih hj fun y hy => hl y (List.mem_cons_of_mem _ hy))
/-- a step of a derivation: no way is longer than before -/
theorem mkT_eq {S T : Nat → Nat → Int} (h : mkT S = mkT T) {i j : Nat} (hi : i < 4) (hj : j < 4) : S i j = T i j := by
  have := congrArg (fun t => getT t i j) h
  simp only [getT_mk hi hj] at this
  exact this
theorem mem_rules {v : List Nat} {nm : Nat} : v ∈ rulesOf rs nm ↔ ∃ r ∈ rs, upc r.1 = nm ∧ r.2 = v := by
  unfold rulesOf
  simp only [List.mem_map, List.mem_filter, beq_iff_eq]
  exact ⟨fun ⟨r, ⟨h1, h2⟩, h3⟩ => ⟨r, h1, h2, h3⟩, fun ⟨r, h1, h2, h3⟩ => ⟨r, ⟨h1, h2⟩, h3⟩⟩
theorem step_list (rs : Gr) (K : TabF) (nm i j : Nat) : stepT rs K nm i j = lmin ((rulesOf rs nm).map fun v => chainT K v i j) := by
  unfold stepT rulesOf; rw [List.map_map]; rfl
theorem step_le {v : List Nat} {nm i j : Nat} (hv : v ∈ rulesOf rs nm) : stepT rs K nm i j ≤ chainT K v i j := by
  rw [step_list]
  exact lmin_le (List.mem_map.mpr ⟨v, hv, rfl⟩)
theorem step_mem {nm i j : Nat} (hne : rulesOf rs nm ≠ []) : ∃ v ∈ rulesOf rs nm, stepT rs K nm i j = chainT K v i j := by
  rw [step_list]
  have : (rulesOf rs nm).map (fun v => chainT K v i j) ≠ [] := fun q => hne (List.map_eq_nil_iff.mp q)
  obtain ⟨v, hv, e⟩ := List.mem_map.mp (lmin_mem this)
  exact ⟨v, hv, e.symm⟩
theorem lower (hg : GOk rs) (hK : LetK tx K) (hF : FixK rs K) (ht : tx.length = 3) {r w : List Nat} (h : Gen rs r w) (hr : r ≠ []) {i j : Nat} (hij : i ≤ j) (hj : j ≤ 3) {k : Int} (ha : Al w (st tx i j) k) : ∃ x, x ≤ k ∧ Path K r i j x := by
  induction h with
  | done hl => exact path_of_al hK (by omega) _ hr hl hij ha
  | @step p s v w c hp hc hv _ ih =>
    have hlen := hg.nonempty c hc v hv
    have hvn : v ≠ [] := fun q => by rw [q] at hlen; simp at hlen
    obtain ⟨x, hx, q⟩ := ih (by intro q; simp at q; exact hvn q.2.1) ha
    obtain ⟨b, y1, z, q0, q3, rfl⟩ := Path.split q
    obtain ⟨a, y, y2, q1, q2, rfl⟩ := Path.split q0
    have l1 := q1.le
    have l2 := q2.le
    have l3 := q3.le
    have hb : b < 4 := by omega
    have e1 := mkT_eq (hF _ (upc_nm hc)) (i := a) (j := b) (by omega) hb
    have e2 := step_le (K := K) (i := a) (j := b) hv
    have e3 := ((chain_min (K := K) hvn) a b l2).2 _ q2
    refine ⟨y + (K (kc c) a b + z), ?_, q1.app (.cons l2 q3)⟩
    rw [kc_nm hc]
    omega
/-- what is true of the tables while they are turned -/
structure TInv (rs : Gr) (tx : List Nat) (K : TabF) : Prop where
  lk : LetK tx K
  zero : ∀ c i j, ¬ i ≤ j → K c i j = 0
  nn : ∀ c i j, i ≤ j → j < 4 → 0 ≤ K c i j
  sound : ∀ nm, nm = 83 ∨ nm = 84 → ∀ i j, i ≤ j → j < 4 → 99 ≤ K nm i j ∨ ∃ w, Gen rs [nm] w ∧ Al w (st tx i j) (K nm i j)
  dec : ∀ nm, nm = 83 ∨ nm = 84 → ∀ i j, i ≤ j → j < 4 → stepT rs K nm i j ≤ K nm i j
def SymL (v : List Nat) : Prop := ∀ c ∈ v, Ltr c ∨ Nm c
theorem TInv.path (h : TInv rs tx K) (ht : tx.length = 3) {r : List Nat} {i j : Nat} {x : Int} (p : Path K r i j x) (hj : j < 4) (hr : SymL r) : 99 ≤ x ∨ ∃ w, Gen rs r w ∧ Al w (st tx i j) x := by
  induction p with
  | nil i => exact .inr ⟨[], .done (by simp [LtrL]), by rw [st_self]; exact .nil⟩
  | @cons c r i k j x h1 h2 ih =>
    have l2 := h2.le
    have n1 := h.nn (kc c) i k h1 (by omega)
    have n2 := h2.nonneg hj h.nn
    rcases ih hj (fun y hy => hr y (List.mem_cons_of_mem _ hy)) with q | ⟨w, g, al⟩
    · exact .inl (by omega)
    · have hc := hr c (by simp)
      have key : 99 ≤ K (kc c) i k ∨ ∃ u, Gen rs [c] u ∧ Al u (st tx i k) (K (kc c) i k) := by
        rcases hc with hc | hc
        · refine .inr ⟨[c], .done (fun y hy => by simp at hy; exact hy ▸ hc), ?_⟩
          rw [kc_ltr hc, h.lk c hc]
          exact (letT_mn h1 (by omega)).1
        · rw [kc_nm hc]
          rcases h.sound _ (upc_nm hc) i k h1 (by omega) with q | ⟨u, g, al⟩
          · exact .inl q
          · refine .inr ⟨u, ?_, al⟩
            have hN : Nm (upc c) := by rcases upc_nm hc with e | e <;> rw [e] <;> simp [Nm]
            obtain ⟨v, hv, g'⟩ := Gen.inv (p := []) (s := []) (by simp [LtrL]) hN g
            have hu : upc (upc c) = upc c := by rcases upc_nm hc with e | e <;> rw [e] <;> decide
            rw [hu] at hv
            exact Gen.step (p := []) (s := []) (by simp [LtrL]) hc hv g'
      rcases key with q | ⟨u, gu, au⟩
      · exact .inl (by omega)
      · refine .inr ⟨u ++ w, ?_, ?_⟩
        · exact gu.app g
        · rw [← st_app h1 l2]; exact au.append al
theorem GOk.sym (hg : GOk rs) {nm : Nat} (hnm : nm = 83 ∨ nm = 84) {v : List Nat} (hv : v ∈ rulesOf rs nm) : v ≠ [] ∧ SymL v := by
  obtain ⟨x, v1, v2, e, hx, L1, L2⟩ := hg _ hnm
  have lin : ∀ v, Lin v → v ≠ [] ∧ SymL v := fun v L => by
    obtain ⟨p, c, s, rfl, hp, hs, hc, _⟩ := L
    refine ⟨by simp, fun y hy => ?_⟩
    simp only [List.mem_append, List.mem_cons] at hy
    rcases hy with hy | rfl | hy
    · exact .inl (hp y hy)
    · exact .inr hc
    · exact .inl (hs y hy)
  rw [e] at hv
  simp at hv
  rcases hv with rfl | rfl | rfl
  · exact ⟨by simp, fun y hy => by simp at hy; exact .inl (hy ▸ hx)⟩
  · exact lin _ L1
  · exact lin _ L2
theorem GOk.some (hg : GOk rs) {nm : Nat} (hnm : nm = 83 ∨ nm = 84) : rulesOf rs nm ≠ [] := by
  obtain ⟨x, v1, v2, e, _⟩ := hg _ hnm
  rw [e]; simp
theorem step_mono (hg : GOk rs) (hle : ∀ c a b, a ≤ b → b < 4 → K' c a b ≤ K c a b) {nm : Nat} (hnm : nm = 83 ∨ nm = 84) {i j : Nat} (hij : i ≤ j) (hj : j < 4) : stepT rs K' nm i j ≤ stepT rs K nm i j := by
  obtain ⟨v, hv, e⟩ := step_mem (K := K) (i := i) (j := j) (hg.some hnm)
  have hvn := (hg.sym hnm hv).1
  rw [e]
  obtain ⟨y, hy, p⟩ := ((chain_min (K := K) hvn) i j hij).1.mono hj hle
  exact Int.le_trans (Int.le_trans (step_le hv) ((chain_min (K := K') hvn i j hij).2 y p)) hy
theorem letT_le {c : Nat} {i j : Nat} (hij : i ≤ j) (hj : j ≤ tx.length) : letT c tx i j ≤ 2 * ((j : Int) - i) + 2 := by
  rw [letT_one hij hj]
  refine Int.le_trans (oneT_le (List.mem_cons_self ..)) ?_
  rw [st_len hj]; omega
theorem TInv.start (hg : GOk rs) (ht : tx.length = 3) : TInv rs tx (K0 tx) where
  lk := fun c hc i j => by
    unfold K0
    rw [if_neg]
    unfold Ltr at hc; omega
  zero := fun c i j hij => by
    unfold K0
    split
    · unfold topT; rw [if_neg hij]
    · exact letT_zero hij
  nn := fun c i j hij hj => by
    unfold K0
    split
    · unfold topT; rw [if_pos hij]; omega
    · exact (letT_mn hij (by omega)).1.nonneg
  sound := fun nm hnm i j hij hj => .inl (by
    unfold K0 topT
    rw [if_pos hnm, if_pos hij]; exact Int.le_refl _)
  dec := fun nm hnm i j hij hj => by
    have e : K0 tx nm i j = 99 := by unfold K0 topT; rw [if_pos hnm, if_pos hij]
    obtain ⟨x, v1, v2, er, hx, _⟩ := hg _ hnm
    rw [e]
    refine Int.le_trans (step_le (v := [x]) (by rw [er]; simp)) ?_
    show K0 tx (kc x) i j ≤ 99
    rw [kc_ltr hx]
    unfold K0
    rw [if_neg (by unfold Ltr at hx; omega)]
    have := letT_le (tx := tx) (c := x) hij (by omega)
    omega
theorem stepT_zero (hg : GOk rs) {nm i j : Nat} (hnm : nm = 83 ∨ nm = 84) (hij : ¬ i ≤ j) (hz : ∀ c i j, ¬ i ≤ j → K c i j = 0) : stepT rs K nm i j = 0 := by
  obtain ⟨v, _, e⟩ := step_mem (K := K) (i := i) (j := j) (hg.some hnm)
  rw [e]
  exact chainT_zero hij fun c => hz c i j hij
theorem updK_le (h : TInv rs tx K) {nm : Nat} (hnm : nm = 83 ∨ nm = 84) : ∀ c a b, a ≤ b → b < 4 → updK K nm (stepT rs K nm) c a b ≤ K c a b := fun c a b hab hb => by
  unfold updK
  split
  · rename_i q; subst q; exact h.dec _ hnm a b hab hb
  · exact Int.le_refl _
theorem TInv.step (h : TInv rs tx K) (hg : GOk rs) (ht : tx.length = 3) {nm : Nat} (hnm : nm = 83 ∨ nm = 84) : TInv rs tx (updK K nm (stepT rs K nm)) where
  lk := fun c hc i j => by
    unfold updK
    rw [if_neg]
    · exact h.lk c hc i j
    · unfold Ltr at hc; omega
  zero := fun c i j hij => by
    unfold updK
    split
    · exact stepT_zero hg hnm hij h.zero
    · exact h.zero c i j hij
  nn := fun c i j hij hj => by
    unfold updK
    split
    · obtain ⟨v, hv, e⟩ := step_mem (K := K) (i := i) (j := j) (hg.some hnm)
      rw [e]
      exact ((chain_min (K := K) (hg.sym hnm hv).1) i j hij).1.nonneg hj h.nn
    · exact h.nn c i j hij hj
  sound := fun nm' hnm' i j hij hj => by
    unfold updK
    split
    · rename_i q
      subst q
      obtain ⟨v, hv, e⟩ := step_mem (K := K) (i := i) (j := j) (hg.some hnm)
      obtain ⟨hvn, hs⟩ := hg.sym hnm hv
      rw [e]
      rcases h.path ht ((chain_min (K := K) hvn) i j hij).1 hj hs with q | ⟨w, g, al⟩
      · exact .inl q
      · refine .inr ⟨w, ?_, al⟩
        have hN : Nm nm' := by rcases hnm with e | e <;> rw [e] <;> simp [Nm]
        have hu : upc nm' = nm' := by rcases hnm with e | e <;> rw [e] <;> decide
        exact Gen.step (p := []) (s := []) (by simp [LtrL]) hN (by rw [hu]; exact hv) (by simpa using g)
    · exact h.sound nm' hnm' i j hij hj
  dec := fun nm' hnm' i j hij hj => by
    refine Int.le_trans (step_mono hg (updK_le h hnm) hnm' hij hj) ?_
    unfold updK
    split
    · rename_i q; subst q; exact Int.le_refl _
    · exact h.dec nm' hnm' i j hij hj
/- the measure -/
theorem sum_le {α : Type} {f g : α → Nat} : ∀ l : List α, (∀ x ∈ l, f x ≤ g x) → (l.map f).sum ≤ (l.map g).sum
  | [], _ => by simp
  | x :: l, h => by
    have h1 := h x (by simp)
    have h2 := sum_le l fun y hy => h y (List.mem_cons_of_mem _ hy)
    simp only [List.map_cons, List.sum_cons]; omega
theorem sum_lt {α : Type} {f g : α → Nat} : ∀ l : List α, (∀ x ∈ l, f x ≤ g x) → (∃ x ∈ l, f x < g x) → (l.map f).sum < (l.map g).sum
  | [], _, ⟨_, h, _⟩ => by cases h
  | x :: l, h, ⟨y, hy, hlt⟩ => by
    have h1 := h x (by simp)
    simp only [List.map_cons, List.sum_cons]
    rcases List.mem_cons.mp hy with rfl | hy
    · have := sum_le l fun y hy => h y (List.mem_cons_of_mem _ hy)
      omega
    · have := sum_lt l (fun y hy => h y (List.mem_cons_of_mem _ hy)) ⟨y, hy, hlt⟩
      omega
def Mz (K : TabF) : Nat := ((List.range 4).map fun i => ((List.range 4).map fun j => (K 83 i j).toNat + (K 84 i j).toNat).sum).sum
theorem Mz_lt (h : TInv rs tx K) (hg : GOk rs) (ht : tx.length = 3) {nm : Nat} (hnm : nm = 83 ∨ nm = 84) (hne : mkT (stepT rs K nm) ≠ mkT (K nm)) : Mz (updK K nm (stepT rs K nm)) < Mz K := by
  have hle : ∀ c i j, i < 4 → j < 4 → updK K nm (stepT rs K nm) c i j ≤ K c i j := fun c i j hi hj => by
    by_cases hij : i ≤ j
    · exact updK_le h hnm c i j hij hj
    · rw [h.zero c i j hij]
      unfold updK
      split
      · rw [stepT_zero hg hnm hij h.zero]; exact Int.le_refl _
      · rw [h.zero c i j hij]; exact Int.le_refl _
  have hex : ∃ i j, i < 4 ∧ j < 4 ∧ i ≤ j ∧ stepT rs K nm i j < K nm i j := by
    refine Classical.byContradiction fun q => hne ?_
    unfold mkT
    refine List.map_congr_left fun i hi => List.map_congr_left fun j hj => ?_
    have hi' : i < 4 := by simpa using hi
    have hj' : j < 4 := by simpa using hj
    by_cases hij : i ≤ j
    · have d := h.dec nm hnm i j hij hj'
      refine Classical.byContradiction fun z => q ⟨i, j, hi', hj', hij, ?_⟩
      omega
    · rw [h.zero nm i j hij, stepT_zero hg hnm hij h.zero]
  obtain ⟨i, j, hi, hj, hij, hlt⟩ := hex
  have nn' := (h.step hg ht hnm).nn
  have each : ∀ i ∈ List.range 4, ∀ j ∈ List.range 4, (updK K nm (stepT rs K nm) 83 i j).toNat + (updK K nm (stepT rs K nm) 84 i j).toNat ≤ (K 83 i j).toNat + (K 84 i j).toNat := fun i hi j hj => by
    have h1 := hle 83 i j (by simpa using hi) (by simpa using hj)
    have h2 := hle 84 i j (by simpa using hi) (by simpa using hj)
    omega
  unfold Mz
  refine sum_lt _ (fun i hi => sum_le _ fun j hj => each i hi j hj) ⟨i, by simpa using hi, sum_lt _ (fun j hj => each i (by simpa using hi) j hj) ⟨j, by simpa using hj, ?_⟩⟩
  have h1 := hle 83 i j hi hj
  have h2 := hle 84 i j hi hj
  have h3 := nn' nm i j hij hj
  have e : updK K nm (stepT rs K nm) nm i j = stepT rs K nm i j := by unfold updK; rw [if_pos rfl]
  rw [e] at h3
  rcases hnm with rfl | rfl
  · rw [e]; omega
  · rw [e]; omega
/-- the two halves of the law meet -/
theorem meet (hg : GOk rs) (ht : tx.length = 3) (h : TInv rs tx K) (hF : FixK rs K) {nm a : Nat} {best : Int} {word : List Nat} (hnm : nm = 83 ∨ nm = 84) (ha : a ≤ 1) (h6 : best ≤ 6) (hw : Gen rs [nm] word) (hm : Mn (tx.drop a) word best)
    (hl : ∀ w, Gen rs [nm] w → ∀ k, Al (tx.drop a) w k → best ≤ k) : K nm a 3 = best ∧ chainT K word a 3 = best ∧ word ≠ [] ∧ LtrL word := by
  have es : st tx a 3 = tx.drop a := by
    unfold st
    exact List.take_of_length_le (by rw [List.length_drop]; omega)
  have hne : word ≠ [] := fun q => by
    have := hw.len' hg
    rw [q] at this; simp at this
  have hL := hw.ltr
  have hN : Nm nm := by rcases hnm with rfl | rfl <;> simp [Nm]
  have ek : kc nm = nm := by rcases hnm with rfl | rfl <;> decide
  have hal : Al word (st tx a 3) best := by rw [es]; exact hm.1.symm
  refine ⟨?_, ?_, hne, hL⟩
  · obtain ⟨x, hx, p⟩ := lower hg h.lk hF ht hw (by simp) (by omega) (Nat.le_refl 3) hal
    have e := p.one_eq
    rw [ek] at e
    rcases h.sound nm hnm a 3 (by omega) (by omega) with q | ⟨w, g, al⟩
    · omega
    · rw [es] at al
      have := hl w g _ al.symm
      omega
  · have c := (chain_min (K := K) hne) a 3 (by omega)
    obtain ⟨x, hx, p⟩ := path_of_al h.lk (by omega) word hne hL (by omega) hal
    have h1 := c.2 x p
    have al := al_of_path h.lk c.1 (by omega) hL
    rw [es] at al
    have := hm.2 _ al.symm
    omega
end Mine
end

section
open PySem PySem.W
set_option maxRecDepth 100000
namespace Mine
local macro_rules | `(tactic| walk_at "m.dk1") => `(tactic| exact ⟨by kernel_rfl, by kernel_rfl, by kernel_rfl, by kernel_rfl, by kernel_rfl, by kernel_rfl, fun vals h => by (match vals, h with | [v], _ => kernel_rfl), by decide +kernel, by kernel_rfl, by kernel_rfl, by kernel_rfl, by kernel_rfl, by kernel_rfl, by kernel_rfl⟩)
local macro_rules | `(tactic| walk_at "m.dk2") => `(tactic| exact ⟨by kernel_rfl, by kernel_rfl, by kernel_rfl, by kernel_rfl, by kernel_rfl, by kernel_rfl, fun vals h => by (match vals, h with | [u, v], _ => kernel_rfl), by decide +kernel, by kernel_rfl, by kernel_rfl, by kernel_rfl, by kernel_rfl, by kernel_rfl, by kernel_rfl⟩)
local macro_rules | `(tactic| walk_at "m.dk3") => `(tactic| exact ⟨by kernel_rfl, by kernel_rfl, by kernel_rfl, by kernel_rfl, by kernel_rfl, by kernel_rfl, fun vals h => by (match vals, h with | [u, v, w], _ => kernel_rfl), by decide +kernel, by kernel_rfl, by kernel_rfl, by kernel_rfl, by kernel_rfl, by kernel_rfl, by kernel_rfl⟩)
local macro_rules | `(tactic| walk_at "m.lk") => `(tactic| first | (with_reducible exact lookup_cons_self) | ((with_reducible refine (lookup_cons_ne ?_).trans ?_); (focus decide +kernel); (focus walk_at "m.lk")))
local macro_rules | `(tactic| walk_at "m.nm") => `(tactic| ((with_reducible refine Ev.name ?_ ?_ ?_ ?_); (focus walk_at "m.lk"); (focus kernel_rfl); (focus kernel_rfl); (focus kernel_rfl)))
local macro_rules | `(tactic| walk_at "m.gi") => `(tactic| first
  | ((with_reducible refine Ev.gMove ‹_› ?_); kernel_rfl)
  | ((with_reducible refine Ev.gCase ‹_› ?_); kernel_rfl)
  | ((with_reducible refine Ev.gMax ‹_› ?_); kernel_rfl)
  | ((with_reducible refine Ev.gEnd ‹_› ?_); kernel_rfl)
  | ((with_reducible refine Ev.gNt ‹_› ?_); kernel_rfl))
local macro_rules | `(tactic| walk_at "m.sd") => `(tactic| first | exact Gw.nm ‹_› _ (by decide +kernel) | (intros; kernel_rfl))
local macro_rules | `(tactic| walk_at "m.om") => `(tactic| first | assumption | omega | (simp; done) | (simp; omega))
local macro_rules | `(tactic| walk_at "m.ev") => `(tactic| first
  | with_reducible exact Ev.int _ _ _
  | with_reducible exact Ev.noneC _ _
  | with_reducible exact Ev.boolC _ _ _
  | ((with_reducible refine Ev.strL _ ?_); decide +kernel)
  | walk_at "m.nm"
  | walk_at "m.gi"
  | ((with_reducible apply Ev.iadd); (focus walk_at "m.ev"); (focus walk_at "m.ev"))
  | ((with_reducible apply Ev.isub); (focus walk_at "m.ev"); (focus walk_at "m.ev"))
  | ((with_reducible apply Ev.imul); (focus walk_at "m.ev"); (focus walk_at "m.ev"); (focus walk_at "m.om"); (focus walk_at "m.om"))
  | ((with_reducible refine Ev.lenS ‹_› ?_ ?_); (focus walk_at "m.ev"); (focus walk_at "m.om"))
  | ((with_reducible refine Ev.lenL ‹_› ?_ ?_); (focus walk_at "m.ev"); (focus walk_at "m.om"))
  | ((with_reducible refine Ev.min2 ‹_› ?_ ?_); (focus walk_at "m.ev"); (focus walk_at "m.ev")))
local macro_rules | `(tactic| walk_at "m.es") => `(tactic| first
  | with_reducible exact Evs.nil
  | ((with_reducible refine Evs.cons ?_ ?_ ?_); (focus walk_at "m.ev"); (focus walk_at "m.es"); (focus (intros; kernel_rfl))))
local macro_rules | `(tactic| walk_at "m.sb") => `(tactic| repeat (first | exact SubE.nil | ((with_reducible refine SubE.cons ?_ ?_); (focus walk_at "m.lk"))))
local macro_rules | `(tactic| walk_at "m.db") => `(tactic| exact ⟨by kernel_rfl, by kernel_rfl, by kernel_rfl, by kernel_rfl, by kernel_rfl, by kernel_rfl, by decide +kernel, by kernel_rfl, by kernel_rfl, by kernel_rfl, by kernel_rfl, by kernel_rfl, by kernel_rfl⟩)
/- L31 -/
section
open PySem PySem.W
set_option maxRecDepth 100000
variable {W : Wd} {sc cs : Scope} {ρ : Vs} {n : Nat}
/- re.Pattern.search -/
theorem slot_search : Slot "re.Pattern" (Str.ofString "search") "re.Pattern.search" :=
  .of (owner := "re.Pattern") (n := "search") (by rw [typeLookup_type, builtinLookup_eq_fast]; kernel_rfl) (by decide +kernel) (by decide +kernel) (by decide +kernel)
    (by first | exact .inl (by decide +kernel) | exact .inr (by decide +kernel)) (by rw [isSubtype_type]; kernel_rfl)
theorem type_search : typeOf (.builtin "re.Pattern.search") = pure (.type "method_descriptor") := by show builtinType _ = _; rw [builtinType_eq_fast]; kernel_rfl
theorem entry_search : entryFor table "re.Pattern.search" = some Builtin.«re.Pattern.search» := entryFor_of_tree (by kernel_rfl)
theorem args_search (a b : Value) : argsOk "re.Pattern.search" ⟨[a, b], []⟩ := by unfold argsOk; kernel_rfl
theorem attrs_pattern : PlainAttrs "re.Pattern" :=
  ⟨⟨"object.__getattribute__", by rw [typeLookup_type, builtinLookup_eq_fast]; kernel_rfl, by decide +kernel⟩, by rw [typeLookup_type, builtinLookup_eq_fast]; kernel_rfl⟩
def drv : Nat → Sre.M → Option Sre.M
  | 0, _ => none
  | k + 1, m => if (m.runFor Builtin.Re.reTurnSteps).outcome.isSome then some (m.runFor Builtin.Re.reTurnSteps) else drv k (m.runFor Builtin.Re.reTurnSteps)
def failsIn (k : Nat) (m : Sre.M) : Bool := match drv k m with
  | some m' => (match m'.outcome with | some .failed => true | _ => false)
  | none => false
theorem wpAny_drive {M : Model} {A : Around} {E : Value → Shared → Prop} {s : Shared} {Q : Sre.M → Shared → Prop} : ∀ {k turns : Nat} {m m' : Sre.M}, drv k m = some m' → k ≤ turns → Q m' s → wpAny M A (Builtin.Re.reDrive turns m) Q E s
  | 0, _, _, _, h, _, _ => by cases h
  | k + 1, 0, _, _, _, h, _ => by omega
  | k + 1, turns + 1, m, m', h, hl, hq => by
    unfold drv at h
    unfold Builtin.Re.reDrive
    split at h
    · rename_i q
      cases h
      simp only [q, if_true]
      exact wpAny_pure hq
    · rename_i q
      simp only [q]
      exact wpAny_bind (wpAny_rule (wpAny_drive h (by omega) hq))
theorem wpAny_rules {M : Model} {A : Around} {E : Value → Shared → Prop} {s : Shared} {Q : PUnit → Shared → Prop} (c : Nat → Bool) (f : Nat → String) (hq : Q ⟨⟩ s) : ∀ l : List Nat,
    wpAny M A (forIn l PUnit.unit fun i _ => if c i = true then (do rule (f i); pure (ForInStep.yield PUnit.unit)) else pure (ForInStep.yield PUnit.unit)) Q E s
  | [] => wpAny_pure hq
  | i :: l => by
    rw [List.forIn_cons]
    refine wpAny_bind ?_
    split
    · exact wpAny_bind (wpAny_rule (wpAny_pure (wpAny_rules c f hq l)))
    · exact wpAny_pure (wpAny_rules c f hq l)
theorem wpAny_runOut {M : Model} {A : Around} {E : Value → Shared → Prop} {s : Shared} {Q : Option Sre.M → Shared → Prop} {m : Sre.M} {k : Nat} (h : failsIn k m = true) (hk : k ≤ 1000) (hq : Q none s) : wpAny M A (Builtin.Re.reRunToEnd m) Q E s := by
  unfold failsIn at h
  split at h
  · rename_i m' hm
    split at h
    · rename_i ho
      unfold Builtin.Re.reRunToEnd
      refine wpAny_bind (wpAny_drive hm (Nat.le_trans hk (by decide)) ?_)
      refine wpAny_bind ?_
      refine wpAny_rules (fun i => m'.seen.has i) (fun i => Sre.names.getD i "") ?_ _
      rw [ho]
      exact wpAny_pure hq
    · cases h
  · cases h
end

/- L32 -/
section
open PySem PySem.W
set_option maxRecDepth 100000
variable {W : Wd} {sc cs : Scope} {ρ : Vs} {n : Nat}
noncomputable def patF (a : Addr) : Array Value := fieldsOf a
noncomputable def itemsOf (a : Addr) : Array Value := match (hd.heap_39 par0).lookup a with
  | some { data := .seq xs _, .. } => xs
  | _ => #[]
noncomputable def codeOfP (c : Addr) : Array Nat := ((itemsOf c).map Builtin.Re.reRawOf).map (·.toNat)
def nmTexts : List (List Nat) := [[83], [84], [115], [116]]
def vlTexts : List (List Nat) := let l := [97, 65, 98, 66]; let m := [83, 84, 115, 116]
  (l.map fun a => [a]) ++ (l.flatMap fun a => m.flatMap fun n => [[a, n], [n, a]]) ++ (l.flatMap fun a => m.flatMap fun n => l.map fun b => [a, n, b])
theorem run_nm : ∀ x ∈ nmTexts, failsIn 100 (Sre.forSearch (codeOfP 75) x.toArray 0 0 (min (2 ^ 63 - 1 : Int).toNat x.toArray.size) false) = true := by decide +kernel
theorem run_vl : ∀ x ∈ vlTexts, failsIn 100 (Sre.forSearch (codeOfP 80) x.toArray 0 0 (min (2 ^ 63 - 1 : Int).toNat x.toArray.size) false) = true := by decide +kernel
theorem search_run {A : Around} {E : Value → Shared → Prop} {s : Shared} {p c : Addr} {fs items : Array Value} {kk : Nat} {x : List Nat} {t t2 t6 : Tok} {Q : Fin → Shared → Prop}
    (ho : s.heap.get? p = some { cls := .type "re.Pattern", data := .fields fs }) (hc : s.heap.get? c = some { cls := .type "tuple", data := .seq items kk }) (h5 : fs.getD 5 .none = .ref c) (h2 : fs.getD 2 .none = .int 0 t2) (h6 : fs.getD 6 .none = .int 0 t6)
    (hr : failsIn 100 (Sre.forSearch ((items.map Builtin.Re.reRawOf).map (·.toNat)) x.toArray 0 0 (min (2 ^ 63 - 1 : Int).toNat x.toArray.size) false) = true) (hq : Q (.done (.ret .none)) s) :
    wpAny (model W.prog W.w) A (Builtin.«re.Pattern.search» ⟨[.ref p, .str (sOf x) t], []⟩) Q E s := by
  unfold Builtin.«re.Pattern.search»
  refine wpAny_bind ?_
  unfold Builtin.Re.reTarget
  have e1 : Builtin.Re.reNamed "re.Pattern.search" "search" ["string", "pos", "endpos"] 1 [.str (sOf x) t] [] = pure [some (.str (sOf x) t), none, none] := by kernel_rfl
  dsimp only
  rw [e1]
  refine wpAny_bind (wpAny_pure ?_)
  dsimp only
  refine wpAny_bind (wpAny_pure (wpAny_bind (wpAny_pure ?_)))
  refine wpAny_bind (wpAny_fieldsOf ho rfl ?_)
  have e2 : Builtin.Re.reTextOf (.str (sOf x) t) = pure (x.toArray, 0) := by rfl
  rw [e2]
  refine wpAny_bind (wpAny_pure ?_)
  dsimp only
  rw [h6, h5, h2]
  rw [if_neg (by simp), if_neg (by simp [Builtin.Re.reRawNat])]
  have e3 : Builtin.Re.reNoCollectionInside (.str (sOf x) t) 0 = pure () := rfl
  rw [e3]
  refine wpAny_bind (wpAny_pure ?_)
  unfold Builtin.Re.reRawItems
  refine wpAny_bind (wpAny_bind (wpAny_seqItems hc rfl (wpAny_pure (wpAny_pure ?_))))
  unfold Builtin.Re.reAnswer
  refine wpAny_bind (wpAny_runOut (k := 100) ?_ (by omega) (wpAny_pure hq))
  have e4 : min (Int.toNat 0) x.toArray.size = 0 := by simp
  dsimp only
  rw [e4]
  exact hr
theorem call_search {A : Around} {E : Value → Shared → Prop} {s : Shared} {p c : Addr} {fs items : Array Value} {kk : Nat} {x : List Nat} {t t2 t6 : Tok} {Q : Value → Shared → Prop}
    (ho : s.heap.get? p = some { cls := .type "re.Pattern", data := .fields fs }) (hc : s.heap.get? c = some { cls := .type "tuple", data := .seq items kk }) (h5 : fs.getD 5 .none = .ref c) (h2 : fs.getD 2 .none = .int 0 t2) (h6 : fs.getD 6 .none = .int 0 t6)
    (hr : failsIn 100 (Sre.forSearch ((items.map Builtin.Re.reRawOf).map (·.toNat)) x.toArray 0 0 (min (2 ^ 63 - 1 : Int).toNat x.toArray.size) false) = true) (hq : Q .none s) :
    wpAny (model W.prog W.w) A (call (.builtin "re.Pattern.search") [.ref p, .str (sOf x) t]) Q E s := by
  refine wpAny_call_entry slot_search ⟨_, ho, rfl⟩ entry_search ?_ (args_search _ _)
  exact search_run ho hc h5 h2 h6 hr ⟨_, rfl, hq⟩
end

/- L33 -/
section
open PySem PySem.W
set_option maxRecDepth 100000
variable {W : Wd} {sc cs : Scope} {ρ : Vs} {n : Nat}
structure DefB (W : Wd) (a c : Addr) (names : List Str) : Prop where
  look : (hd.heap_39 W.w.params).lookup a = some (Gw.obj a)
  code : (hd.heap_39 W.w.params).lookup c = some { cls := .type "code", data := .fields (fieldsOf c) }
  qual : (fieldsOf c)[1]? = some (.str (fdOf a).qualname (tokOf c))
  codeIs : (fdOf a).code = .ref c
  body : (fdOf a).body = .stmts (bodyOf a)
  clo : (fdOf a).closure = []
  nd : names.Nodup
  fr : names.all (inArgs (scOf a)) = true
  kind : (scOf a).kind = .function
  glob : (fdOf a).globals = mainGlobals
  bui : (fdOf a).builtins = builtinsNs
  co : (scOf a).isCoroutine = false
  gen : (scOf a).isGenerator = false
/-- a call, whatever its arguments -/
theorem call_any {A : Around} {F : Fz} {s : Shared} {a c : Addr} {args : Args} {names : List Str} {ds : List D} {R : Result → Shared → Prop} (Pb : Fz → Prop) (G : Gw W) (k : DefB W a c names) (hn : names.length = ds.length) (hA : AOk (n + 1) A) (hsub : SubH F s.heap) (hgr : GrF W F)
    (hbind : ∀ A' E (Q : List (Str × Value) → Shared → Prop), (∀ s1 F1 vals, Pb F1 → Ext F F1 s s1 → Rds W F1 ds vals → Q (names.zip vals) s1) → wpAny (model W.prog W.w) A' (bindArgs (fdOf a) args) Q E s)
    (h : ∀ s1 F1 s2 env, Pb F1 → env.locals = s1.heap.objs.size → env.cells = cellsFrom (s1.heap.objs.size + 1) (scOf a).names [] → Ext F F1 s s1 → FE (scOf a) env → AOk n (A.deeper env) → St W (fun b => s1.heap.get? b) F1 s1.gens s1.os env (names.zip (ds.map V.d)) F1 s2 →
      wpAny (model W.prog W.w) (A.deeper env) (execs (bodyOf a) env) (fun f s' => R (.ok (.ret (match f with | .ret v => v | _ => .none))) s') (fun _ _ => False) s2) :
    codeAny (model W.prog W.w) A (.call (.ref a) args) R s := by
  have k1 : ∀ a o, W.h1.get? a = some o → s.heap.get? a = some o := fun a o e => hsub a o (hgr a o e)
  have hcells : ∀ x, (fdOf a).scope.names.lookup x = some .cell → ∀ m, ((cellsFrom m (fdOf a).scope.names []).lookup x).isSome = true := fun x hx m => cellsFrom_some _ _ _ (.inl hx)
  have hfr : ∀ x ∈ names, (fdOf a).scope.names.lookup x = some .local ∨ (fdOf a).scope.names.lookup x = some .cell := fun x hx => by
    have := List.all_eq_true.mp k.fr x hx
    unfold inArgs scOf at this
    split at this
    · exact .inl ‹_›
    · exact .inr ‹_›
    · cases this
  have hcd : W.h1.CodeRec (fdOf a).code (fdOf a).qualname := ⟨c, _, _, _, k.codeIs, G.at k.code, rfl, k.qual⟩
  refine codeAny_call_function hA.room (k1 _ _ (G.at k.look)) rfl k.co k.gen k.body (hcd.keeps k1) (hbind _ _ _ fun s1 F1 vals pb x1 r1 => ?_)
  have hlen : names.length = vals.length := hn.trans r1.length.symm
  rw [k.clo]
  refine wpAny_newFunctionEnv_cells k.kind (fun z hz => ?_) fun env he s2 x => ?_
  · have : z.1 ∈ names := by
      have := List.mem_map_of_mem (f := (·.1)) hz
      rwa [map_fst_zip hlen] at this
    rcases hfr _ this with q | q
    · exact .inl q
    · exact .inr ⟨q, hcells _ q _⟩
  · have he' : env = callEnvC (fdOf a) s1.heap.objs.size a := he
    subst he'
    have gr1 : GrF W F1 := fun b o e => x1.le _ _ (hgr b o e)
    have st := st_start (W := W) (f := a) x1.sub gr1 r1 k.kind k.glob k.bui hn k.nd hcells hfr x
    have k2 : ∀ a o, W.h1.get? a = some o → s2.heap.get? a = some o := fun b o e => st.sub _ _ (gr1 b o e)
    refine ⟨G.gd.lim.keeps k2, codeAny_func ?_⟩
    exact wpAny_mono (h s1 F1 s2 _ pb rfl rfl x1 ⟨rfl, fun y c e => x.above y c (mem_of_lookup e)⟩ hA.deeper st) (fun _ _ z => z) fun _ _ z => z.elim
def ClK (W : Wd) (n : Nat) (f : Value) (ds : List D) (kw : List (Str × Value)) (d : D) : Prop :=
  ∀ A F s vs, AOk n A → SubH F s.heap → GrF W F → Rds W F ds vs → Gv W A F s (call f vs kw) d
theorem ClK.of {a c : Addr} {names : List Str} {ds dk : List D} {kw : List (Str × Value)} {d : D} (G : Gw W) (k : DefB W a c names) (hn : names.length = (ds ++ dk).length) (hk : ∀ F, Rds W F dk (kw.map (·.2)))
    (hb : ∀ vals : List Value, vals.length = ds.length → bindArgs (fdOf a) ⟨vals, kw⟩ = pure (names.zip (vals ++ kw.map (·.2))))
    (hX : X W (scOf a) (names.zip ((ds ++ dk).map V.d)) n (bodyOf a) (fun _ => False) (fun d' => d' = d)) : ClK W (n + 1) (.ref a) ds kw d := fun A F s vs hA hsub hgr r => by
  refine wpAny_call (call_any (fun _ => True) G k hn hA hsub hgr (fun A' E Q h => ?_) fun s1 F1 s2 env _ _ _ x1 hE hA' st => ?_)
  · rw [hb vs r.length]
    exact wpAny_pure (h s F _ trivial (Ext.refl hsub) (r.append (hk F)))
  · refine wpAny_mono (hX env _ _ _ _ _ _ _ hE hA' st) (fun fl s' hp => ?_) fun _ _ y => y
    cases fl with
    | next => obtain ⟨_, _, hf, _⟩ := hp; exact hf.elim
    | brk => exact hp.elim
    | cont => exact hp.elim
    | ret v =>
      obtain ⟨F', d', rfl, rt, rd⟩ := hp
      exact ⟨F', x1.trans ⟨rt.base, rt.sub, rt.le, rt.fresh, rt.gens, rt.os⟩, rd⟩
/- is, type -/
theorem op_is (a b : Value) (hp : plainIs a b = true) : Op2 W n (compareOp .Is) (.val a) (.val b) (.val (.bool (a == b))) := fun A F s u v _ h ra rb => by
  simp only [Rd] at ra rb
  subst ra; subst rb
  exact wpAny_is_plain hp ⟨F, Ext.refl h, by simp only [Rd]⟩
theorem op_isNot (a b : Value) (hp : plainIs a b = true) : Op2 W n (compareOp .IsNot) (.val a) (.val b) (.val (.bool (!(a == b)))) := fun A F s u v _ h ra rb => by
  simp only [Rd] at ra rb
  subst ra; subst rb
  exact wpAny_isNot_plain hp ⟨F, Ext.refl h, by simp only [Rd]⟩
theorem op_isNotS (x : Str) : Op2 W n (compareOp .IsNot) (.str x) (.val .none) (.val (.bool true)) := fun A F s u v _ h ra rb => by
  simp only [Rd] at ra rb
  obtain ⟨t, rfl⟩ := ra; subst rb
  exact wpAny_isNot_plain rfl ⟨F, Ext.refl h, by simp only [Rd]; rfl⟩
theorem cl_type_str (x : Str) : Cl W n (.type "type") [.str x] (.val (.type "str")) := fun A F s vs _ h _ r => by
  match vs, r with
  | [v], r =>
    obtain ⟨t, rfl⟩ := (by simpa only [Rd] using r.1 : ∃ t, v = .str x t)
    exact call_type_of (typeIs_str s x t) (by decide) ⟨F, Ext.refl h, by simp only [Rd]⟩
end

/- L34 -/
section
open PySem PySem.W
set_option maxRecDepth 100000
set_option maxHeartbeats 2000000
variable {W : Wd} {sc cs : Scope} {ρ : Vs} {n : Nat}
structure PatOk (W : Wd) (p c : Addr) : Prop where
  obj : W.h1.get? p = some { cls := .type "re.Pattern", data := .fields (fieldsOf p) }
  tup : W.h1.get? c = some { cls := .type "tuple", data := .seq (itemsOf c) 0 }
  five : (fieldsOf p).getD 5 .none = .ref c
  two : ∃ t, (fieldsOf p).getD 2 .none = .int 0 t
  six : ∃ t, (fieldsOf p).getD 6 .none = .int 0 t
theorem Ev.search {o e : Expr} {apos pos : Pos} {p c : Addr} {x : List Nat} (P : PatOk W p c) (ho : Ev W sc ρ n o (.val (.ref p))) (he : Ev W sc ρ n e (.str (sOf x)))
    (hr : failsIn 100 (Sre.forSearch (codeOfP c) x.toArray 0 0 (min (2 ^ 63 - 1 : Int).toNat x.toArray.size) false) = true)
    (hbase : ∀ env, attributeBase o (Str.ofString "search") env (eval o env) = eval o env) (hp : ∀ env, starEach [e] env = [(false, eval e env)]) (hline : (apos.endLine == pos.line) = true) :
    Ev W sc ρ n (.Call (.Attribute o (Str.ofString "search") apos) [e] [] pos) (.val .none) := fun env A F s hs hA c =>
  Call_method1 (hbase env) (hp env) hline ((ho env A F s hs hA c).then fun v F1 s1 x1 r1 => by
    simp only [Rd] at r1
    subst r1
    have c1 := c.ext x1
    have h1 := c1.keeps1 _ _ P.obj
    refine ⟨"re.Pattern", "re.Pattern.search", attrs_pattern, slot_search, type_search, ⟨_, h1, rfl⟩, fun a e => by cases e; exact ⟨_, h1, rfl⟩, ?_⟩
    refine Calls.callWith_builtin rfl (Calls.evalArgs_plain (Calls.spliced_cons ((he env A F1 s1 hs hA c1).then fun u F2 s2 x2 r2 => Calls.spliced_nil ?_)))
    simp only [Rd] at r2
    obtain ⟨t, rfl⟩ := r2
    have c2 := c1.ext x2
    obtain ⟨t2, e2⟩ := P.two
    obtain ⟨t6, e6⟩ := P.six
    exact call_search (c2.keeps1 _ _ P.obj) (c2.keeps1 _ _ P.tup) P.five e2 e6 hr ⟨F2, x1.trans x2, by simp only [Rd]⟩)
theorem pat_name (G : Gw W) : PatOk W 76 75 := ⟨G.at (by kernel_rfl), G.at (by kernel_rfl), by kernel_rfl, ⟨0, by kernel_rfl⟩, ⟨0, by kernel_rfl⟩⟩
theorem pat_value (G : Gw W) : PatOk W 81 80 := ⟨G.at (by kernel_rfl), G.at (by kernel_rfl), by kernel_rfl, ⟨0, by kernel_rfl⟩, ⟨0, by kernel_rfl⟩⟩
theorem db_conv : DefB W 111 110 [(Str.ofString "self"), (Str.ofString "value"), (Str.ofString "name")] := by walk_at "m.db"
/-- _convert_string_type -/
theorem cl_conv (G : Gw W) (self : Value) {x : List Nat} (b : Bool) (hx : if b = true then x ∈ nmTexts else x ∈ vlTexts) : ClK W 1 (.ref 111) [.val self, .str (sOf x)] [((Str.ofString "name"), .bool b)] (.str (sOf x)) := by
  refine ClK.of (dk := [.val (.bool b)]) G db_conv rfl (fun F => ⟨by simp only [Rd], trivial⟩) (fun vals h => by match vals, h with | [u, v], _ => kernel_rfl) ?_
  conv => arg 5; whnf
  show X W _ [((Str.ofString "self"), .d (.val self)), ((Str.ofString "value"), .d (.str (sOf x))), ((Str.ofString "name"), .d (.val (.bool b)))] _ _ _ _
  with_reducible refine X.guard (b := Value.type "str" == Value.type "str") (EvT.cmp (a := .val (.type "str")) (b := .val (.type "str")) (Ev.bt G G.bt (cl_type_str (sOf x)) ?_ ?_ ?_ ?_ ?_ ?_ ?_) (Ev.bui G.gd ?_ G.bs ?_ ?_) (op_is _ _ rfl) ?_) (fun _ => ?_) fun q => ?_
  · walk_at "m.es"
  · walk_at "m.sd"
  · walk_at "m.sd"
  · walk_at "m.sd"
  · walk_at "m.sd"
  · walk_at "m.sd"
  · walk_at "m.sd"
  · walk_at "m.sd"
  · walk_at "m.sd"
  · walk_at "m.sd"
  · kernel_rfl
  · with_reducible refine X.seq (X1.assign (d := .val (.ref (if b = true then 76 else 81))) (Ev.ite (EvT.plain (d := .val (.bool b)) ?_ (tr_bool b) ?_) (fun q => ?_) fun q => ?_) ?_ ?_) ?_
    · walk_at "m.nm"
    · intros; rfl
    · rw [if_pos q]
      exact Ev.glob (v := .ref 76) G.gd (G.gm _ _ (by decide +kernel)) (fun F => by simp only [Rd]) (by kernel_rfl) (by kernel_rfl)
    · rw [if_neg (by rw [q]; decide)]
      exact Ev.glob (v := .ref 81) G.gd (G.gm _ _ (by decide +kernel)) (fun F => by simp only [Rd]) (by kernel_rfl) (by kernel_rfl)
    · kernel_rfl
    · intros; rfl
    with_reducible refine X.guard (b := false) (EvT.plain (d := .val .none) ?_ tr_none ?_) (fun q => by cases q) fun _ => X.ret (X1.ret (d := .str (sOf x)) ?_ rfl)
    · cases b with
      | true =>
        simp only [if_true] at hx ⊢
        with_reducible refine Ev.search (pat_name G) ?_ ?_ (run_nm x hx) ?_ ?_ ?_
        · walk_at "m.nm"
        · walk_at "m.nm"
        · intros; rfl
        · intros; rfl
        · kernel_rfl
      | false =>
        simp only [Bool.false_eq_true, if_false] at hx ⊢
        with_reducible refine Ev.search (pat_value G) ?_ ?_ (run_vl x hx) ?_ ?_ ?_
        · walk_at "m.nm"
        · walk_at "m.nm"
        · intros; rfl
        · intros; rfl
        · kernel_rfl
    · intros; rfl
    · walk_at "m.nm"
  · simp at q
end

/- L35 -/
section
open PySem PySem.W
set_option maxRecDepth 100000
set_option maxHeartbeats 2000000
variable {W : Wd} {sc cs : Scope} {ρ : Vs} {n : Nat}
/- things of the class Headers -/
def Ins (W : Wd) (F : Fz) (a l : Addr) : Prop := ∃ dx od t, F a = some (hdrObj dx) ∧ F dx = some od ∧ od.data = .dict #[⟨PyData.keyHash W.w.params (Str.ofString "_headers"), .str (Str.ofString "_headers") t, .ref l⟩] 1
def InsD (W : Wd) (d : D) : Prop := ∀ F u, Rd W F d u → ∃ a l, u = .ref a ∧ Ins W F a l
theorem insD_inst (l : Addr) : InsD W (.inst l) := fun F u r => by
  simp only [Rd] at r
  obtain ⟨a, dx, od, t, e, h1, h2, h3⟩ := r
  exact ⟨a, l, e, dx, od, t, h1, h2, h3⟩
theorem insD_hdr (ds : List D) : InsD W (.hdr ds) := fun F u r => by
  simp only [Rd] at r
  obtain ⟨a, dx, od, l, vs, m, t, e, h1, h2, h3, _⟩ := r
  exact ⟨a, l, e, dx, od, t, h1, h2, h3⟩
theorem GrF.k (G : Gw W) {F : Fz} {h : Heap} (hg : GrF W F) (hs : SubH F h) : (hd.heap_39 W.w.params).In h := fun a o e => hs a o (hg a o (G.k a o e))
theorem Ins.at {F : Fz} {h : Heap} {a l : Addr} (i : Ins W F a l) (hs : SubH F h) : ∃ dx od t, InstAt h a (hdrObj dx) 210 (some od) ∧ od.data = .dict #[⟨PyData.keyHash W.w.params (Str.ofString "_headers"), .str (Str.ofString "_headers") t, .ref l⟩] 1 := by
  obtain ⟨dx, od, t, h1, h2, h3⟩ := i
  exact ⟨dx, od, t, ⟨hs _ _ h1, rfl, rfl, hs _ _ h2⟩, h3⟩
theorem ga_hdr : findIn (hd.heap_39 W.w.params) (.ref 210) "__getattribute__" = some (some (.builtin "object.__getattribute__")) := by kernel_rfl
theorem gt_hdr : findIn (hd.heap_39 W.w.params) (.ref 210) "__getattr__" = some none := by kernel_rfl
/-- a method of a thing of the class -/
theorem get_meth {A : Around} {E : Value → Shared → Prop} {F : Fz} {s : Shared} {a l f : Addr} {name : Str} {pl : Sem Bool} {Q : Value × List Value → Shared → Prop} (G : Gw W) (hg : GrF W F) (hs : SubH F s.heap) (i : Ins W F a l)
    (hf : findIn (hd.heap_39 W.w.params) (.ref 210) name = some (some (.ref f))) (ht : typeIn (hd.heap_39 W.w.params) (.ref f) = some (.type "function")) (hn : ((Str.ofString "_headers") == name) = false) (h : Q (.ref f, [.ref a]) s) :
    wpAny (model W.prog W.w) A (getMethod (.ref a) name pl) Q E s := by
  obtain ⟨dx, od, t, I, hd⟩ := i.at hs
  refine method_fn (hg.k G hs) I ga_hdr gt_hdr hf ht ?_ h
  unfold shadowIn lookIn
  simp only [hd]
  simp only [List.find?_cons, List.find?_nil, Value.isStr, hn, List.any_cons, List.any_nil]
  rfl
/-- self._headers -/
theorem get_headers {A : Around} {E : Value → Shared → Prop} {F : Fz} {s : Shared} {a l : Addr} {ex : Bool} {Q : Value → Shared → Prop} (G : Gw W) (hg : GrF W F) (hs : SubH F s.heap) (i : Ins W F a l) (h : Q (.ref l) { s with toks := s.toks + 1 }) :
    wpAny (model W.prog W.w) A (getAttr (.ref a) (Str.ofString "_headers") ex) Q E s := by
  obtain ⟨dx, od, t, I, hd⟩ := i.at hs
  refine get_value (hg.k G hs) I ga_hdr (findObj_own (attr := none) (by kernel_rfl) (by kernel_rfl) rfl ?_) rfl h
  unfold lookIn
  simp only [hd]
  simp [Value.isStr]
end

/- L36 -/
section
open PySem PySem.W
set_option maxRecDepth 100000
set_option maxHeartbeats 2000000
variable {W : Wd} {sc cs : Scope} {ρ : Vs} {n : Nat}
theorem Ev.headers {o : Expr} {pos : Pos} {ds : List D} (G : Gw W) (ho : Ev W sc ρ n o (.hdr ds)) (hbase : ∀ env, attributeBase o (Str.ofString "_headers") env (eval o env) = eval o env) (htmp : ∀ u r, letTemporaryGo o u r = pure ()) :
    Ev W sc ρ n (.Attribute o (Str.ofString "_headers") pos) (.list ds) := fun env A F s hs hA c => by
  show wpAny _ A (eval (.Attribute o (Str.ofString "_headers") pos) env) _ _ s
  rw [arm_eval_Attribute, hbase]
  refine wpAny_bind ((ho env A F s hs hA c).then fun v F1 s1 x1 r1 => ?_)
  have c1 := c.ext x1
  simp only [Rd] at r1
  obtain ⟨a, dx, od, l, vs, m, t, rfl, h1, h2, h3, h4, r⟩ := r1
  refine wpAny_bind (wpAny_standAt (wpAny_bind (wpAny_holding (get_headers (l := l) G (fun b o e => c1.gr b o e) x1.sub ⟨dx, od, t, h1, h2, h3⟩ ?_))))
  rw [htmp]
  refine wpAny_bind (wpAny_pure (wpAny_pure ⟨F1, x1.trans (Ext.toks x1.sub _), ?_⟩))
  simp only [Rd]
  exact ⟨l, vs, m, rfl, h4, r⟩
/-- self._convert_string_type(e, name=b) -/
theorem Ev.conv {o e : Expr} {apos pos kp p : Pos} {kk : Nat} {d : D} {x : List Nat} {b : Bool} (G : Gw W) (ho : Ev W sc ρ (n + 1) o d) (hi : InsD W d) (he : Ev W sc ρ (n + 1) e (.str (sOf x))) (hx : if b = true then x ∈ nmTexts else x ∈ vlTexts)
    (hp : ∀ env, starEach [e] env = (false, eval e env) :: starEach [] env)
    (hv : ∀ env, eval (.Call (.Attribute o (Str.ofString "_convert_string_type") apos) [e] [⟨some (Str.ofString "name"), .Constant (.bool b) kk p, kp⟩] pos) env = (do
      let ov ← eval o env
      standAt apos.atName
      let (f, first) ← holding [ov] (getMethod ov (Str.ofString "_convert_string_type") (do return (← importBound o env).getD true))
      callWith pos f first (backTo pos (starEach [e] env)) (backToKw pos (keywordEach [⟨some (Str.ofString "name"), .Constant (.bool b) kk p, kp⟩] env)))) :
    Ev W sc ρ (n + 1) (.Call (.Attribute o (Str.ofString "_convert_string_type") apos) [e] [⟨some (Str.ofString "name"), .Constant (.bool b) kk p, kp⟩] pos) (.str (sOf x)) := fun env A F s hs hA c => by
  refine methodCall_KW ((ho env A F s hs hA c).then fun v F1 s1 x1 r1 => ?_) (hv env)
  have c1 := c.ext x1
  have gr1 : GrF W F1 := fun b o e => c1.gr b o e
  obtain ⟨a, l, rfl, i⟩ := hi _ _ r1
  refine get_meth (f := 111) G gr1 x1.sub i (by kernel_rfl) (by kernel_rfl) (by kernel_rfl) ?_
  refine callWith_KW (K := hd.heap_39 W.w.params) (gr1.k G x1.sub) (by kernel_rfl) rfl (wpAny_mono (Evs.cons he Evs.nil hp env A F1 s1 pos hs hA c1) (fun vs s2 h2 => ?_) fun _ _ y => y.elim) (by rw [hp env]; rfl) (hp env)
  obtain ⟨F2, x2, r2⟩ := h2
  have gr2 : GrF W F2 := fun b o e => x2.le _ _ (gr1 b o e)
  have hk : Ev W sc ρ (n + 1) (.Constant (.bool b) kk p) (.val (.bool b)) := Ev.boolC b kk p
  show wpAny _ A (evalAll [do let v ← eval (.Constant (.bool b) kk p) env; standAt pos; pure v]) _ _ s2
  refine wpAny_evalAll_cons (wpAny_bind ((hk env A F2 s2 hs hA (c1.ext x2)).then fun u F3 s3 x3 r3 => wpAny_bind (wpAny_standAt (wpAny_pure (wpAny_evalAll_nil ?_)))))
  simp only [Rd] at r3
  subst r3
  have gr3 : GrF W F3 := fun b o e => x3.le _ _ (gr2 b o e)
  refine ⟨gr3.k G x3.sub, ?_⟩
  match vs, r2 with
  | [v], r2 =>
    have hc := (cl_conv G (.ref a) b hx) A F3 s3 [.ref a, v] (hA.le (by omega)) x3.sub gr3 ⟨by simp only [Rd], r2.1.mono x3.le, trivial⟩
    exact Gv.of_ext ((x1.trans x2).trans x3) hc
theorem dk_all : DefOk W 149 148 [(Str.ofString "self"), (Str.ofString "name")] := by walk_at "m.dk2"
theorem lower_eq {c d : Nat} (h : Sym c) : (sOf [lowc c] == sOf [d]) = (lowc c == d) := by rw [sOf_beq]; simp
/-- Headers.get_all -/
theorem cl_all (G : Gw W) {rs : List (Nat × List Nat)} {c : Nat} (hc : c = 83 ∨ c = 84 ∨ c = 115 ∨ c = 116) (hrs : ∀ r ∈ rs, Sym r.1) (hl : rs.length ≤ 100) :
    Cl W 2 (.ref 149) [.hdr (rs.map ruleP), .str (sOf [c])] (.list ((rs.filter fun r => lowc r.1 == lowc c).map fun r => .str (sOf r.2))) := by
  refine Cl.of G dk_all rfl ?_
  conv => arg 5; whnf
  show X W _ [((Str.ofString "self"), .d (.hdr (rs.map ruleP))), ((Str.ofString "name"), .d (.str (sOf [c])))] _ _ _ _
  have hs : Sym c := .inr hc
  with_reducible refine X.seq (X1.assign (d := .str (sOf [lowc c])) (Ev.conv (x := [lowc c]) G (d := .hdr (rs.map ruleP)) ?_ (insD_hdr _) (Ev.lower hs ?_ ?_ ?_) ?_ ?_ ?_) ?_ ?_) ?_
  · walk_at "m.nm"
  · walk_at "m.nm"
  · intros; rfl
  · kernel_rfl
  · rcases hc with rfl | rfl | rfl | rfl <;> decide
  · intros; rfl
  · intros; rfl
  · kernel_rfl
  · intros; rfl
  with_reducible refine X.ret (X1.ret (Ev.compM (ρ' := [((Str.ofString "name"), .d (.str (sOf [lowc c])))]) ruleP ruleP_inj rs (fun r => lowc r.1 == lowc c) (fun r => .str (sOf r.2)) (fun r => [((Str.ofString "kv"), .d (ruleP r))]) ?_ ?_ ?_ (It.list (Ev.headers (ds := rs.map ruleP) G ?_ ?_ ?_)) ?_ ?_ ?_ (fun r hr => ⟨EvTs.one ?_, fun _ => ?_⟩) ?_) rfl)
  · walk_at "m.sb"
  · kernel_rfl
  · kernel_rfl
  · walk_at "m.nm"
  · intros; rfl
  · intros; rfl
  · omega
  · exact fun r _ => As.name (by kernel_rfl)
  · intro r _; kernel_rfl
  · simp only [List.cons_append, List.nil_append]
    rw [← lower_eq (hrs r hr)]
    with_reducible refine EvT.cmp (Ev.lower (hrs r hr) (Ev.sub (a := ruleP r) (b := .int ((0 : Nat) : Int)) ?_ (Ev.int 0 _ _) (idx_tup ?_ rfl ?_)) ?_ ?_) ?_ (op_eqS _ _) ?_
    · walk_at "m.nm"
    · intro _ _; rfl
    · omega
    · intros; rfl
    · kernel_rfl
    · walk_at "m.nm"
    · kernel_rfl
  · simp only [List.cons_append, List.nil_append]
    with_reducible refine Ev.sub (a := ruleP r) (b := .int ((1 : Nat) : Int)) ?_ (Ev.int 1 _ _) (idx_tup ?_ rfl ?_)
    · walk_at "m.nm"
    · intro _ _; rfl
    · omega
  · intros; rfl
end

/- L37 -/
section
open PySem PySem.W
set_option maxRecDepth 100000
set_option maxHeartbeats 2000000
variable {W : Wd} {sc cs : Scope} {ρ : Vs} {n : Nat} {B F0 F : Fz} {g : Array GenState} {os : OsState} {env : Env} {s : Shared}
/- what was the frame's own is told as a datum from now on -/
theorem St.freezeAt {x : Str} {U : V} {d : D} {v : Value} {a : Addr} {o : Obj} (st : St W B F0 g os env ρ F s) (hx : ρ.lookup x = some U) (hU : U.own = true) (l : Loads env s.heap x v) (ho : s.heap.get? a = some o) (hB : B a = none) (hF : F a = none) (hM : ¬ Mut env a)
    (hd : Rd W (F.put a o) d v) : St W B F0 g os env ((x, .d d) :: ρ) (F.put a o) s := by
  have le : F.le (F.put a o) := Fz.le_put _ hF
  refine ⟨st.sub.put ho, fun b p e => le _ _ (st.gr b p e), st.kind, st.glob, st.bui, st.fs, st.base, st.mb, fun b m => ?_, st.le.trans le, fun b p e => ?_, fun y d' e k => ?_, fun y V e k => ?_, fun y z V V' e e' k k' => ?_, st.gens, st.os⟩
  · rw [Fz.put_ne _ _ (show b ≠ a from fun q => hM (q ▸ m))]; exact st.mf b m
  · by_cases q : b = a
    · subst q; exact .inr hB
    · rw [Fz.put_ne _ _ q] at e; exact st.fresh b p e
  · by_cases hy : y = x
    · subst hy; rw [lookup_cons_self] at e; cases e; exact ⟨v, l, hd⟩
    · rw [lookup_cons_ne hy] at e
      obtain ⟨u, lu, ru⟩ := st.imm y d' e k
      exact ⟨u, lu, ru.mono le⟩
  · by_cases hy : y = x
    · subst hy; rw [lookup_cons_self] at e; cases e; cases k
    · rw [lookup_cons_ne hy] at e
      exact absurd (st.own1 y x V U e hx k hU) hy
  · by_cases hy : y = x
    · subst hy; rw [lookup_cons_self] at e; cases e; cases k
    · rw [lookup_cons_ne hy] at e
      exact absurd (st.own1 y x V U e hx k hU) hy
theorem X.freeze {x : Str} {ds : List D} {l : List Stmt} {Rn : Vs → Prop} {Rr : D → Prop} (hx : ρ.lookup x = some (.ol ds)) (h : X W sc ((x, .d (.list ds)) :: ρ) n l Rn Rr) : X W sc ρ n l Rn Rr := fun env A B F0 g os F s hE hA st => by
  obtain ⟨v, a, l, ⟨vs, m, rfl, ho, r⟩, hB, hF, hM⟩ := st.own x _ hx rfl
  exact h env A B F0 g os _ s hE hA (st.freezeAt hx rfl l ho hB hF hM (by simp only [Rd]; exact ⟨a, vs, m, rfl, Fz.put_self .., r.mono (Fz.le_put _ hF)⟩))
theorem X.freezeH {x : Str} {ds : List D} {l : List Stmt} {Rn : Vs → Prop} {Rr : D → Prop} (hx : ρ.lookup x = some (.oh ds)) (h : X W sc ((x, .d (.hdr ds)) :: ρ) n l Rn Rr) : X W sc ρ n l Rn Rr := fun env A B F0 g os F s hE hA st => by
  obtain ⟨v, a, l, ⟨b, dx, od, vs, m, t, rfl, h1, h2, h3, ho, r⟩, hB, hF, hM⟩ := st.own x _ hx rfl
  have le := Fz.le_put (lstObj vs m) hF
  exact h env A B F0 g os _ s hE hA (st.freezeAt hx rfl l ho hB hF hM (by simp only [Rd]; exact ⟨b, dx, od, a, vs, m, t, rfl, le _ _ h1, le _ _ h2, h3, Fz.put_self .., r.mono le⟩))
theorem X1.step {a : Stmt} {r : List Stmt} {ρ' : Vs} {A : Around} {Q : Flow → Shared → Prop} {E : Value → Shared → Prop} (h : X1 W sc ρ n a (fun z => z = ρ') (fun _ => False)) (hE : FE sc env) (hA : AOk n A) (st : St W B F0 g os env ρ F s)
    (k : ∀ F' s', St W B F0 g os env ρ' F' s' → wpAny (model W.prog W.w) A (execs r env) Q E s') : wpAny (model W.prog W.w) A (execs (a :: r) env) Q E s := by
  refine wpAny_execs_cons (wpAny_mono (h env A B F0 g os F s hE hA st) (fun fl s' hp => ?_) fun _ _ x => x.elim)
  cases fl with
  | next => obtain ⟨_, F', rfl, st'⟩ := hp; exact k F' s' st'
  | brk => exact hp.elim
  | cont => exact hp.elim
  | ret v => obtain ⟨_, _, hf, _⟩ := hp; exact hf.elim
theorem loopStep {tgt iter : Expr} {body : List Stmt} {pos : Pos} {A : Around} {r : List Stmt} {Q : Flow → Shared → Prop} {E : Value → Shared → Prop} (hE : FE sc env) (hA : AOk n A) (st : St W B F0 g os env ρ F s)
    (hIt : wpAny (model W.prog W.w) A (eval iter env) (fun x s1 => wpAny (model W.prog W.w) A (pyIter x) (fun it s2 =>
      ∃ F' I wr Si, it = .ref I ∧ Ext F F' s s2 ∧ Itr W A tgt I wr [] F' Si ∧ Si 0 s2.heap ∧ (∀ b ∈ wr, s.heap.get? b = none ∧ F' b = none)) (fun _ _ => False) s1) (fun _ _ => False) s)
    (hfold : ∀ env x, foldedSetIterable iter env x = pure x) (k : ∀ F' s', St W B F0 g os env ρ F' s' → wpAny (model W.prog W.w) A (execs r env) Q E s') : wpAny (model W.prog W.w) A (execs (.For tgt iter body [] pos :: r) env) Q E s := by
  refine wpAny_execs_cons (wpAny_mono (loopAt (ds := []) (bs := fun _ => []) (Rr := fun _ => False) (fun _ z => z = ρ) hE hA st hIt (fun i d e => by simp at e) rfl (fun i d ρ' e => by simp at e) hfold) (fun fl s' hp => ?_) fun _ _ x => x.elim)
  cases fl with
  | next => obtain ⟨_, F', rfl, st'⟩ := hp; exact k F' s' st'
  | brk => exact hp.elim
  | cont => exact hp.elim
  | ret v => obtain ⟨_, _, hf, _⟩ := hp; exact hf.elim
/-- the pairs of an empty dict -/
theorem it_items {A : Around} {tgt o : Expr} {apos pos : Pos} {d : Addr} (hs : env.scope = sc) (hA : AOk n A) (c : Ctx W env ρ F s) (hd : F d = some dicObj) (hS : (d == sysModules) = false) (ho : Ev W sc ρ n o (.val (.ref d)))
    (hbase : ∀ env, attributeBase o (Str.ofString "items") env (eval o env) = eval o env) (hline : (apos.endLine == pos.line) = true) :
    wpAny (model W.prog W.w) A (eval (.Call (.Attribute o (Str.ofString "items") apos) [] [] pos) env) (fun x s1 => wpAny (model W.prog W.w) A (pyIter x) (fun it s2 =>
      ∃ F' I wr Si, it = .ref I ∧ Ext F F' s s2 ∧ Itr W A tgt I wr [] F' Si ∧ Si 0 s2.heap ∧ (∀ b ∈ wr, s.heap.get? b = none ∧ F' b = none)) (fun _ _ => False) s1) (fun _ _ => False) s := by
  refine Call_method0 (hbase env) hline ((ho env A F s hs hA c).then fun v F1 s1 x1 r1 => ?_)
  simp only [Rd] at r1
  subst r1
  have hd1 : s1.heap.get? d = some dicObj := x1.sub _ _ (x1.le _ _ hd)
  refine ⟨"dict", "dict.items", PySem.F.plainAttrs_dict, PySem.F.slot_dict_items, PySem.F.type_dict_items, ⟨_, hd1, rfl⟩, fun a e => by cases e; exact ⟨_, hd1, rfl⟩, ?_⟩
  have hm : s1.heap.DictOf (strKind W.prog W.w) d [] := dict_of hd1 dic_new
  show wpAny _ _ (callWith pos (.builtin "dict.items") [.ref d] [] []) _ _ s1
  refine method_meetsIn PySem.F.slot_dict_items PySem.F.entry_dict_items rfl (evalArgs_none ⟨rfl, hm.typeIs, PySem.F.args_dict_items_1 _, _, meets_dict_items (strKind W.prog W.w) d hS, ⟨[], hm⟩, ?_⟩)
  show wpAny _ A (pyIter (.ref s1.heap.objs.size)) _ _ { s1 with heap := s1.heap.push { cls := .type "dict_items", data := .fields #[.ref d] } }
  generalize hH : s1.heap.push { cls := .type "dict_items", data := .fields #[.ref d] } = H
  have keepH : ∀ a o, s1.heap.get? a = some o → H.get? a = some o := fun a o e => by rw [← hH]; exact Heap.get?_push_of_some _ e
  have hv : H.IsItemsView s1.heap.objs.size d := ⟨_, by rw [← hH]; exact Heap.get?_push_size _ rfl, rfl, rfl⟩
  have hat : ∀ h : Heap, h.get? d = some dicObj → h.DictAt (strKind W.prog W.w) d [] 0 := fun h e => by
    obtain ⟨o, es, ep, ho, hc, hdd, r⟩ := dict_of (W := W) e dic_new
    rw [e] at ho; cases ho
    cases hdd
    exact ⟨_, _, e, hc, rfl, r⟩
  have x2 : Ext F F1 s { s1 with heap := H } := x1.trans (Ext.grow x1.sub H s1.toks keepH)
  refine wpAny_pyIter_items hv (hat H (keepH _ _ hd1)) ?_
  have hne : d ≠ H.objs.size := Nat.ne_of_lt (Heap.lt_size (keepH _ _ hd1))
  refine it_end (Si := fun _ h => IsItemIter h H.objs.size d 0 0 0 .none .none ∧ h.get? d = some dicObj) x2 rfl ⟨fun i h h' st hs' hk => ⟨hk _ (by simp) _ st.1, hs' _ _ (x1.le _ _ hd)⟩, fun i h st b hb => ?_, fun i s F d e => by simp at e, fun s' F' st hs' hle hwr => ?_, fun i s' Q E st hQ => ?_⟩ ⟨Heap.get?_push_size _ rfl, Heap.get?_push_of_some _ (keepH _ _ hd1)⟩
  · simp at hb; subst hb; exact ⟨_, st.1⟩
  · refine wpAny_pyNext_items_end (kvs := []) hA.handled st.1 (hat _ st.2) rfl fun h' hk => ⟨rfl, fun a o ha e => hk a o (by simpa using ha) e, fun a o e => hk a o (fun z => ?_) (hs' a o e), Fz.le.refl _, fun _ _ e => .inl e, rfl, rfl⟩
    rw [z, hwr _ (by simp)] at e; cases e
  · exact kcp_self st.1 hQ
end

/- L38 -/
section
open PySem PySem.W
set_option maxRecDepth 100000
set_option maxHeartbeats 2000000
variable {W : Wd} {sc cs : Scope} {ρ : Vs} {n : Nat} {B F0 F : Fz} {g : Array GenState} {os : OsState} {env : Env} {s : Shared}
theorem join_one : ∀ x ∈ vlTexts, Txt.join (Str.ofString "; ") [sOf x] = sOf x ∧ JoinOk (Str.ofString "; ") [sOf x] = true := by decide +kernel
theorem Ev.join {o e : Expr} {apos pos : Pos} {sep : Str} {xs : List Str} (ho : Ev W sc ρ n o (.str sep)) (he : Ev W sc ρ n e (.list (xs.map .str))) (hok : JoinOk sep xs = true)
    (hbase : ∀ env, attributeBase o (Str.ofString "join") env (eval o env) = eval o env) (hp : ∀ env, starEach [e] env = [(false, eval e env)]) (hline : (apos.endLine == pos.line) = true) :
    Ev W sc ρ n (.Call (.Attribute o (Str.ofString "join") apos) [e] [] pos) (.str (Txt.join sep xs)) := Ev.strM1 ho he PySem.F.slot_str_join PySem.F.type_str_join (cl_join sep xs hok) hbase hp hline
theorem db_add : DefB W 207 206 [(Str.ofString "self"), (Str.ofString "_name"), (Str.ofString "_value"), (Str.ofString "_params")] := by walk_at "m.db"
theorem bind_add (u v w : Value) : bindArgs (fdOf 207) ⟨[u, v, w], []⟩ = (alloc dicObj >>= fun d => pure [((Str.ofString "self"), u), ((Str.ofString "_name"), v), ((Str.ofString "_value"), w), ((Str.ofString "_params"), .ref d)]) := by kernel_rfl
/-- add_header -/
theorem call_add {A : Around} {a l : Addr} {vs : List Value} {m : Nat} {nv vv : Value} {c : Nat} {x : List Nat} {R : Result → Shared → Prop} (G : Gw W) (hA : AOk (n + 3) A) (hsub : SubH F s.heap) (hgr : GrF W F) (i : Ins W F a l) (ho : s.heap.get? l = some (lstObj vs m)) (hFl : F l = none)
    (hl : vs.length ≤ 1000) (rn : Rd W F (.str (sOf [c])) nv) (rv : Rd W F (.str (sOf x)) vv) (hc : [c] ∈ nmTexts) (hx : x ∈ vlTexts)
    (hR : ∀ F' s' u m', ExtX [l] F F' s s' → Rd W F' (ruleP (c, x)) u → s'.heap.get? l = some (lstObj (vs ++ [u]) m') → F' l = none → R (.ok (.ret .none)) s') :
    codeAny (model W.prog W.w) A (.call (.ref 207) ⟨[.ref a, nv, vv], []⟩) R s := by
  have hd0 : (s.heap.objs.size == sysModules) = false := by
    have h1 : (207 : Nat) < s.heap.objs.size := Heap.lt_size (hsub _ _ (hgr _ _ (G.at db_add.look)))
    exact beq_eq_false_iff_ne.mpr fun e => by
      have e' : s.heap.objs.size = 1 := e
      rw [e'] at h1; exact absurd h1 (by decide)
  refine call_any (n := n + 2) (ds := [.inst l, .str (sOf [c]), .str (sOf x), .val (.ref s.heap.objs.size)]) (fun F1 => F1 s.heap.objs.size = some dicObj) G db_add rfl hA hsub hgr (fun A' E Q h => ?_) fun s1 F1 s2 env pb _ _ x1 hE hA' st => ?_
  · rw [bind_add]
    refine wpAny_bind (wpAny_alloc (wpAny_pure ?_))
    have le := Fz.le_put dicObj (hsub.none (get?_size s.heap))
    refine h _ (F.put s.heap.objs.size dicObj) [.ref a, nv, vv, .ref s.heap.objs.size] (Fz.put_self ..) (Ext.push hsub dicObj rfl s.toks) ⟨?_, rn.mono le, rv.mono le, by simp only [Rd], trivial⟩
    obtain ⟨dx, od, t, h1, h2, h3⟩ := i
    simp only [Rd]
    exact ⟨a, dx, od, t, rfl, le _ _ h1, le _ _ h2, h3⟩
  · replace st : St W (fun b => s1.heap.get? b) F1 s1.gens s1.os env [((Str.ofString "self"), .d (.inst l)), ((Str.ofString "_name"), .d (.str (sOf [c]))), ((Str.ofString "_value"), .d (.str (sOf x))), ((Str.ofString "_params"), .d (.val (.ref s.heap.objs.size)))] F1 s2 := st
    have hB : s1.heap.get? l = some (lstObj vs m) := x1.old _ _ ho
    conv in execs (bodyOf 207) _ => arg 1; whnf
    with_reducible refine X1.step (X1.assignOwn (EvO.list Evs.nil ?_) rfl ?_ ?_ ?_) hE hA' st fun F3 s3 st3 => ?_
    · simp
    · kernel_rfl
    · exact noOwn_of (by kernel_rfl)
    · intros; rfl
    with_reducible refine X1.step (X1.ite (b := true) (EvT.cmp (a := .str (sOf x)) (b := .val .none) ?_ ?_ (op_isNotS _) ?_) (fun _ => X.seq (X1.assign (Ev.conv (x := x) (b := false) G (d := .inst l) ?_ (insD_inst l) ?_ ?_ ?_ ?_) ?_ ?_) (X.seq (X1.append (x := (Str.ofString "parts")) (ds := []) (d := .str (sOf x)) ?_ ?_ ?_ ?_ ?_ ?_ ?_ ?_) (X.nil rfl))) fun q => by cases q) hE hA' st3 fun F4 s4 st4 => ?_
    · walk_at "m.nm"
    · walk_at "m.ev"
    · kernel_rfl
    · walk_at "m.nm"
    · walk_at "m.nm"
    · simpa using hx
    · intros; rfl
    · intros; rfl
    · kernel_rfl
    · intros; rfl
    · walk_at "m.lk"
    · walk_at "m.nm"
    · simp
    · kernel_rfl
    · kernel_rfl
    · intros; rfl
    · intros; rfl
    · kernel_rfl
    refine loopStep hE hA' st4 (it_items (d := s.heap.objs.size) hE.scope hA' st4.ctx (st4.le _ _ pb) hd0 ?_ ?_ ?_) ?_ fun F5 s5 st5 => ?_
    · walk_at "m.nm"
    · intros; rfl
    · kernel_rfl
    · intros; rfl
    obtain ⟨pv, pa, pl, ⟨ps, pm, rfl, pho, pr⟩, pB, pF, pM⟩ := st5.own (Str.ofString "parts") (.ol ([] ++ [.str (sOf x)])) (by walk_at "m.lk") rfl
    have st6 := st5.freezeAt (d := .list [.str (sOf x)]) (by walk_at "m.lk") rfl pl pho pB pF pM (by simp only [Rd]; exact ⟨pa, ps, pm, rfl, Fz.put_self .., pr.mono (Fz.le_put _ pF)⟩)
    replace st6 := st6.weak (ρ' := [((Str.ofString "self"), .d (.inst l)), ((Str.ofString "_name"), .d (.str (sOf [c]))), ((Str.ofString "parts"), .d (.list [.str (sOf x)]))]) (show SubE _ _ by walk_at "m.sb")
    generalize F5.put pa (lstObj ps pm) = F6 at st6
    have hl5 : s5.heap.get? l = some (lstObj vs m) := st6.base l _ hB
    have hle6 : F.le F6 := x1.le.trans st6.le
    have hF6 : ∀ {F9 : Fz}, (∀ b o, F9 b = some o → F6 b = some o ∨ s5.heap.get? b = none) → F9 l = none := fun {F9} h9 => by
      cases q : F9 l with
      | none => rfl
      | some o =>
        rcases h9 l o q with z | z
        · rcases st6.fresh l o z with z | z
          · rcases x1.fresh l o z with z | z
            · rw [hFl] at z; cases z
            · rw [ho] at z; cases z
          · rw [hB] at z; cases z
        · rw [hl5] at z; cases z
    refine wpAny_execs_cons ?_
    refine wpAny_Expr ?_ (by unfold interactive; rw [st6.kind]; rfl) rfl
    refine Call_method1 (by rfl) (by rfl) (by kernel_rfl) ?_
    rw [arm_eval_Attribute]
    have c6 := st6.ctx
    obtain ⟨sv, sl, sr⟩ := st6.imm (Str.ofString "self") (.inst l) (by walk_at "m.lk") (by rw [hE.scope]; kernel_rfl)
    obtain ⟨a', l', rfl, i6⟩ := insD_inst (W := W) l _ _ sr
    have hll : l' = l := by
      simp only [Rd] at sr
      obtain ⟨b, dx, od, t, e, h1, h2, h3⟩ := sr
      cases e
      obtain ⟨dx', od', t', h1', h2', h3'⟩ := i6
      rw [h1] at h1'; cases h1'
      rw [h2] at h2'; cases h2'
      rw [h3] at h3'; cases h3'; rfl
    subst hll
    refine wpAny_bind (wpAny_Name (sl.load c6.kind ?_ (by kernel_rfl)) (by kernel_rfl))
    refine wpAny_bind (wpAny_standAt (wpAny_bind (wpAny_holding (get_headers G (fun b o e => st6.gr b o e) st6.sub i6 ?_))))
    refine wpAny_bind (wpAny_pure (wpAny_pure ?_))
    have x7 : Ext F6 F6 s5 { s5 with toks := s5.toks + 1 } := Ext.toks st6.sub _
    have st7 := st6.ext x7
    refine ⟨"list", "list.append", PySem.F.plainAttrs_list, PySem.F.slot_list_append, PySem.F.type_list_append, ⟨_, hl5, rfl⟩, fun b e => by cases e; exact ⟨_, hl5, rfl⟩, ?_⟩
    have hone := join_one x hx
    refine Calls.callWith_builtin rfl (Calls.evalArgs_plain (Calls.spliced_cons (Gv.then (W := W) (F := F6) (d := ruleP (c, x)) ((?_ : Ev W (scOf 207) [((Str.ofString "self"), .d (.inst l')), ((Str.ofString "_name"), .d (.str (sOf [c]))), ((Str.ofString "parts"), .d (.list [.str (sOf x)]))] (n + 2) _ (ruleP (c, x))) env _ F6 _ hE.scope hA' st7.ctx) fun u F8 s8 x8 r8 => Calls.spliced_nil ?_)))
    · unfold ruleP
      with_reducible refine Ev.tup (Evs.cons (Ev.conv (x := [c]) (b := true) G (d := .inst l') ?_ (insD_inst l') ?_ ?_ ?_ ?_) (Evs.cons ((congrArg (fun z => Ev W _ _ _ _ (.str z)) hone.1).mp (Ev.join (xs := [sOf x]) (Ev.strC _ _ _) ?_ hone.2 ?_ ?_ ?_)) Evs.nil ?_) ?_) ?_
      · walk_at "m.nm"
      · walk_at "m.nm"
      · simpa using hc
      · intros; rfl
      · intros; rfl
      · show Ev W _ _ _ _ (.list [.str (sOf x)])
        walk_at "m.nm"
      · intros; rfl
      · intros; rfl
      · kernel_rfl
      · intros; rfl
      · intros; rfl
      · simp
    · have x58 := x7.trans x8
      have hl8 : s8.heap.get? l' = some (lstObj vs m) := x58.old _ _ hl5
      have st8 := st7.ext x8
      refine wpAny_list_append_plain (items := vs.toArray) ⟨m, hl8⟩ (fun h' hl' hs' => ?_) (by rw [List.size_toArray, sizeLine_eq]; omega)
      obtain ⟨m', hm'⟩ := hl'
      have hm'' : h'.get? l' = some (lstObj (vs ++ [u]) m') := by rw [hm']; simp [lstObj]
      have hF8 : F8 l' = none := hF6 fun b o e => by
        rcases x8.fresh b o e with z | z
        · exact .inl z
        · exact .inr z
      refine wpAny_execs_nil (hR F8 _ u m' ⟨fun b o hb e => ?_, fun b o e => ?_, hle6.trans x8.le, fun b o e => ?_, ?_, ?_⟩ r8 hm'' hF8)
      · have hb' : b ≠ l' := by simpa using hb
        exact hs'.extBut b o hb' (st8.base b o (x1.old b o e))
      · exact hs'.extBut b o (fun z => by rw [z, hF8] at e; cases e) (x8.sub b o e)
      · rcases st8.fresh b o e with z | z
        · exact x1.fresh b o z
        · exact .inr (none_of_old x1.old z)
      · exact st8.gens.trans x1.gens
      · exact st8.os.trans x1.os
end

/- L39 -/
section
open PySem PySem.W
set_option maxRecDepth 100000
set_option maxHeartbeats 2000000
variable {W : Wd} {sc cs : Scope} {ρ : Vs} {n : Nat} {B F0 F : Fz} {g : Array GenState} {os : OsState} {env : Env} {s : Shared}
theorem St.turnOwn {x : Str} {U1 U2 : V} {v : Value} {a : Addr} {F' : Fz} {s' : Shared} (st : St W B F0 g os env ρ F s) (hx : ρ.lookup x = some U1) (hV : U1.own = true) (hV' : U2.own = true) (l : Loads env s.heap x v) (hB : B a = none) (hF' : F' a = none) (hM : ¬ Mut env a)
    (hnc : ∀ y c, env.cells.lookup y = some c → c ≠ a) (ex : ExtX [a] F F' s s') (ho : VOwn W F' s'.heap U2 v a) : St W B F0 g os env ((x, U2) :: ρ) F' s' := by
  have hL : env.locals ∉ [a] := fun m => hM (.inl (by simpa using (List.mem_singleton.mp m).symm))
  have hC : ∀ y c, env.cells.lookup y = some c → c ∉ [a] := fun y c e m => hnc y c e (List.mem_singleton.mp m)
  refine ⟨ex.sub, fun b o e => ex.le _ _ (st.gr b o e), st.kind, st.glob, st.bui, st.fs.but (fun b o hb e => ex.old b o hb e) hL hC,
    fun b o e => ex.old b o (fun m => by rw [List.mem_singleton.mp m, hB] at e; cases e) (st.base b o e), st.mb, fun b m => ?_, st.le.trans ex.le, fun b o e => ?_, fun y d e k => ?_, fun y U e k => ?_, fun y z U U' e e' k k' => ?_, ex.gens.trans st.gens, ex.os.trans st.os⟩
  · cases q : F' b with
    | none => rfl
    | some o =>
      rcases ex.fresh b o q with z | z
      · rw [st.mf b m] at z; cases z
      · obtain ⟨p, e⟩ := st.fs.live m
        rw [e] at z; cases z
  · rcases ex.fresh b o e with z | z
    · exact st.fresh b o z
    · exact .inr (st.base.none z)
  · by_cases hy : y = x
    · subst hy; rw [lookup_cons_self] at e; cases e; cases hV'
    · rw [lookup_cons_ne hy] at e
      obtain ⟨u, lu, ru⟩ := st.imm y d e k
      exact ⟨u, lu.but (fun b o hb e => ex.old b o hb e) hL hC, ru.mono ex.le⟩
  · by_cases hy : y = x
    · subst hy; rw [lookup_cons_self] at e; cases e
      exact ⟨v, a, l.but (fun b o hb e => ex.old b o hb e) hL hC, ho, hB, hF', hM⟩
    · rw [lookup_cons_ne hy] at e
      exact absurd (st.own1 y x U U1 e hx k hV) hy
  · have one : ∀ y U, List.lookup y ((x, U2) :: ρ) = some U → U.own = true → y = x := fun y U e k => by
      by_cases hy : y = x
      · exact hy
      · rw [lookup_cons_ne hy] at e; exact st.own1 y x U U1 e hx k hV
    rw [one y U e k, one z U' e' k']
/-- x.add_header(e1, e2) -/
theorem X1.addHeader {x : Str} {xp apos cpos pos : Pos} {e1 e2 : Expr} {ds : List D} {c : Nat} {v : List Nat} {Rr : D → Prop} (G : Gw W) (hx : ρ.lookup x = some (.oh ds)) (hl : ds.length ≤ 1000) (he1 : Ev W sc ρ (n + 3) e1 (.str (sOf [c]))) (he2 : Ev W sc ρ (n + 3) e2 (.str (sOf v))) (hc : [c] ∈ nmTexts) (hv : v ∈ vlTexts)
    (hdb : (x == ("__debug__" : Str)) = false) (hn : (x == ("__classdict__" : Str)) = false) (hp : ∀ env, starEach [e1, e2] env = (false, eval e1 env) :: starEach [e2] env) (hp2 : ∀ env, starEach [e2] env = (false, eval e2 env) :: starEach [] env)
    (he : ∀ env, eval (.Call (.Attribute (.Name x xp) (Str.ofString "add_header") apos) [e1, e2] [] cpos) env = (do
      let ov ← eval (.Name x xp) env
      standAt apos.atName
      let (f, first) ← holding [ov] (getMethod ov (Str.ofString "add_header") (do return (← importBound (.Name x xp) env).getD true))
      callWith cpos f first (backTo cpos (starEach [e1, e2] env)) (backToKw cpos (keywordEach [] env)))) :
    X1 W sc ρ (n + 3) (.Expr (.Call (.Attribute (.Name x xp) (Str.ofString "add_header") apos) [e1, e2] [] cpos) pos) (fun z => z = (x, .oh (ds ++ [ruleP (c, v)])) :: ρ) Rr := fun env A B F0 g os F s hE hA st => by
  obtain ⟨rv, l, ld, ⟨b, dx, od, vs, m, t, rfl, h1, h2, h3, ho, r⟩, hB, hF, hM⟩ := st.own x _ hx rfl
  refine wpAny_Expr ?_ (by unfold interactive; rw [st.kind]; rfl) rfl
  refine methodCall_KW (wpAny_Name (ld.load st.kind ?_ hn) hdb) (he env)
  have gr : GrF W F := fun b o e => st.gr b o e
  refine get_meth (f := 207) G gr st.sub ⟨dx, od, t, h1, h2, h3⟩ (by kernel_rfl) (by kernel_rfl) (by kernel_rfl) ?_
  refine callWith_K (K := hd.heap_39 W.w.params) (gr.k G st.sub) (by kernel_rfl) (wpAny_mono (Evs.cons he1 (Evs.cons he2 Evs.nil hp2) hp env A F s cpos hE.scope hA st.ctx) (fun us s2 hq => ?_) fun _ _ y => y.elim) (hp env) (by rw [hp2 env]; rfl)
  obtain ⟨F2, x2, r2⟩ := hq
  have gr2 : GrF W F2 := fun b o e => x2.le _ _ (gr b o e)
  refine ⟨gr2.k G x2.sub, ?_⟩
  match us, r2 with
  | [u1, u2], r2 =>
    have hlen := r.length
    have hF2 : F2 l = none := x2.stays ho hF
    refine wpAny_call (call_add (n := n) G hA x2.sub gr2 ⟨dx, od, t, x2.le _ _ h1, x2.le _ _ h2, h3⟩ (x2.old _ _ ho) hF2 (by omega) r2.1 r2.2.1 hc hv fun F' s' u m' ex ru hl' hF' => ?_)
    have st2 := st.ext x2
    refine ⟨_, F', rfl, st2.turnOwn hx rfl rfl (ld.keeps x2.old) hB hF' hM (st2.cells_ne hE hM) ex ⟨b, dx, od, vs ++ [u], m', t, rfl, ex.le _ _ (x2.le _ _ h1), ex.le _ _ (x2.le _ _ h2), h3, hl', ((r.mono x2.le).mono ex.le).append ⟨ru, trivial⟩⟩⟩
end

/- L40 -/
section
open PySem PySem.W
set_option maxRecDepth 100000
set_option maxHeartbeats 2000000
variable {W : Wd} {sc cs : Scope} {ρ : Vs} {n : Nat} {B F0 F : Fz} {g : Array GenState} {os : OsState} {env : Env} {s : Shared}
theorem db_init : DefB W 104 103 [(Str.ofString "self"), (Str.ofString "headers")] := by walk_at "m.db"
theorem bind_init {s : Shared} (X : (hd.heap_39 W.w.params).In s.heap) (u : Value) : BindsTo s (fdOf 104) ⟨[u], []⟩ [((Str.ofString "self"), u), ((Str.ofString "headers"), .none)] :=
  binds_K (K := hd.heap_39 W.w.params) (T := 97) (o := { cls := .type "tuple", data := .seq #[.none] 0 }) X (by kernel_rfl) (by kernel_rfl) rfl rfl (by kernel_rfl)
theorem AOk.under {A : Around} (h : AOk (n + 2) A) : AOk n (A.under (.builtin "type.__call__" ⟨[.ref 210], []⟩)) := by
  have hw : (Code.builtin "type.__call__" ⟨[.ref 210], []⟩).weight ≤ 2 := by decide +kernel
  have hu : (Code.builtin "type.__call__" ⟨[.ref 210], []⟩).cUnits ≤ 16 := by decide +kernel
  have h1 := h.depth
  have h2 := h.units
  exact ⟨h.handled, by show A.depth + _ + n ≤ 900; omega, by show A.units + _ + 16 * n ≤ 9000; omega⟩
theorem EvO.iteF {t e f : Expr} {pos : Pos} {U : V} (h : EvT W sc ρ n t false) (hf : EvO W sc ρ n f U) : EvO W sc ρ n (.IfExp t e f pos) U := fun env A F s hs hA c =>
  PyProof.Rows.IfExp_ (EvT.then (h env A F s hs hA c) fun F' s' x => by
    refine wpAny_mono (hf env A F' s' hs hA (c.ext x)) (fun v s'' hq => ?_) fun _ _ y => y
    obtain ⟨F'', a, x', o, h1, h2⟩ := hq
    exact ⟨F'', a, x.trans x', o, none_of_old x.old h1, h2⟩)
theorem Ev.typeOwn {x : Str} {xp fp pos : Pos} {ds : List D} (hx : ρ.lookup x = some (.ol ds)) (hf : inFrame sc x = true) (hlen : Ev W sc ρ n (.Name (Str.ofString "type") fp) (.val (.type "type")))
    (hd : (x == ("__debug__" : Str)) = false) (hn : (x == ("__classdict__" : Str)) = false) : Ev W sc ρ n (.Call (.Name (Str.ofString "type") fp) [.Name x xp] [] pos) (.val (.type "list")) := fun env A F s hs hA c =>
  PyProof.Rows.Call_ ((hlen env A F s hs hA c).then fun v F1 s1 x1 r1 => by
    simp only [Rd] at r1
    subst r1
    obtain ⟨v, l, a, vs, m, rfl, ho, r⟩ := (c.ext x1).vars x _ hx (hs ▸ hf)
    refine callWith_type1 (wpAny_Name (l.load c.kind ?_ hn) hd)
    exact call_type_of ⟨_, ho, rfl⟩ (by decide) ⟨F1, x1, by simp only [Rd]⟩)
theorem Ev.debug {pos : Pos} : Ev W sc ρ n (.Name (Str.ofString "__debug__") pos) (.val (.bool true)) := fun env A F s hs hA c => by
  show wpAny _ A (eval (.Name (Str.ofString "__debug__") pos) env) _ _ s
  rw [arm_eval_Name]
  refine wpAny_bind (wpAny_standAt ?_)
  rw [if_pos (by decide +kernel)]
  exact wpAny_bind (wpAny_rule (wpAny_pure ⟨F, Ext.refl c.sub, by simp only [Rd]⟩))
end

/- L41 -/
section
open PySem PySem.W
set_option maxRecDepth 100000
set_option maxHeartbeats 2000000
variable {W : Wd} {sc cs : Scope} {ρ : Vs} {n : Nat} {B F0 F : Fz} {g : Array GenState} {os : OsState} {env : Env} {s : Shared}
/-- Headers() -/
theorem EvO.newHeaders {fp pos : Pos} (G : Gw W) (hs' : sc.names.lookup (Str.ofString "Headers") = some .globalImplicit) : EvO W sc ρ (n + 6) (.Call (.Name (Str.ofString "Headers") fp) [] [] pos) (.oh []) := fun env A F s hs hA c => by
  have hf : Ev W sc ρ (n + 6) (.Name (Str.ofString "Headers") fp) (.val (.ref 210)) := Ev.glob (v := .ref 210) G.gd (G.gm _ _ (by decide +kernel)) (fun F => by simp only [Rd]) hs' (by decide +kernel)
  refine PyProof.Rows.Call_Name0 ((hf env A F s hs hA c).then fun v F1 s1 x1 r1 => ?_)
  simp only [Rd] at r1
  subst r1
  have c1 := c.ext x1
  have gr1 : GrF W F1 := fun b o e => c1.gr b o e
  refine callWith_K0 (env := env) (K := hd.heap_39 W.w.params) (gr1.k G x1.sub) (by kernel_rfl) ?_
  show wpAny _ A (call (.ref 210) []) _ _ s1
  refine wpAny_call ?_
  suffices H : ∀ (R : Result → Shared → Prop), (∀ F' s' a l, Ext F1 F' s1 s' → VOwn W F' s'.heap (.oh []) (.ref a) l → s1.heap.get? l = none → F' l = none → R (.ok (.ret (.ref a))) s') → codeAny (model W.prog W.w) A (.call (.ref 210) ⟨[], []⟩) R s1 by
    refine H _ fun F' s' a l x' vo hl hF => ?_
    exact ⟨F', l, x1.trans x', vo, none_of_old x1.old hl, hF⟩
  clear c hf
  intro R hR
  have hsub1 := x1.sub
  clear x1
  obtain ⟨h, gg, dd, tt, oo⟩ := s1
  have XK : (hd.heap_39 W.w.params).In h := gr1.k G hsub1
  refine make_core (makes_of XK (by kernel_rfl)) (looks_findIn XK (r := some (.ref 104)) (by kernel_rfl)) (fun self => bind_fn XK self (by kernel_rfl)) (.inl (by decide +kernel)) ?_
  have keep2 : ∀ a o, h.get? a = some o → ((h.push emptyDict).push (instObj 210 h.objs.size)).get? a = some o := fun a o e => Heap.get?_push_of_some _ (Heap.get?_push_of_some _ e)
  have hsub2 : SubH F1 ((h.push emptyDict).push (instObj 210 h.objs.size)) := fun a o e => keep2 a o (hsub1 a o e)
  have hx2 : ((h.push emptyDict).push (instObj 210 h.objs.size)).get? (h.objs.size + 1) = some (instObj 210 h.objs.size) := by
    have := Heap.get?_push_size (h.push emptyDict) (o := instObj 210 h.objs.size) rfl
    rwa [Heap.size_push] at this
  have hd2 : ((h.push emptyDict).push (instObj 210 h.objs.size)).get? h.objs.size = some emptyDict := Heap.get?_push_of_some _ (Heap.get?_push_size _ rfl)
  have hsz2 : ((h.push emptyDict).push (instObj 210 h.objs.size)).objs.size = h.objs.size + 2 := by rw [Heap.size_push, Heap.size_push]
  generalize ((h.push emptyDict).push (instObj 210 h.objs.size)) = h2 at *
  have hxn : ∀ k, h.get? (h.objs.size + k) = none := fun k => by
    cases q : h.get? (h.objs.size + k) with
    | none => rfl
    | some o => exact absurd (Heap.lt_size q) (Nat.not_lt.mpr (Nat.le_add_right _ _))
  refine call_any (n := n + 3) (ds := [.val (.ref (h.objs.size + 1)), .val .none]) (fun F' => F' = F1) G db_init rfl hA.under hsub2 gr1 (fun A' E Q k => bind_init (gr1.k G hsub2) _ _ _ _ _ (k _ F1 [.ref (h.objs.size + 1), .none] rfl (Ext.refl hsub2) ⟨by simp only [Rd], by simp only [Rd], trivial⟩)) fun s3 F3 s4 env pb hloc hcel x3 hE hA' st => ?_
  subst pb
  replace st : St W (fun b => s3.heap.get? b) F3 s3.gens s3.os env [((Str.ofString "self"), .d (.val (.ref (h.objs.size + 1)))), ((Str.ofString "headers"), .d (.val .none))] F3 s4 := st
  have hx3 := x3.old _ _ hx2
  have hd3 := x3.old _ _ hd2
  conv in execs (bodyOf 104) _ => arg 1; whnf
  with_reducible refine X1.step (X1.assignOwn (EvO.iteF (EvT.cmp (c := false) (a := .val .none) (b := .val .none) ?_ ?_ (op_isNot .none .none rfl) ?_) (EvO.list Evs.nil ?_)) rfl ?_ ?_ ?_) hE hA' st fun F5 s5 st5 => ?_
  · walk_at "m.nm"
  · walk_at "m.ev"
  · kernel_rfl
  · simp
  · kernel_rfl
  · exact noOwn_of (by kernel_rfl)
  · intros; rfl
  with_reducible refine X1.step (X1.ite (b := false) (EvT.cmp (c := false) (a := .val (.type "list")) (b := .val (.type "list")) (Ev.typeOwn (ds := []) ?_ ?_ (Ev.bui G.gd ?_ G.bt ?_ ?_) ?_ ?_) (Ev.bui G.gd ?_ G.bli ?_ ?_) (op_isNot (.type "list") (.type "list") rfl) ?_) (fun q => by cases q) fun _ => X.nil rfl) hE hA' st5 fun F6 s6 st6 => ?_
  · walk_at "m.lk"
  · kernel_rfl
  · walk_at "m.sd"
  · kernel_rfl
  · kernel_rfl
  · kernel_rfl
  · kernel_rfl
  · walk_at "m.sd"
  · kernel_rfl
  · kernel_rfl
  · kernel_rfl
  obtain ⟨hv, l, ld, ⟨vs, m, rfl, ho, r⟩, hB, hF, hM⟩ := st6.own (Str.ofString "headers") (.ol []) (by walk_at "m.lk") rfl
  have hvs : vs = [] := by
    have := r.length
    exact List.length_eq_zero_iff.mp this
  subst hvs
  obtain ⟨sv, sl, sr⟩ := st6.imm (Str.ofString "self") (.val (.ref (h.objs.size + 1))) (by walk_at "m.lk") (by rw [hE.scope]; kernel_rfl)
  simp only [Rd] at sr
  subst sr
  obtain ⟨mm, hns⟩ := st6.fs.ns
  have hcl : env.cells = [] := by rw [hcel]; kernel_rfl
  have hLb : h.objs.size + 1 < env.locals := by rw [hloc]; exact Heap.lt_size hx3
  have hLn : h.get? env.locals = none := by
    have := hxn (env.locals - h.objs.size)
    rwa [show h.objs.size + (env.locals - h.objs.size) = env.locals by omega] at this
  have hlL : l ≠ env.locals := fun q => hM (.inl q)
  have hl3 : s3.heap.get? l = none := hB
  have hlh : h.get? l = none := none_of_old keep2 (none_of_old x3.old hl3)
  have hlx : l ≠ h.objs.size + 1 := fun q => by rw [q, hx3] at hl3; cases hl3
  have hld : l ≠ h.objs.size := fun q => by rw [q, hd3] at hl3; cases hl3
  have FR : PyProof.Rows.Fr h env.locals s6.heap mm := ⟨hns, fun b o e => st6.base b o (x3.old b o (keep2 b o e)), by omega⟩
  have NW : PyProof.Rows.News h env.locals s6.heap [(h.objs.size + 1, instObj 210 h.objs.size), (h.objs.size, dictOf [] 0), (l, lstObj [] m)] := fun p hp => by
    simp only [List.mem_cons, List.not_mem_nil, or_false] at hp
    rcases hp with rfl | rfl | rfl
    · exact ⟨st6.base _ _ hx3, Nat.ne_of_lt hLb, hxn 1⟩
    · exact ⟨st6.base _ _ hd3, Nat.ne_of_lt (Nat.lt_trans (Nat.lt_succ_self _) hLb), hxn 0⟩
    · exact ⟨ho, hlL, hlh⟩
  refine wpAny_execs_cons (plainObj_wpAny_Assign_Attribute (wpAny_Name (ld.load st6.kind (wpAny_Name (sl.load st6.kind ?_ (by kernel_rfl)) (by kernel_rfl)) (by kernel_rfl)) (by kernel_rfl)))
  refine set_dict (K := hd.heap_39 W.w.params) (ox := instObj 210 h.objs.size) (es := []) (n := 0) FR XK NW ⟨st6.base _ _ hx3, rfl, rfl, st6.base _ _ hd3⟩ rfl (by kernel_rfl) (by kernel_rfl) (by kernel_rfl) (by kernel_rfl) rfl rfl (.tail (by simp) (.head (by simpa using hld))) (by simp [putL]) fun h' FR' NW' => ?_
  generalize hod : dictOf _ _ = od at NW'
  have nx := NW' (h.objs.size + 1, instObj 210 h.objs.size) (by simp)
  have nd := NW' (h.objs.size, od) (by simp)
  have nl := NW' (l, lstObj [] m) (by simp)
  have hodd : od.data = .dict #[⟨PyData.keyHash W.w.params (Str.ofString "_headers"), .str (Str.ofString "_headers") (s6.toks + 1), .ref l⟩] 1 := by rw [← hod]; rfl
  have hF3 : ∀ b, h.get? b = none → F3 b = none := fun b e => hsub1.none e
  have leF : F3.le (F3.put l (lstObj [] m)) := Fz.le_put _ (hF3 _ hlh)
  have st7 : St W (fun a => if a = h.objs.size + 1 then some (instObj 210 h.objs.size) else if a = h.objs.size then some od else h.get? a) (F3.put l (lstObj [] m)) s6.gens s6.os env [((Str.ofString "headers"), .d (.list []))] (F3.put l (lstObj [] m)) { s6 with heap := h', toks := s6.toks + 2 } := by
    have mutL : ∀ a, Mut env a → a = env.locals := fun a q => by
      rcases q with q | ⟨_, y, q⟩
      · exact q
      · rw [hcl] at q; simp at q
    refine ⟨SubH.put (fun b o e => FR'.keep b o (hsub1 b o e)) nl.1, fun b o e => leF _ _ (gr1 b o e), st6.kind, st6.glob, st6.bui, ⟨⟨mm, FR'.ns⟩, fun y cc e => ?_, fun y z cc e => ?_, fun y cc e => ?_, st6.fs.has⟩, fun b o e => ?_, fun b q => ?_, fun b q => ?_, Fz.le.refl _, fun b o e => .inl e, fun y d e k => ?_, fun y V e k => ?_, fun y z V V' e e' k k' => ?_, rfl, rfl⟩
    · rw [hcl] at e; simp at e
    · rw [hcl] at e; simp at e
    · rw [hcl] at e; simp at e
    · split at e
      · rename_i q; cases e; rw [q]; exact nx.1
      · split at e
        · rename_i q; cases e; rw [q]; exact nd.1
        · exact FR'.keep b o e
    · rw [mutL b q]
      show (if env.locals = h.objs.size + 1 then _ else if env.locals = h.objs.size then _ else h.get? env.locals) = none
      rw [if_neg (Nat.ne_of_gt hLb), if_neg (Nat.ne_of_gt (Nat.lt_trans (Nat.lt_succ_self _) hLb))]; exact hLn
    · rw [mutL b q, Fz.put_ne _ _ (Ne.symm hlL)]; exact hF3 _ hLn
    · by_cases hy : y = (Str.ofString "headers")
      · subst hy
        rw [lookup_cons_self] at e; cases e
        rcases ld with ⟨k1, mm', n1, e1⟩ | ⟨k1, cc, e1, _⟩
        · refine ⟨.ref l, .inl ⟨k1, mm, FR'.ns, ?_⟩, ?_⟩
          · rw [Ns_unique hns n1]; exact e1
          · simp only [Rd]; exact ⟨l, [], m, rfl, Fz.put_self .., trivial⟩
        · rw [hcl] at e1; simp at e1
      · rw [lookup_cons_ne hy] at e; simp at e
    · by_cases hy : y = (Str.ofString "headers")
      · subst hy; rw [lookup_cons_self] at e; cases e; cases k
      · rw [lookup_cons_ne hy] at e; simp at e
    · by_cases hy : y = (Str.ofString "headers")
      · subst hy; rw [lookup_cons_self] at e; cases e; cases k
      · rw [lookup_cons_ne hy] at e; simp at e
  show wpAny _ _ (execs _ env) _ _ _
  with_reducible refine X1.step (ρ' := [((Str.ofString "headers"), .d (.list []))]) (X1.ite (b := true) (EvT.plain (d := .val (.bool true)) ?_ (tr_bool true) ?_) (fun _ => X.last (X1.loop (J := fun _ z => z = [((Str.ofString "headers"), .d (.list []))]) (ds := []) (bs := fun _ => []) (It.list ?_) (fun i d e => by simp at e) rfl (fun i d ρ' e => by simp at e) ?_)) fun q => by cases q) hE hA' st7 fun F8 s8 st8 => ?_
  · exact Ev.boolC _ _ _
  · intros; rfl
  · walk_at "m.nm"
  · intros; rfl
  refine wpAny_execs_nil ⟨rfl, hR ((F3.put h.objs.size od).put (h.objs.size + 1) (instObj 210 h.objs.size)) s8 (h.objs.size + 1) l ⟨fun b o e => ?_, fun b o e => ?_, ?_, fun b o e => ?_, ?_, ?_⟩ ?_ hlh ?_⟩
  · refine st8.base b o ?_
    show (if b = h.objs.size + 1 then _ else if b = h.objs.size then _ else h.get? b) = some o
    rw [if_neg (fun q => by rw [q, hxn 1] at e; cases e), if_neg (fun q => by rw [q] at e; exact absurd ((hxn 0).symm.trans e) (by simp))]; exact e
  · by_cases q : b = h.objs.size + 1
    · subst q; rw [Fz.put_self] at e; cases e
      exact st8.base _ _ (by simp)
    · rw [Fz.put_ne _ _ q] at e
      by_cases q' : b = h.objs.size
      · subst q'; rw [Fz.put_self] at e; cases e
        exact st8.base _ _ (by simp)
      · rw [Fz.put_ne _ _ q'] at e
        exact st8.sub b o (st8.le b o (leF _ _ e))
  · exact (Fz.le_put _ (hF3 _ (hxn 0))).trans (Fz.le_put _ (by rw [Fz.put_ne _ _ (Nat.succ_ne_self _)]; exact hF3 _ (hxn 1)))
  · by_cases q : b = h.objs.size + 1
    · subst q; exact .inr (hxn 1)
    · rw [Fz.put_ne _ _ q] at e
      by_cases q' : b = h.objs.size
      · subst q'; exact .inr (hxn 0)
      · rw [Fz.put_ne _ _ q'] at e; exact .inl e
  · exact st8.gens.trans (st6.gens.trans x3.gens)
  · exact st8.os.trans (st6.os.trans x3.os)
  · refine ⟨h.objs.size + 1, h.objs.size, od, [], m, s6.toks + 1, rfl, Fz.put_self .., ?_, hodd, ?_, trivial⟩
    · rw [Fz.put_ne _ _ (Nat.ne_of_lt (Nat.lt_succ_self _)), Fz.put_self]
    · exact st8.sub _ _ (st8.le _ _ (Fz.put_self ..))
  · rw [Fz.put_ne _ _ hlx, Fz.put_ne _ _ hld]; exact hF3 _ hlh
end

/- L42 -/
section
open PySem PySem.W
set_option maxRecDepth 100000
set_option maxHeartbeats 2000000
variable {W : Wd} {sc cs : Scope} {ρ : Vs} {n : Nat}
theorem As.tup3 {x y z : Str} {px py pz pos : Pos} {k : Nat} {d e f : D} (hx : storable sc x = true) (hy : storable sc y = true) (hz : storable sc z = true) (hxy : (x == y) = false) (hxz : (x == z) = false) (hyz : (y == z) = false) :
    As W sc n (.Tuple [.Name x px, .Name y py, .Name z pz] k pos) (.tup [d, e, f]) [(z, .d f), (y, .d e), (x, .d d)] :=
  fun env A B F0 g os ρ F s v hs hab hA st r => by
  subst hs
  simp only [Rd] at r
  obtain ⟨a, vs, m, rfl, ho, r⟩ := r
  match vs, r with
  | [u, v, w], r =>
    refine wpAny_assign_Tuple hA.handled (tup_isTuple (st.sub _ _ ho)) rfl rfl fun h' he => ?_
    have x1 : Ext F F s { s with heap := h' } := Ext.grow st.sub h' s.toks fun b o e => he b o (Nat.ne_of_lt (Heap.lt_size e)) e
    show wpAny _ A (assignInOrder [assign (.Name x px) env, assign (.Name y py) env, assign (.Name z pz) env] [u, v, w]) _ _ _
    refine wpAny_bind (wpAny_holding (wpAny_assign_Name ((st.ext x1).store hx (hab x (.d d) ?_) r.1 fun s1 st1 => ?_)))
    · simp only [List.lookup_cons, hxy, hxz, beq_self_eq_true]
    · show wpAny _ A (assignInOrder [assign (.Name y py) env, assign (.Name z pz) env] [v, w]) _ _ _
      refine wpAny_bind (wpAny_holding (wpAny_assign_Name (st1.store hy (hab y (.d e) ?_) r.2.1 fun s2 st2 => ?_)))
      · simp only [List.lookup_cons, hyz, beq_self_eq_true]
      · show wpAny _ A (assignInOrder [assign (.Name z pz) env] [w]) _ _ _
        refine wpAny_bind (wpAny_holding (wpAny_assign_Name (st2.store hz (hab z (.d f) lookup_cons_self) r.2.2.1 fun s3 st3 => ?_)))
        exact wpAny_pure ⟨F, st3, Fz.le.refl F⟩
theorem join_self (r : List Nat) : Txt.join (sOf []) (r.map fun c => sOf [c]) = sOf r := by
  have := PyProof.Rows.join_nil_signs (sOf r)
  have e : PyProof.Rows.signs (sOf r) = r.map fun c => sOf [c] := by
    unfold PyProof.Rows.signs sOf; simp
  rw [e] at this
  rw [eq_of_beq (PyProof.Rows.join_plain_closes (sOf []) (r.map fun c => sOf [c]))]
  exact this
theorem join_ok (r : List Nat) (h : r.length ≤ 1000) : JoinOk (sOf []) (r.map fun c => sOf [c]) = true := by
  refine PyProof.Rows.joinOk_of ?_
  have : ∀ l : List Nat, (((l.map fun c => sOf [c]).map (·.length)).sum = l.length) := fun l => by
    induction l with
    | nil => rfl
    | cons x l ih =>
      simp only [List.map_cons, List.sum_cons, ih, List.length_cons]
      rw [sOf_length]; simp; omega
  rw [this]
  simp [sOf_length]; omega
/-- rules.get_all(e) -/
theorem Ev.getAll {o e : Expr} {apos pos : Pos} {rs : List (Nat × List Nat)} {c : Nat} (G : Gw W) (hc : c = 83 ∨ c = 84 ∨ c = 115 ∨ c = 116) (hrs : ∀ r ∈ rs, Sym r.1) (hl : rs.length ≤ 100) (ho : Ev W sc ρ (n + 2) o (.hdr (rs.map ruleP))) (he : Ev W sc ρ (n + 2) e (.str (sOf [c])))
    (hp : ∀ env, starEach [e] env = (false, eval e env) :: starEach [] env)
    (hv : ∀ env, eval (.Call (.Attribute o (Str.ofString "get_all") apos) [e] [] pos) env = (do
      let ov ← eval o env
      standAt apos.atName
      let (f, first) ← holding [ov] (getMethod ov (Str.ofString "get_all") (do return (← importBound o env).getD true))
      callWith pos f first (backTo pos (starEach [e] env)) (backToKw pos (keywordEach [] env)))) :
    Ev W sc ρ (n + 2) (.Call (.Attribute o (Str.ofString "get_all") apos) [e] [] pos) (.list ((rs.filter fun r => lowc r.1 == lowc c).map fun r => .str (sOf r.2))) := fun env A F s hs hA cx => by
  refine methodCall_KW ((ho env A F s hs hA cx).then fun v F1 s1 x1 r1 => ?_) (hv env)
  have c1 := cx.ext x1
  have gr1 : GrF W F1 := fun b o e => c1.gr b o e
  obtain ⟨a, l, rfl, i⟩ := insD_hdr (W := W) _ _ _ r1
  refine get_meth (f := 149) G gr1 x1.sub i (by kernel_rfl) (by kernel_rfl) (by kernel_rfl) ?_
  refine callWith_K (K := hd.heap_39 W.w.params) (gr1.k G x1.sub) (by kernel_rfl) (wpAny_mono (Evs.cons he Evs.nil hp env A F1 s1 pos hs hA c1) (fun us s2 hq => ?_) fun _ _ y => y.elim) (hp env) (by rfl)
  obtain ⟨F2, x2, r2⟩ := hq
  have gr2 : GrF W F2 := fun b o e => x2.le _ _ (gr1 b o e)
  refine ⟨gr2.k G x2.sub, ?_⟩
  match us, r2 with
  | [u], r2 =>
    exact Gv.of_ext (x1.trans x2) (cl_all G hc hrs hl A F2 s2 [.ref a, u] (hA.le (by omega)) x2.sub gr2 ⟨r1.mono x2.le, r2.1, trivial⟩)
end

/- L43 -/
section
open PySem PySem.W
set_option maxRecDepth 100000
set_option maxHeartbeats 2000000
variable {W : Wd} {sc cs : Scope} {ρ : Vs} {n : Nat}
def rowC (r : List Nat) : List Int := r.map codeOf ++ [0]
def rowD (r : List Nat) : D := .list ((rowC r).map .int)
theorem code_ltr {c : Nat} (h : Ltr c) : codeOf c = (c : Int) := by
  rcases h with rfl | rfl | rfl | rfl <;> decide
theorem codes_ltr : ∀ {p : List Nat}, LtrL p → p.map codeOf = p.map fun c : Nat => (c : Int)
  | [], _ => rfl
  | c :: p, h => by
    simp only [List.map_cons]
    rw [code_ltr (h c (by simp)), codes_ltr fun y hy => h y (List.mem_cons_of_mem _ hy)]
theorem code_nm {c : Nat} (h : Nm c) : 256 ≤ codeOf c ∧ codeOf c ≤ 257 := by
  rcases h with rfl | rfl | rfl | rfl <;> decide
theorem frm_lead {r : List Nat} (h : Frm r) : ∃ p x rest, rowC r = p.map (fun c : Nat => (c : Int)) ++ x :: rest ∧ LtrL p ∧ ((x = 0 ∧ p = r) ∨ ∃ c s, x = codeOf c ∧ r = p ++ c :: s ∧ LtrL s ∧ Nm c) := by
  rcases h with h | ⟨p, c, s, rfl, hp, hs, hc⟩
  · exact ⟨r, 0, [], by unfold rowC; rw [codes_ltr h], h, .inl ⟨rfl, rfl⟩⟩
  · refine ⟨p, codeOf c, s.map codeOf ++ [0], ?_, hp, .inr ⟨c, s, rfl, rfl, hs, hc⟩⟩
    unfold rowC
    rw [List.map_append, codes_ltr hp]; simp
theorem rowC_len (r : List Nat) : (rowC r).length = r.length + 1 := by unfold rowC; simp
theorem lead_lt {cs : List Int} {p : List Nat} {x : Int} {rest : List Int} (h : cs = p.map (fun c : Nat => (c : Int)) ++ x :: rest) {q : Nat} (hq : q < p.length) : cs[q]? = some ((p[q] : Nat) : Int) := by
  subst h
  rw [List.getElem?_append_left (by simpa using hq)]
  simp [hq]
theorem lead_at {cs : List Int} {p : List Nat} {x : Int} {rest : List Int} (h : cs = p.map (fun c : Nat => (c : Int)) ++ x :: rest) : cs[p.length]? = some x := by
  subst h
  rw [List.getElem?_append_right (by simp)]
  simp
theorem Ev.cell {p1 p2 p3 : Pos} {cs : List Int} {q : Nat} {v : Int} (hr : Ev W sc ρ n (.Name (Str.ofString "row") p1) (.list (cs.map .int))) (hp : Ev W sc ρ n (.Name (Str.ofString "place") p2) (.int (q : Int))) (hv : cs[q]? = some v) (hq : q < 1000) :
    Ev W sc ρ n (.Subscript (.Name (Str.ofString "row") p1) (.Name (Str.ofString "place") p2) p3) (.int v) :=
  Ev.sub hr hp (idx_list (d := .int v) (by intro _ _; rfl) (by rw [List.getElem?_map, hv]; rfl) (by omega))
theorem Ev.iseof {fp pos : Pos} {e : Expr} {v : Int} (G : Gw W) (he : Ev W sc ρ (n + 1) e (.int v)) (hs : sc.names.lookup (Str.ofString "ISEOF") = some .globalImplicit := by walk_at "m.sd")
    (hp : ∀ env, starEach [e] env = (false, eval e env) :: starEach [] env := by walk_at "m.sd")
    (hv : ∀ env, eval (.Call (.Name (Str.ofString "ISEOF") fp) [e] [] pos) env = (do callWith pos (← eval (.Name (Str.ofString "ISEOF") fp) env) [] (backTo pos (starEach [e] env)) (backToKw pos (keywordEach [] env))) := by walk_at "m.sd") :
    Ev W sc ρ (n + 1) (.Call (.Name (Str.ofString "ISEOF") fp) [e] [] pos) (.val (.bool (v == 0))) :=
  Ev.fn G ((cl_iseof G v).up (by omega)) (Evs.cons he .nil hp) (by decide +kernel) hs (by decide +kernel) (by kernel_rfl) hp hv
theorem Ev.ister {fp pos : Pos} {e : Expr} {v : Int} (G : Gw W) (he : Ev W sc ρ (n + 1) e (.int v)) (hs : sc.names.lookup (Str.ofString "ISTERMINAL") = some .globalImplicit := by walk_at "m.sd")
    (hp : ∀ env, starEach [e] env = (false, eval e env) :: starEach [] env := by walk_at "m.sd")
    (hv : ∀ env, eval (.Call (.Name (Str.ofString "ISTERMINAL") fp) [e] [] pos) env = (do callWith pos (← eval (.Name (Str.ofString "ISTERMINAL") fp) env) [] (backTo pos (starEach [e] env)) (backToKw pos (keywordEach [] env))) := by walk_at "m.sd") :
    Ev W sc ρ (n + 1) (.Call (.Name (Str.ofString "ISTERMINAL") fp) [e] [] pos) (.val (.bool (decide (v < 256)))) :=
  Ev.fn G ((cl_ist G v).up (by omega)) (Evs.cons he .nil hp) (by decide +kernel) hs (by decide +kernel) (by kernel_rfl) hp hv
def srE (rs : Gr) (tx : List Nat) (rows : List (List Nat)) (a : Nat) (best : Int) (word : List Nat) : Vs :=
  [((Str.ofString "at"), .d (.int (a : Int))), ((Str.ofString "word"), .d (.str (sOf word))), ((Str.ofString "best"), .d (.int best)), ((Str.ofString "rows"), .ol (rows.map rowD)), ((Str.ofString "rules"), .d (.hdr (rs.map ruleP))), ((Str.ofString "text"), .d (.str (sOf tx)))]
def srR (rs : Gr) (tx : List Nat) (rows : List (List Nat)) (a : Nat) (best : Int) (word : List Nat) (cs : List Int) (q : Nat) : Vs := ((Str.ofString "place"), .d (.int (q : Int))) :: ((Str.ofString "row"), .d (.list (cs.map .int))) :: srE rs tx rows a best word
/-- the place of the first symbol that is no letter -/
theorem search_place (G : Gw W) {rs : Gr} {tx : List Nat} {rows : List (List Nat)} {a : Nat} {best : Int} {word : List Nat} {cs : List Int} {p : List Nat} {x : Int} {rest : List Int} {Rn : Vs → Prop} {Rr : D → Prop}
    (hcs : cs = p.map (fun c : Nat => (c : Int)) ++ x :: rest) (hp : LtrL p) (hx : x = 0 ∨ 256 ≤ x) (hl : cs.length ≤ 100)
    (h : X W (scOf 231) (srR rs tx rows a best word cs p.length) 3 ((stAt (bodyOf 231) 2).drop 3) Rn Rr) :
    X W (scOf 231) (srR rs tx rows a best word cs 0) 3 ((stAt (bodyOf 231) 2).drop 2) Rn Rr := by
  conv => arg 5; whnf
  have hpl : p.length < 100 := by
    have := congrArg List.length hcs
    simp at this; omega
  refine X.cons (X1.while (m0 := p.length) (J := fun mm ρ => ∃ q : Nat, q ≤ p.length ∧ mm + q = p.length ∧ ρ = srR rs tx rows a best word cs q)
    (Rn := fun ρ => ρ = srR rs tx rows a best word cs p.length) ⟨0, by omega, by omega, rfl⟩ ?_) fun ρ' e => e ▸ h
  rintro mm ρ' ⟨q, hq, hmm, rfl⟩
  unfold srR srE
  have hv : ∃ v, cs[q]? = some v ∧ (q < p.length → v ≠ 0 ∧ v < 256) ∧ (q = p.length → v = x) := by
    rcases Nat.lt_or_ge q p.length with q1 | q1
    · refine ⟨_, lead_lt hcs q1, fun _ => ?_, fun e => by omega⟩
      have := hp p[q] (List.getElem_mem q1)
      unfold Ltr at this; omega
    · have : q = p.length := by omega
      subst this
      exact ⟨x, lead_at hcs, fun z => by omega, fun _ => rfl⟩
  obtain ⟨v, hv, hv1, hv2⟩ := hv
  refine ⟨(!(v == 0)) && (decide (v < 256) && true), EvT.and (EvT.not (EvT.plain (Ev.iseof G (Ev.cell ?_ ?_ hv ?_)) (tr_bool _) ?_)) fun _ => EvT.and (EvT.plain (Ev.ister G (Ev.cell ?_ ?_ hv ?_)) (tr_bool _) ?_) fun _ => EvT.and_nil, fun hb => ?_, fun hb => ?_⟩
  · walk_at "m.nm"
  · walk_at "m.nm"
  · omega
  · intros; rfl
  · walk_at "m.nm"
  · walk_at "m.nm"
  · omega
  · intros; rfl
  · have hlt : q < p.length := by
      rcases Nat.lt_or_ge q p.length with q1 | q1
      · exact q1
      · have e := hv2 (by omega)
        simp at hb
        omega
    with_reducible refine X.last (X1.weakR (X1.aug (a := .int q) (b := .int 1) ?_ ?_ ?_ (op_iadd _ _) ?_ ?_) ?_)
    · walk_at "m.lk"
    · kernel_rfl
    · walk_at "m.ev"
    · kernel_rfl
    · kernel_rfl
    · refine ⟨srR rs tx rows a best word cs (q + 1), ⟨p.length - (q + 1), by omega, q + 1, by omega, by omega, rfl⟩, ?_⟩
      unfold srR srE
      rw [show ((q + 1 : Nat) : Int) = (q : Int) + 1 by omega]
      walk_at "m.sb"
  · have : q = p.length := by
      rcases Nat.lt_or_ge q p.length with q1 | q1
      · have := hv1 q1
        simp at hb; omega
      · omega
    subst this; rfl
end

/- L44 -/
section
open PySem PySem.W
set_option maxRecDepth 100000
set_option maxHeartbeats 2000000
variable {W : Wd} {sc cs : Scope} {ρ : Vs} {n : Nat}
theorem X1.pre {a : Stmt} {ρ' : Vs} {Rn : Vs → Prop} {Rr : D → Prop} (hw : SubE ρ' ρ) (h : X1 W sc ρ' n a Rn Rr) : X1 W sc ρ n a Rn Rr := fun env A B F0 g os F s hE hA st => h env A B F0 g os F s hE hA (st.weak hw)
/-- the words: a row of letters is weighed -/
theorem search_word (G : Gw W) {rs : Gr} {tx : List Nat} {rows : List (List Nat)} {a : Nat} {best : Int} {word : List Nat} {r : List Nat} {Rn : Vs → Prop} {Rr : D → Prop}
    (hr : LtrL r) (hl : r.length ≤ 40) (htx : LtrL tx) (ht : tx.length ≤ 40)
    (h1 : ∀ cost, LevOk tx r (best - 1) cost → cost < best → Rn (srE rs tx rows a cost r)) (h2 : ∀ cost, LevOk tx r (best - 1) cost → ¬ cost < best → Rn (srE rs tx rows a best word)) :
    X W (scOf 231) (srR rs tx rows a best word (rowC r) r.length) 3 (match (stAt (bodyOf 231) 2).drop 3 with | .If _ b _ _ :: _ => b | _ => []) Rn Rr := by
  conv => arg 5; whnf
  unfold srR srE
  with_reducible refine X.seq (X1.assign (d := .str (sOf r)) ((congrArg (fun z => Ev W _ _ _ _ (.str z)) (join_self r)).mp (Ev.join (xs := r.map fun c => sOf [c]) (Ev.strL [] (by decide +kernel)) ?_ (join_ok r (by omega)) ?_ ?_ ?_)) ?_ ?_) ?_
  · rw [show D.list ((r.map fun c => sOf [c]).map .str) = D.list ((r.filter fun _ => true).map fun c => .str (sOf [c])) by rw [filter_yes, List.map_map]; rfl]
    with_reducible refine Ev.compM (ρ' := []) (fun c : Nat => .int (c : Int)) int_inj r (fun _ => true) _ (fun c => [((Str.ofString "code"), .d (.int (c : Int)))]) SubE.nil ?_ ?_ (It.list ?_) ?_ ?_ ?_ (fun c hc => ⟨EvTs.nil, fun _ => ?_⟩) ?_
    · kernel_rfl
    · kernel_rfl
    · have e : sl ((rowC r).map D.int) none (some ((r.length : Nat) : Int)) = r.map fun c : Nat => D.int (c : Int) := by
        rw [sl_upto, ← List.map_take]
        unfold rowC
        rw [List.take_left' (by simp), codes_ltr hr, List.map_map]; rfl
      refine (congrArg (fun z => Ev W _ _ _ _ (.list z)) e).mp ?_
      with_reducible refine Ev.sliceL ?_ EvP.none (EvP.int ?_) ?_ ?_
      · walk_at "m.nm"
      · walk_at "m.nm"
      · rw [List.length_map, rowC_len]; omega
      · intros; rfl
    · omega
    · exact fun c hc => As.name (by kernel_rfl)
    · intro c hc; kernel_rfl
    · have hcl := hr c hc
      simp only [List.cons_append, List.nil_append]
      have hch := cl_chr (W := W) (n := 3) (c : Int) (by omega) (by unfold Ltr at hcl; omega)
      rw [show (c : Int).toNat = c by omega] at hch
      with_reducible refine Ev.bf G G.bc hch ?_ ?_ ?_ ?_ ?_ ?_ ?_
      · walk_at "m.es"
      all_goals walk_at "m.sd"
    · intros; rfl
  · intros; rfl
  · intros; rfl
  · kernel_rfl
  · kernel_rfl
  · intros; rfl
  refine X.cons (X1.assignE (EvE.fn G ((cl_lev (m := best - 1) G hr htx hl ht).up ?_) ?_ ?_ ?_ ?_ ?_ ?_ ?_) ?_ ?_) fun ρ' hz => ?_
  · omega
  · walk_at "m.es"
  · decide +kernel
  · kernel_rfl
  · kernel_rfl
  · kernel_rfl
  · intros; kernel_rfl
  · intros; kernel_rfl
  · kernel_rfl
  · intros; rfl
  obtain ⟨d, ⟨cost, rfl, hlev⟩, rfl⟩ := hz
  with_reducible refine X.last (X1.ite (EvT.cmp (a := .int cost) (b := .int best) ?_ ?_ (op_ltI _ _) ?_) (fun q => X.seq (X1.swap2 (x := (Str.ofString "best")) (y := (Str.ofString "word")) (d1 := .int cost) (d2 := .str (sOf r)) (Ev.tup (ds := [.int cost, .str (sOf r)]) ?_ ?_) ?_ ?_ ?_ ?_) (X.nilW (h1 cost hlev (by simpa using q)) ?_)) fun q => X.nilW (h2 cost hlev (by simpa using q)) ?_)
  · walk_at "m.ev"
  · walk_at "m.ev"
  · kernel_rfl
  · walk_at "m.es"
  · simp
  · kernel_rfl
  · kernel_rfl
  · intros; rfl
  · intro env h
    show swappedStores _ _ env = _
    unfold swappedStores Env.blockKind Env.kindOf
    rw [h]
    kernel_rfl
  · unfold srE
    walk_at "m.sb"
  · unfold srE
    walk_at "m.sb"
end

/- L45 -/
section
open PySem PySem.W
set_option maxRecDepth 100000
set_option maxHeartbeats 2000000
variable {W : Wd} {sc cs : Scope} {ρ : Vs} {n : Nat}
theorem sT_at {c : Nat} (h : Nm c) : ∃ (k c' : Nat), codeOf c - 256 = (k : Int) ∧ k < 2 ∧ ([115, 84] : List Nat)[k]? = some c' ∧ (c' = 83 ∨ c' = 84 ∨ c' = 115 ∨ c' = 116) ∧ ∀ d, Sym d → (lowc d == lowc c') = (upc d == upc c) := by
  have key : ∀ c' d, (c' = 115 ∨ c' = 84) → Sym d → (c' = 115 → upc c = 83) → (c' = 84 → upc c = 84) → (lowc d == lowc c') = (upc d == upc c) := fun c' d hc' hd e1 e2 => by
    rcases hc' with rfl | rfl
    · rw [e1 rfl]; rcases hd with (h | h | h | h) | h | h | h | h <;> subst h <;> decide
    · rw [e2 rfl]; rcases hd with (h | h | h | h) | h | h | h | h <;> subst h <;> decide
  rcases h with rfl | rfl | rfl | rfl
  · exact ⟨0, 115, by decide, by omega, rfl, by simp, fun d hd => key _ _ (by simp) hd (by decide) (by decide)⟩
  · exact ⟨1, 84, by decide, by omega, rfl, by simp, fun d hd => key _ _ (by simp) hd (by decide) (by decide)⟩
  · exact ⟨0, 115, by decide, by omega, rfl, by simp, fun d hd => key _ _ (by simp) hd (by decide) (by decide)⟩
  · exact ⟨1, 84, by decide, by omega, rfl, by simp, fun d hd => key _ _ (by simp) hd (by decide) (by decide)⟩
def RsOk (rs : Gr) : Prop := ∀ r ∈ rs, Sym r.1 ∧ (∀ c ∈ r.2, Sym c) ∧ 0 < r.2.length ∧ r.2.length ≤ 100
theorem all_eq {rs : Gr} (hrs : RsOk rs) {c c' : Nat} (h : ∀ d, Sym d → (lowc d == lowc c') = (upc d == upc c)) : ((rs.filter fun r => lowc r.1 == lowc c').map fun r => D.str (sOf r.2)) = (rulesOf rs (upc c)).map fun v => D.str (sOf v) := by
  unfold rulesOf
  rw [List.map_map, List.filter_congr (q := fun r => upc r.1 == upc c) fun r hr => h r.1 (hrs r hr).1]
  rfl
theorem head_sl {p s : List Nat} {c : Nat} : sl ((rowC (p ++ c :: s)).map D.int) none (some ((p.length : Nat) : Int)) = (p.map codeOf).map D.int := by
  rw [sl_upto, ← List.map_take]
  unfold rowC
  rw [List.map_append, List.append_assoc, List.take_left' (by simp)]
theorem tail_sl {p s : List Nat} {c : Nat} : sl ((rowC (p ++ c :: s)).map D.int) (some ((p.length + 1 : Nat) : Int)) none = (rowC s).map D.int := by
  rw [sl_from, ← List.map_drop]
  unfold rowC
  have : (p ++ c :: s).map codeOf ++ [0] = (p.map codeOf ++ [codeOf c]) ++ (s.map codeOf ++ [0]) := by simp
  rw [this, List.drop_left' (by simp)]
theorem Ev.headSl {value ie : Expr} {p1 p2 : Pos} {p s : List Nat} {c : Nat} (hv : Ev W sc ρ n value (.list ((rowC (p ++ c :: s)).map .int))) (hi : Ev W sc ρ n ie (.int (p.length : Int))) (hl : (p ++ c :: s).length ≤ 100) (ht : ∀ o r, letTemporaryGo value o r = pure ()) :
    Ev W sc ρ n (.Subscript value (.Slice none (some ie) none p1) p2) (.list ((p.map codeOf).map .int)) := by
  rw [← head_sl (p := p) (s := s) (c := c)]
  exact Ev.sliceL hv EvP.none (EvP.int hi) (by rw [List.length_map, rowC_len]; omega) ht
theorem Ev.tailSl {value ie : Expr} {p1 p2 : Pos} {p s : List Nat} {c : Nat} (hv : Ev W sc ρ n value (.list ((rowC (p ++ c :: s)).map .int))) (hi : Ev W sc ρ n ie (.int ((p.length + 1 : Nat) : Int))) (hl : (p ++ c :: s).length ≤ 100) (ht : ∀ o r, letTemporaryGo value o r = pure ()) :
    Ev W sc ρ n (.Subscript value (.Slice (some ie) none none p1) p2) (.list ((rowC s).map .int)) := by
  rw [← tail_sl (p := p) (s := s) (c := c)]
  exact Ev.sliceL hv (EvP.int hi) EvP.none (by rw [List.length_map, rowC_len]; omega) ht
theorem Ev.newRow {e1 e2 e3 : Expr} {p1 p2 : Pos} {p v s : List Nat} (h1 : Ev W sc ρ n e1 (.list ((p.map codeOf).map .int))) (h2 : Ev W sc ρ n e2 (.list (v.map fun c => .int (codeOf c)))) (h3 : Ev W sc ρ n e3 (.list ((rowC s).map .int)))
    (l1 : p.length ≤ 100) (l2 : v.length ≤ 100) (l3 : s.length ≤ 100) : Ev W sc ρ n (.BinOp (.BinOp e1 .Add e2 p1) .Add e3 p2) (rowD (p ++ v ++ s)) := by
  have eD : rowD (p ++ v ++ s) = .list ((p.map codeOf).map D.int ++ (v.map fun c => D.int (codeOf c)) ++ (rowC s).map D.int) := by
    unfold rowD rowC; simp
  rw [eD]
  exact Ev.bin (Ev.bin h1 h2 (op_catL _ _ (by simp; omega) (by simp; omega))) h3 (op_catL _ _ (by simp; omega) (by rw [List.length_map, rowC_len]; omega))
/-- a row with a name: its rules are put in the name's place -/
theorem search_name (G : Gw W) {rs : Gr} {tx : List Nat} {rows : List (List Nat)} {a : Nat} {best : Int} {word : List Nat} {p s : List Nat} {c : Nat} {Rn : Vs → Prop} {Rr : D → Prop}
    (hrs : RsOk rs) (hrl : rs.length ≤ 100) (hc : Nm c) (hl : (p ++ c :: s).length ≤ 40) (ht : tx.length ≤ 40) (hrows : rows.length ≤ 1000)
    (h1 : 2 * (((p ++ c :: s).length : Int) - tx.length) < best → Rn (srE rs tx (rows ++ (rulesOf rs (upc c)).map fun v => p ++ v ++ s) a best word)) (h2 : ¬ 2 * (((p ++ c :: s).length : Int) - tx.length) < best → Rn (srE rs tx rows a best word)) :
    X W (scOf 231) (srR rs tx rows a best word (rowC (p ++ c :: s)) p.length) 3 (match (stAt (bodyOf 231) 2).drop 3 with | .If _ _ b _ :: _ => b | _ => []) Rn Rr := by
  conv => arg 5; whnf
  unfold srR srE
  have hpl : p.length ≤ 40 := by simp at hl; omega
  have hlen : ((rowC (p ++ c :: s)).map D.int).length = (p ++ c :: s).length + 1 := by rw [List.length_map, rowC_len]
  have hcell : (rowC (p ++ c :: s))[p.length]? = some (codeOf c) := by
    unfold rowC
    rw [List.map_append, List.append_assoc, List.getElem?_append_right (by simp)]
    simp
  obtain ⟨k, c', hk, hk2, hc', hcs, hlow⟩ := sT_at hc
  refine X.last (X1.ite (EvT.cmp (a := .int (2 * (((((rowC (p ++ c :: s)).map D.int).length : Nat) : Int) - 1 - (tx.length : Nat)))) (b := .int best) ?_ ?_ (op_ltI _ _) ?_) (fun q => ?_) fun q => ?_)
  · refine Ev.bin (Ev.int 2 _ _) (Ev.bin (Ev.bin (Ev.lenL G ?_ ?_) (Ev.int 1 _ _) (op_sub _ _)) (Ev.lenS G ?_ ?_) (op_sub _ _)) (op_mul _ _ ?_ ?_)
    · walk_at "m.nm"
    · omega
    · walk_at "m.nm"
    · omega
    · omega
    · omega
  · walk_at "m.nm"
  · kernel_rfl
  · have hq : 2 * (((p ++ c :: s).length : Int) - tx.length) < best := by
      simp only [decide_eq_true_eq] at q
      rw [hlen] at q
      omega
    have h1 := h1 hq
    clear h2 q hq
    generalize hvs : rulesOf rs (upc c) = vs at h1
    have hvl : vs.length ≤ 100 := by
      rw [← hvs]
      unfold rulesOf
      rw [List.length_map]
      exact Nat.le_trans (List.length_filter_le ..) hrl
    have hvok : ∀ v ∈ vs, (∀ x ∈ v, Sym x) ∧ v.length ≤ 100 := fun v hv => by
      rw [← hvs] at hv
      obtain ⟨r, hr, _, e⟩ := mem_rules.mp hv
      rw [← e]
      exact ⟨(hrs r hr).2.1, (hrs r hr).2.2.2⟩
    refine X.last (X1.weakR (ρ1 := srR rs tx (rows ++ vs.map fun v => p ++ v ++ s) a best word (rowC (p ++ c :: s)) p.length) (X1.weakJ (X1.loop (ds := vs.map fun v => .str (sOf v)) (J := fun i ρ => ρ = srR rs tx (rows ++ (vs.take i).map fun v => p ++ v ++ s) a best word (rowC (p ++ c :: s)) p.length) (bs := fun i => [((Str.ofString "value"), .d (.str (sOf (vs.getD i []))))])
      (It.list ((congrArg (fun z => Ev W _ _ _ _ (.list z)) ((all_eq hrs hlow).trans (by rw [hvs]))).mp (Ev.getAll (n := 1) G hcs (fun r hr => (hrs r hr).1) hrl ?_ (Ev.sub (a := .str (sOf [115, 84])) (Ev.strL [115, 84] (by decide +kernel)) (Ev.castI (Ev.bin (Ev.cell ?_ ?_ hcell ?_) (Ev.int 256 _ _) (op_sub _ _)) hk) (idx_strN ?_ hc' ?_)) ?_ ?_))) (fun i d hd => ?_) ?_ (fun i d ρ' hd hJ => ?_) ?_) fun ρ' e => ?_) ⟨_, h1, ?_⟩)
    · walk_at "m.nm"
    · walk_at "m.nm"
    · walk_at "m.nm"
    · omega
    · intro _ _; rfl
    · omega
    · intros; rfl
    · intros; rfl
    · rw [List.getElem?_map] at hd
      obtain ⟨v, hv, rfl⟩ := Option.map_eq_some_iff.mp hd
      rw [show vs.getD i [] = v by simp [hv]]
      exact As.name (by kernel_rfl)
    · simp [srR, srE]
    · subst hJ
      rw [List.getElem?_map] at hd
      obtain ⟨v, hv, rfl⟩ := Option.map_eq_some_iff.mp hd
      rw [show vs.getD i [] = v by simp [hv]]
      obtain ⟨hs1, hs2⟩ := hvok v (List.mem_of_getElem? hv)
      have etk : vs.take (i + 1) = vs.take i ++ [v] := by rw [List.take_add_one, hv]; rfl
      rw [etk, List.map_append, ← List.append_assoc]
      generalize hR : rows ++ (vs.take i).map (fun v => p ++ v ++ s) = R
      have hRl : R.length ≤ 2000 := by
        rw [← hR, List.length_append, List.length_map, List.length_take]; omega
      unfold srR srE
      show X W _ (((Str.ofString "value"), .d (.str (sOf v))) :: ((Str.ofString "place"), .d (.int (p.length : Int))) :: ((Str.ofString "row"), .d (.list ((rowC (p ++ c :: s)).map .int))) :: ((Str.ofString "at"), .d (.int (a : Int))) :: ((Str.ofString "word"), .d (.str (sOf word))) :: ((Str.ofString "best"), .d (.int best)) :: ((Str.ofString "rows"), .ol (R.map rowD)) :: ((Str.ofString "rules"), .d (.hdr (rs.map ruleP))) :: ((Str.ofString "text"), .d (.str (sOf tx))) :: []) _ _ _ _
      refine X.last (X1.weakR (X1.append (x := (Str.ofString "rows")) (ds := R.map rowD) (d := rowD (p ++ v ++ s)) ?_ (Ev.newRow (Ev.headSl (s := s) (c := c) ?_ ?_ ?_ ?_) (Ev.fn G ((cl_codes G hs1 hs2).up ?_) ?_ ?_ ?_ ?_ ?_ ?_ ?_) (Ev.tailSl (p := p) (s := s) (c := c) ?_ ?_ ?_ ?_) ?_ ?_ ?_) ?_ ?_ ?_ ?_ ?_ ?_) ⟨_, rfl, ?_⟩)
      · walk_at "m.lk"
      · walk_at "m.nm"
      · walk_at "m.nm"
      · omega
      · intros; rfl
      · omega
      · walk_at "m.es"
      · decide +kernel
      · kernel_rfl
      · kernel_rfl
      · kernel_rfl
      · intros; kernel_rfl
      · intros; kernel_rfl
      · walk_at "m.nm"
      · rw [show ((p.length + 1 : Nat) : Int) = (p.length : Int) + 1 by omega]
        walk_at "m.ev"
      · omega
      · intros; rfl
      · omega
      · omega
      · simp at hl; omega
      · rw [List.length_map]; omega
      · kernel_rfl
      · kernel_rfl
      · intros; rfl
      · intros; rfl
      · kernel_rfl
      · rw [List.map_append, show List.map rowD (List.map (fun v => p ++ v ++ s) [v]) = [rowD (p ++ v ++ s)] from rfl]
        walk_at "m.sb"
    · intros; rfl
    · subst e
      rw [List.length_map, List.take_length]
    · unfold srR srE
      walk_at "m.sb"
  · refine X.nilW (h2 ?_) ?_
    · simp only [decide_eq_false_iff_not] at q
      rw [hlen] at q
      omega
    · unfold srE
      walk_at "m.sb"
end

/- L46 -/
section
open PySem PySem.W
set_option maxRecDepth 100000
set_option maxHeartbeats 2000000
variable {W : Wd} {sc cs : Scope} {ρ : Vs} {n : Nat}
/-- one turn of the search -/
theorem search_body (G : Gw W) {rs : Gr} {nm : Nat} {tx : List Nat} {rows : List (List Nat)} {a : Nat} {best : Int} {word : List Nat} {m : Nat} {Rn : Vs → Prop} {Rr : D → Prop}
    (hg : GOk rs) (hrs : RsOk rs) (hrl : rs.length ≤ 100) (hnm : nm = 83 ∨ nm = 84) (htx : LtrL tx) (ht1 : 1 ≤ tx.length) (ht3 : tx.length ≤ 3) (h : SI rs nm tx rows a best word m) (hlt : a < rows.length)
    (hn : ∀ rows' best' word' m', m' < m → SI rs nm tx rows' (a + 1) best' word' m' → Rn (srE rs tx rows' (a + 1) best' word')) :
    X W (scOf 231) (srE rs tx rows a best word) 3 (stAt (bodyOf 231) 2) Rn Rr := by
  conv => arg 5; whnf
  have hr : rows[a]? = some rows[a] := List.getElem?_eq_getElem hlt
  obtain ⟨hf, hl7⟩ := h.frm _ (List.getElem_mem hlt)
  have hrows := h.rows_le
  generalize rows[a] = r at hr hf hl7
  unfold srE
  with_reducible refine X.seq (X1.assign (Ev.ownItem (ds := rows.map rowD) (j := a) (d := rowD r) ?_ ?_ ?_ ?_ ?_ ?_ ?_ ?_) ?_ ?_) ?_
  · walk_at "m.lk"
  · kernel_rfl
  · walk_at "m.nm"
  · rw [List.getElem?_map, hr]; rfl
  · omega
  · intro _ _; rfl
  · kernel_rfl
  · kernel_rfl
  · kernel_rfl
  · intros; rfl
  with_reducible refine X.seq (X1.assign (Ev.int 0 _ _) ?_ ?_) ?_
  · kernel_rfl
  · intros; rfl
  with_reducible refine X.weak (ρ' := srR rs tx rows a best word (rowC r) 0) ?_ ?_
  · show SubE _ _
    unfold srR srE
    rw [show D.list ((rowC r).map D.int) = rowD r from rfl, show ((0 : Nat) : Int) = 0 from rfl]
    walk_at "m.sb"
  obtain ⟨p, x, rest, hcs, hp, hx⟩ := frm_lead hf
  have hx' : x = 0 ∨ 256 ≤ x := by
    rcases hx with ⟨e, _⟩ | ⟨c, s, e, _, _, hc⟩
    · exact .inl e
    · have := code_nm hc; exact .inr (by omega)
  refine search_place G hcs hp hx' (by rw [rowC_len]; omega) ?_
  conv => arg 5; whnf
  with_reducible refine X.cons (Rm := fun z => ∃ rows' best' word' m', m' < m ∧ SI rs nm tx rows' (a + 1) best' word' m' ∧ z = srE rs tx rows' a best' word') ?_ fun ρ' hz => ?_
  · with_reducible refine X1.ite (b := x == 0) (EvT.plain (Ev.iseof G (Ev.cell ?_ ?_ (lead_at hcs) ?_)) (tr_bool _) ?_) (fun q => ?_) fun q => ?_
    · unfold srR srE; walk_at "m.nm"
    · unfold srR srE; walk_at "m.nm"
    · have := congrArg List.length hcs
      rw [rowC_len] at this
      simp at this; omega
    · intros; rfl
    · have hz : x = 0 := by simpa using q
      rcases hx with ⟨_, rfl⟩ | ⟨c, s, e, _, _, hc⟩
      · exact search_word G hp (by omega) htx (by omega)
          (fun cost hc hlt' => by
            obtain ⟨m', hm, h'⟩ := (h.wordStep ht1 ht3 hr hp hnm hc).1 hlt'
            exact ⟨rows, cost, p, m', hm, h', rfl⟩)
          (fun cost hc hlt' => by
            obtain ⟨m', hm, h'⟩ := (h.wordStep ht1 ht3 hr hp hnm hc).2 hlt'
            exact ⟨rows, best, word, m', hm, h', rfl⟩)
      · have := code_nm hc; omega
    · have hz : x ≠ 0 := by simpa using q
      rcases hx with ⟨e, _⟩ | ⟨c, s, _, rfl, hs, hc⟩
      · exact absurd e hz
      · refine search_name G hrs hrl hc (by omega) (by omega) (by omega) (fun hq => ?_) fun hq => ?_
        · obtain ⟨m', hm, h'⟩ := h.expand hg hp hs hc ht3 hnm hr hq
          exact ⟨_, best, word, m', hm, h', rfl⟩
        · obtain ⟨m', hm, h'⟩ := h.prune hg hc ht1 hr hq
          exact ⟨rows, best, word, m', hm, h', rfl⟩
  obtain ⟨rows', best', word', m', hm, h', rfl⟩ := hz
  with_reducible refine X.last (X1.weakR (X1.aug (a := .int (a : Int)) (b := .int 1) ?_ ?_ ?_ (op_iadd _ _) ?_ ?_) ⟨_, hn rows' best' word' m' hm h', ?_⟩)
  · unfold srE; walk_at "m.lk"
  · kernel_rfl
  · walk_at "m.ev"
  · kernel_rfl
  · kernel_rfl
  · unfold srE
    rw [show ((a + 1 : Nat) : Int) = (a : Int) + 1 by omega]
    walk_at "m.sb"
/-- what the search tells -/
def srP (rs : Gr) (nm : Nat) (tx : List Nat) (d : D) : Prop := ∃ best word, d = .tup [.int best, .str (sOf word)] ∧ best ≤ 6 ∧ Gen rs [nm] word ∧ Mn tx word best ∧ ∀ w, Gen rs [nm] w → ∀ k, Al tx w k → best ≤ k
theorem dk_search : DefOk W 231 230 [(Str.ofString "rules"), (Str.ofString "start"), (Str.ofString "text")] := by walk_at "m.dk3"
theorem cl_search (G : Gw W) {rs : Gr} {nm : Nat} {tx : List Nat} (hg : GOk rs) (hrs : RsOk rs) (hrl : rs.length ≤ 100) (hnm : nm = 83 ∨ nm = 84) (htx : LtrL tx) (ht1 : 1 ≤ tx.length) (ht3 : tx.length ≤ 3) :
    ClP W 4 (.ref 231) [.hdr (rs.map ruleP), .int (codeOf nm), .str (sOf tx)] (srP rs nm tx) := by
  refine ClP.of G dk_search rfl ?_
  conv => arg 5; whnf
  show X W _ [((Str.ofString "rules"), .d (.hdr (rs.map ruleP))), ((Str.ofString "start"), .d (.int (codeOf nm))), ((Str.ofString "text"), .d (.str (sOf tx)))] _ _ _ _
  with_reducible refine X.seq (X1.assignOwn (EvO.list (ds := [rowD [nm]]) (Evs.cons (Ev.list (ds := [.int (codeOf nm), .int 0]) ?_ ?_) Evs.nil ?_) ?_) rfl ?_ ?_ ?_) ?_
  · walk_at "m.es"
  · simp
  · intros; rfl
  · simp
  · kernel_rfl
  · exact noOwn_of (by kernel_rfl)
  · intros; rfl
  with_reducible refine X.seq (X1.unpack (d := .tup [.int 99, .str (sOf []), .int 0]) (Ev.tup ?_ ?_) (As.tup3 ?_ ?_ ?_ ?_ ?_ ?_) ?_ ?_) ?_
  · walk_at "m.es"
  · simp
  · kernel_rfl
  · kernel_rfl
  · kernel_rfl
  · kernel_rfl
  · kernel_rfl
  · kernel_rfl
  · intros; rfl
  · intro env h
    show swappedStores _ _ env = _
    unfold swappedStores Env.blockKind Env.kindOf
    rw [h]
    kernel_rfl
  with_reducible refine X.weak (ρ' := srE rs tx [[nm]] 0 99 []) ?_ ?_
  · show SubE _ _
    unfold srE
    rw [show ((0 : Nat) : Int) = 0 from rfl]
    simp only [List.cons_append, List.nil_append, List.map_cons, List.map_nil]
    walk_at "m.sb"
  with_reducible refine X.cons (X1.while (m0 := 729) (J := fun m ρ => ∃ rows a best word, SI rs nm tx rows a best word m ∧ ρ = srE rs tx rows a best word)
    (Rn := fun ρ => ∃ rows a best word, ρ = srE rs tx rows a best word ∧ best ≤ 6 ∧ Gen rs [nm] word ∧ Mn tx word best ∧ ∀ w, Gen rs [nm] w → ∀ k, Al tx w k → best ≤ k) ⟨[[nm]], 0, 99, [], SI.start hnm [], rfl⟩ ?_) fun ρ' hz => ?_
  · rintro m ρ' ⟨rows, a, best, word, h, rfl⟩
    refine ⟨_, EvT.cmp (a := .int (a : Int)) (b := .int ((rows.map rowD).length : Nat)) ?_ (Ev.ownLen (ds := rows.map rowD) ?_ ?_ (Ev.bui G.gd ?_ G.bl ?_ ?_) ?_ ?_ ?_) (op_ltI _ _) ?_, fun q => ?_, fun q => ?_⟩
    · unfold srE; walk_at "m.nm"
    · unfold srE; walk_at "m.lk"
    · kernel_rfl
    · walk_at "m.sd"
    · kernel_rfl
    · kernel_rfl
    · have := h.rows_le
      rw [List.length_map]; omega
    · kernel_rfl
    · kernel_rfl
    · kernel_rfl
    · have hlt : a < rows.length := by
        simp only [decide_eq_true_eq, List.length_map] at q; omega
      exact search_body G hg hrs hrl hnm htx ht1 ht3 h hlt fun rows' best' word' m' hm h' => ⟨m', hm, rows', a + 1, best', word', h', rfl⟩
    · have hlt : ¬ a < rows.length := by
        simp only [decide_eq_false_iff_not, List.length_map] at q; omega
      exact ⟨rows, a, best, word, rfl, h.done hlt⟩
  obtain ⟨rows, a, best, word, rfl, hz⟩ := hz
  unfold srE
  refine X.ret (X1.ret (d := .tup [.int best, .str (sOf word)]) (Ev.tup ?_ ?_) ⟨best, word, rfl, hz⟩)
  · walk_at "m.es"
  · simp
end

/- L47 -/
section
open PySem PySem.W
set_option maxRecDepth 100000
set_option maxHeartbeats 2000000
variable {W : Wd} {sc cs : Scope} {ρ : Vs} {n : Nat}
theorem sign_ltr (n : Nat) : Ltr (signC n) := by
  unfold signC Ltr
  have : n % 4 < 4 := Nat.mod_lt _ (by omega)
  generalize n % 4 = r at this
  match r, this with
  | 0, _ => decide
  | 1, _ => decide
  | 2, _ => decide
  | 3, _ => decide
theorem inner_nm (n : Nat) : Nm (innerC n) := by
  unfold innerC Nm
  have : n / 4 % 2 + 2 * (n / 64 % 2) < 4 := by omega
  generalize n / 4 % 2 + 2 * (n / 64 % 2) = r at this
  match r, this with
  | 0, _ => decide
  | 1, _ => decide
  | 2, _ => decide
  | 3, _ => decide
theorem name_nm (k n : Nat) (hk : k < 6) : Nm (nameC k n) ∧ upc (nameC k n) = if k < 3 then 83 else 84 := by
  unfold nameC Nm
  have : n / 32 % 2 < 2 := Nat.mod_lt _ (by omega)
  generalize n / 32 % 2 = r at this
  match k, hk, r, this with
  | 0, _, 0, _ => decide
  | 0, _, 1, _ => decide
  | 1, _, 0, _ => decide
  | 1, _, 1, _ => decide
  | 2, _, 0, _ => decide
  | 2, _, 1, _ => decide
  | 3, _, 0, _ => decide
  | 3, _, 1, _ => decide
  | 4, _, 0, _ => decide
  | 4, _, 1, _ => decide
  | 5, _, 0, _ => decide
  | 5, _, 1, _ => decide
theorem ltr_mem {a : Nat} (h : Ltr a) : a ∈ ([97, 65, 98, 66] : List Nat) := by
  rcases h with rfl | rfl | rfl | rfl <;> decide
theorem nm_mem {a : Nat} (h : Nm a) : a ∈ ([83, 84, 115, 116] : List Nat) := by
  rcases h with rfl | rfl | rfl | rfl <;> decide
theorem vl_one {a : Nat} (h : Ltr a) : [a] ∈ vlTexts :=
  List.mem_append.mpr (.inl (List.mem_append.mpr (.inl (List.mem_map.mpr ⟨a, ltr_mem h, rfl⟩))))
theorem vl_two {a m : Nat} (h : Ltr a) (hm : Nm m) : [a, m] ∈ vlTexts ∧ [m, a] ∈ vlTexts :=
  ⟨List.mem_append.mpr (.inl (List.mem_append.mpr (.inr (List.mem_flatMap.mpr ⟨a, ltr_mem h, List.mem_flatMap.mpr ⟨m, nm_mem hm, by simp⟩⟩)))),
   List.mem_append.mpr (.inl (List.mem_append.mpr (.inr (List.mem_flatMap.mpr ⟨a, ltr_mem h, List.mem_flatMap.mpr ⟨m, nm_mem hm, by simp⟩⟩))))⟩
theorem vl_three {a m b : Nat} (h : Ltr a) (hm : Nm m) (hb : Ltr b) : [a, m, b] ∈ vlTexts :=
  List.mem_append.mpr (.inr (List.mem_flatMap.mpr ⟨a, ltr_mem h, List.mem_flatMap.mpr ⟨m, nm_mem hm, List.mem_map.mpr ⟨b, ltr_mem hb, rfl⟩⟩⟩))
theorem rule_vl (k n : Nat) : ruleV k n ∈ vlTexts := by
  unfold ruleV
  split
  · exact vl_one (sign_ltr n)
  · split
    · exact vl_three (sign_ltr n) (inner_nm n) (sign_ltr _)
    · split
      · exact (vl_two (sign_ltr n) (inner_nm n)).1
      · exact (vl_two (sign_ltr n) (inner_nm n)).2
theorem name_tx (k n : Nat) (hk : k < 6) : [nameC k n] ∈ nmTexts := by
  rcases (name_nm k n hk).1 with e | e | e | e <;> rw [e] <;> decide
theorem rule_lin (k n : Nat) (hk : k % 3 ≠ 0) : Lin (ruleV k n) := by
  have hs := sign_ltr n
  have hi := inner_nm n
  have one : ∀ {a : Nat}, Ltr a → LtrL [a] := fun h c hc => by simp at hc; exact hc ▸ h
  unfold ruleV
  rw [if_neg hk]
  split
  · exact ⟨[signC n], innerC n, [signC (n / 8)], rfl, one hs, one (sign_ltr _), hi, by simp, by simp⟩
  · split
    · exact ⟨[signC n], innerC n, [], rfl, one hs, by simp [LtrL], hi, by simp, by simp⟩
    · exact ⟨[], innerC n, [signC n], rfl, by simp [LtrL], one hs, hi, by simp, by simp⟩
def rsN (num : Nat → Nat) : Gr := (List.range 6).map fun k => (nameC k (num k), ruleV k (num k))
theorem rsN_eq (num : Nat → Nat) : rsN num = [(nameC 0 (num 0), ruleV 0 (num 0)), (nameC 1 (num 1), ruleV 1 (num 1)), (nameC 2 (num 2), ruleV 2 (num 2)), (nameC 3 (num 3), ruleV 3 (num 3)), (nameC 4 (num 4), ruleV 4 (num 4)), (nameC 5 (num 5), ruleV 5 (num 5))] := rfl
theorem rsN_gram (num : Nat → Nat) : D.list ((List.range 6).map (ruleD num)) = gramD (rsN num) := by
  unfold gramD rsN; rw [List.map_map]; rfl
theorem rsN_ok (num : Nat → Nat) : GOk (rsN num) := fun nm hnm => by
  have h0 := (name_nm 0 (num 0) (by omega)).2
  have h1 := (name_nm 1 (num 1) (by omega)).2
  have h2 := (name_nm 2 (num 2) (by omega)).2
  have h3 := (name_nm 3 (num 3) (by omega)).2
  have h4 := (name_nm 4 (num 4) (by omega)).2
  have h5 := (name_nm 5 (num 5) (by omega)).2
  simp only [show (0 : Nat) < 3 from by omega, show (1 : Nat) < 3 from by omega, show (2 : Nat) < 3 from by omega, show ¬ (3 : Nat) < 3 from by omega, show ¬ (4 : Nat) < 3 from by omega, show ¬ (5 : Nat) < 3 from by omega, if_true, if_false] at h0 h1 h2 h3 h4 h5
  rcases hnm with rfl | rfl
  · refine ⟨signC (num 0), ruleV 1 (num 1), ruleV 2 (num 2), ?_, sign_ltr _, rule_lin _ _ (by decide), rule_lin _ _ (by decide)⟩
    rw [rsN_eq]
    simp [rulesOf, List.filter, h0, h1, h2, h3, h4, h5, ruleV]
  · refine ⟨signC (num 3), ruleV 4 (num 4), ruleV 5 (num 5), ?_, sign_ltr _, rule_lin _ _ (by decide), rule_lin _ _ (by decide)⟩
    rw [rsN_eq]
    simp [rulesOf, List.filter, h0, h1, h2, h3, h4, h5, ruleV]
theorem nm_sym {c : Nat} (h : Nm c) : Sym c := .inr h
theorem rule_sym (k n : Nat) : (∀ c ∈ ruleV k n, Sym c) ∧ 0 < (ruleV k n).length ∧ (ruleV k n).length ≤ 100 := by
  have hs := sign_ltr n
  have hi := inner_nm n
  have hs' := sign_ltr (n / 8)
  unfold ruleV
  split
  · refine ⟨fun c hc => ?_, by simp, by simp⟩
    simp at hc; exact .inl (hc ▸ hs)
  · split
    · refine ⟨fun c hc => ?_, by simp, by simp⟩
      simp at hc
      rcases hc with rfl | rfl | rfl
      · exact .inl hs
      · exact nm_sym hi
      · exact .inl hs'
    · split
      · refine ⟨fun c hc => ?_, by simp, by simp⟩
        simp at hc
        rcases hc with rfl | rfl
        · exact .inl hs
        · exact nm_sym hi
      · refine ⟨fun c hc => ?_, by simp, by simp⟩
        simp at hc
        rcases hc with rfl | rfl
        · exact nm_sym hi
        · exact .inl hs
theorem rsN_rs (num : Nat → Nat) : RsOk (rsN num) := fun r hr => by
  obtain ⟨k, hk, rfl⟩ := List.mem_map.mp hr
  have hk' : k < 6 := by simpa using hk
  exact ⟨nm_sym (name_nm k _ hk').1, rule_sym k _⟩
theorem rsN_len (num : Nat → Nat) : (rsN num).length = 6 := by unfold rsN; simp
theorem rsN_ne (num : Nat → Nat) : ∀ nm, nm = 83 ∨ nm = 84 → ((rsN num).filter fun r => upc r.1 == nm) ≠ [] := fun nm hnm h => by
  have := (rsN_ok num).some hnm
  unfold rulesOf at this
  rw [h] at this
  exact this rfl
/- the script -/
def scr (items : Array Value) (k : Nat) : Int := match items[k]? with
  | some (.int i _) => i
  | _ => 0
structure ScrOk (W : Wd) (sa : Addr) (items : Array Value) : Prop where
  isl : W.h1.IsList sa items
  len : items.size ≤ 63
  its : ∀ (k : Nat) (v : Value), items[k]? = some v → ∃ i t, v = Value.int i t
def num (items : Array Value) (k : Nat) : Nat := [2, 124, 13, 33, 2, 74, 36].getD k 0 + if k < items.size then (scr items k % 1000000).toNat else 0
theorem num_lt (items : Array Value) (k : Nat) : num items k < 2000000 := by
  unfold num
  have h1 : [2, 124, 13, 33, 2, 74, 36].getD k 0 ≤ 124 := by
    match k with
    | 0 | 1 | 2 | 3 | 4 | 5 | 6 => decide
    | k + 7 => simp
  have h2 := Int.emod_lt_of_pos (scr items k) (show (0 : Int) < 1000000 by omega)
  split <;> omega
theorem ScrOk.keeps {sa : Addr} {items : Array Value} (S : ScrOk W sa items) {h : Heap} (hk : ∀ a o, W.h1.get? a = some o → h.get? a = some o) : h.IsList sa items := by
  obtain ⟨o, ho, r⟩ := S.isl
  exact ⟨o, hk _ _ ho, r⟩
theorem Ev.scrItem {sa : Addr} {items : Array Value} {e ie : Expr} {pos : Pos} {k : Nat} (S : ScrOk W sa items) (he : Ev W sc ρ n e (.val (.ref sa))) (hi : Ev W sc ρ n ie (.int (k : Int))) (hk : k < items.size) (hp : PlainIdx ie) : Ev W sc ρ n (.Subscript e ie pos) (.int (scr items k)) := fun env A F s hs hA c =>
  PyProof.Rows.Subscript_ ((he env A F s hs hA c).then fun u F1 s1 x1 r1 => (hi env A F1 s1 hs hA (c.ext x1)).then fun v F2 s2 x2 r2 => by
    simp only [Rd] at r1 r2
    subst r1
    obtain ⟨t, rfl⟩ := r2
    have hl := S.keeps ((c.ext x1).ext x2).keeps1
    have hx : items[k]? = some items[k] := Array.getElem?_eq_getElem hk
    obtain ⟨i, t', e⟩ := S.its k _ hx
    have hlen := S.len
    refine PyProof.Rows.tail_any hl.typeIs slot_list_getitem.lookup ?_ (hp _ _)
    refine wpAny_getItem_list (x := items[k]) hl (by omega) (by omega) (by rw [show ((k : Int)).toNat = k by omega]; exact hx) ⟨F2, x1.trans x2, ?_⟩
    simp only [Rd]
    refine ⟨t', ?_⟩
    rw [e]
    unfold scr
    rw [hx, e])
theorem Ev.scrLen {sa : Addr} {items : Array Value} {e : Expr} {fp pos : Pos} (S : ScrOk W sa items) (he : Ev W sc ρ n e (.val (.ref sa))) (hlen : Ev W sc ρ n (.Name (Str.ofString "len") fp) (.val (.builtin "len"))) (hp : ∀ env, starEach [e] env = [(false, eval e env)])
    (hv : ∀ env, eval (.Call (.Name (Str.ofString "len") fp) [e] [] pos) env = (do callWith pos (← eval (.Name (Str.ofString "len") fp) env) [] (backTo pos (starEach [e] env)) (backToKw pos (keywordEach [] env)))) :
    Ev W sc ρ n (.Call (.Name (Str.ofString "len") fp) [e] [] pos) (.int (items.size : Nat)) := fun env A F s hs hA c =>
  PyProof.Rows.Call_ ((hlen env A F s hs hA c).then fun v F1 s1 x1 r1 => by
    simp only [Rd] at r1
    subst r1
    have hp' : backTo pos (starEach [e] env) = [(false, eval e env)] := by rw [hp env]; rfl
    rw [hp']
    refine callWith_builtin1 ((he env A F1 s1 hs hA (c.ext x1)).then fun u F2 s2 x2 r2 => ?_)
    simp only [Rd] at r2
    subst r2
    have hl := S.keeps ((c.ext x1).ext x2).keeps1
    have := S.len
    refine PyProof.Rows.len_list hl (by omega) ⟨F2, (x1.trans x2).trans (Ext.toks x2.sub _), ?_⟩
    simp only [Rd]; exact ⟨_, rfl⟩) (hv env)
def txN (m : Nat) : List Nat := (List.range 3).map fun k => signC (m / 4 ^ k)
theorem txN_ltr (m : Nat) : LtrL (txN m) := fun c hc => by
  obtain ⟨k, _, rfl⟩ := List.mem_map.mp hc
  exact sign_ltr _
theorem txN_len (m : Nat) : (txN m).length = 3 := by unfold txN; simp
theorem dk_law : DefOk W 251 250 [(Str.ofString "script")] := ⟨by kernel_rfl, by kernel_rfl, by kernel_rfl, by kernel_rfl, by kernel_rfl, by kernel_rfl, fun vals h => by (match vals, h with | [v], _ => kernel_rfl), by decide +kernel, by kernel_rfl, by kernel_rfl, by kernel_rfl, by kernel_rfl, by kernel_rfl, by kernel_rfl⟩
end

/- L48 -/
section
open PySem PySem.W
set_option maxRecDepth 100000
set_option maxHeartbeats 2000000
variable {W : Wd} {sc cs : Scope} {ρ : Vs} {n : Nat}
theorem op_neI' (a b : Int) (h : a = b) : Op2 W n (compareOp .NotEq) (.int a) (.int b) (.val (.bool false)) := by
  have := op_neI (W := W) (n := n) a b
  rwa [show (a != b) = false by simp [h]] at this
def base (k : Nat) : Nat := [2, 124, 13, 33, 2, 74, 36].getD k 0
theorem enum7 : (List.range ([D.int 2, .int 124, .int 13, .int 33, .int 2, .int 74, .int 36] : List D).length).zipWith (fun i d => D.tup [.int ((i : Nat) : Int), d]) [D.int 2, .int 124, .int 13, .int 33, .int 2, .int 74, .int 36] = (List.range 7).map fun k : Nat => D.tup [.int (k : Int), .int (base k : Int)] := by rfl
theorem pair_inj (x y : Nat) (h : D.tup [.int (x : Int), .int (base x : Int)] = D.tup [.int (y : Int), .int (base y : Int)]) : x = y := by
  injection h with h
  injection h with h _
  injection h with h
  omega
theorem num_val (items : Array Value) (k : Nat) : (num items k : Int) = (base k : Int) + if k < items.size then scr items k % 1000000 else 0 := by
  unfold num base
  have := Int.emod_nonneg (scr items k) (show (1000000 : Int) ≠ 0 by omega)
  split <;> omega
def lwE (items : Array Value) (sa : Addr) : Vs := [((Str.ofString "numbers"), .d (.list ((List.range 7).map fun k => .int (num items k : Int)))), ((Str.ofString "script"), .d (.val (.ref sa)))]
/-- the numbers -/
theorem law_numbers (G : Gw W) {sa : Addr} {items : Array Value} (S : ScrOk W sa items) {Rn : Vs → Prop} {Rr : D → Prop} (h : X W (scOf 251) (lwE items sa) 6 ((bodyOf 251).drop 1) Rn Rr) : X W (scOf 251) [((Str.ofString "script"), .d (.val (.ref sa)))] 6 (bodyOf 251) Rn Rr := by
  conv => arg 5; whnf
  with_reducible refine X.seq (X1.assign (d := .list (((List.range 7).filter fun _ => true).map fun k => .int (num items k : Int))) (Ev.compM (fun k : Nat => D.tup [.int (k : Int), .int (base k : Int)]) pair_inj (List.range 7) (fun _ => true) _ (fun k => [((Str.ofString "n"), .d (.int (base k : Int))), ((Str.ofString "k"), .d (.int (k : Int)))]) SubE.refl ?_ ?_
    ((congrArg (It W _ _ _ _ _) enum7).mp <| It.enum (Ev.bui G.gd ?_ G.be ?_ ?_) (Ev.list ?_ ?_) ?_ ?_) ?_ ?_ ?_ (fun k hk => ⟨EvTs.nil, fun _ => ?_⟩) ?_) ?_ ?_) ?_
  · kernel_rfl
  · kernel_rfl
  · walk_at "m.sd"
  · kernel_rfl
  · kernel_rfl
  · walk_at "m.es"
  · simp
  · intros; rfl
  · intros; rfl
  · simp
  · exact fun k _ => As.tup2 (by kernel_rfl) (by kernel_rfl) (by kernel_rfl)
  · intro k _; kernel_rfl
  · simp only [List.cons_append, List.nil_append]
    rw [num_val]
    with_reducible refine Ev.bin ?_ (Ev.ite (EvT.cmp (a := .int (k : Int)) (b := .int (items.size : Nat)) ?_ (Ev.scrLen S ?_ (Ev.bui G.gd ?_ G.bl ?_ ?_) ?_ ?_) (op_ltI _ _) ?_) (fun q => ?_) fun q => ?_) (op_add _ _)
    · walk_at "m.nm"
    · walk_at "m.nm"
    · walk_at "m.nm"
    · walk_at "m.sd"
    · kernel_rfl
    · kernel_rfl
    · intros; rfl
    · intros; rfl
    · kernel_rfl
    · have hlt : k < items.size := by simp only [decide_eq_true_eq] at q; omega
      rw [if_pos hlt, ← Int.fmod_eq_emod_of_nonneg _ (by omega : (0 : Int) ≤ 1000000)]
      with_reducible refine Ev.bin (Ev.scrItem S ?_ ?_ hlt ?_) (Ev.int _ _ _) (op_fmod _ _ (by omega))
      · walk_at "m.nm"
      · walk_at "m.nm"
      · intro _ _; rfl
    · have hlt : ¬ k < items.size := by simp only [decide_eq_false_iff_not] at q; omega
      rw [if_neg hlt]
      exact Ev.int _ _ _
  · intros; rfl
  · kernel_rfl
  · intro env h
    show swapsWith _ _ _ env = _
    unfold swapsWith Env.blockKind Env.kindOf
    rw [h]
    kernel_rfl
  rw [filter_yes]
  exact h
end

/- L49 -/
section
open PySem PySem.W
set_option maxRecDepth 100000
set_option maxHeartbeats 2000000
variable {W : Wd} {sc cs : Scope} {ρ : Vs} {n : Nat}
def lgE (num : Nat → Nat) (U : V) (sa : Addr) : Vs := [((Str.ofString "rules"), U), ((Str.ofString "text"), .d (.str (sOf (txN (num 6))))), ((Str.ofString "grammar"), .d (gramD (rsN num))), ((Str.ofString "script"), .d (.val (.ref sa)))]
/-- the grammar, the text, the Headers -/
theorem law_rules (G : Gw W) {sa : Addr} {items : Array Value} {Rn : Vs → Prop} {Rr : D → Prop} (h : X W (scOf 251) (lgE (num items) (.d (.hdr ((rsN (num items)).map ruleP))) sa) 6 ((bodyOf 251).drop 5) Rn Rr) : X W (scOf 251) (lwE items sa) 6 ((bodyOf 251).drop 1) Rn Rr := by
  conv => arg 5; whnf
  have hnum := num_lt items
  unfold lwE
  generalize num items = nu at h hnum ⊢
  -- grammar
  with_reducible refine X.seq (X1.assign (d := gramD (rsN nu)) ?_ ?_ ?_) ?_
  · rw [← rsN_gram]
    with_reducible refine Ev.fn G ((cl_grammar G nu ((List.range 7).map nu) rfl hnum).up ?_) ?_ ?_ ?_ ?_ ?_ ?_ ?_
    · omega
    · rw [show ((List.range 7).map nu).map (fun k : Nat => D.int (k : Int)) = (List.range 7).map fun k => D.int (nu k : Int) by rw [List.map_map]; rfl]
      walk_at "m.es"
    · decide +kernel
    · kernel_rfl
    · kernel_rfl
    · kernel_rfl
    · intros; kernel_rfl
    · intros; kernel_rfl
  · kernel_rfl
  · intros; rfl
  -- text
  with_reducible refine X.seq (X1.assign (d := .str (sOf (txN (nu 6)))) ((congrArg (fun z => Ev W _ _ _ _ (.str z)) (join_self (txN (nu 6)))).mp (Ev.join (xs := (txN (nu 6)).map fun c => sOf [c]) (Ev.strL [] (by decide +kernel)) ?_ (join_ok _ ?_) ?_ ?_ ?_)) ?_ ?_) ?_
  · rw [show D.list (((txN (nu 6)).map fun c => sOf [c]).map .str) = D.list (((List.range 3).filter fun _ => true).map fun k => .str (sOf [signC (nu 6 / 4 ^ k)])) by rw [filter_yes]; unfold txN; rw [List.map_map, List.map_map]; rfl]
    with_reducible refine Ev.compM (ρ' := [((Str.ofString "numbers"), .d (.list ((List.range 7).map fun k => .int (nu k : Int))))]) (fun k : Nat => .int (k : Int)) int_inj (List.range 3) (fun _ => true) _ (fun k => [((Str.ofString "k"), .d (.int (k : Int)))]) ?_ ?_ ?_ (It.range1 (k := 3) G (Ev.int 3 _ _) (by omega)) ?_ ?_ ?_ (fun k hk => ⟨EvTs.nil, fun _ => ?_⟩) ?_
    · walk_at "m.sb"
    · kernel_rfl
    · kernel_rfl
    · simp
    · exact fun k _ => As.name (by kernel_rfl)
    · intro k _; kernel_rfl
    · have hk3 : k < 3 := by simpa using hk
      have h6 := hnum 6
      simp only [List.cons_append, List.nil_append]
      with_reducible refine Ev.letter (m := nu 6 / 4 ^ k) (Ev.mod 4 (Ev.bin (Ev.sub (a := .list ((List.range 7).map fun k => .int (nu k : Int))) (b := .int ((6 : Nat) : Int)) ?_ (Ev.int 6 _ _) (idx_list (d := .int (nu 6 : Int)) ?_ ?_ ?_)) (Ev.bin (Ev.int 4 _ _) ?_ (op_pow4 (k : Int) ?_ ?_)) (op_divN (nu 6) (4 ^ k) _ ?_ ?_ ?_ ?_)) ?_) ?_
      · walk_at "m.nm"
      · intro _ _; rfl
      · rfl
      · omega
      · walk_at "m.nm"
      · omega
      · omega
      · rw [show (k : Int).toNat = k by omega]
        simp
      · exact Nat.pow_pos (by omega)
      · omega
      · have : 4 ^ k ≤ 4 ^ 3 := Nat.pow_le_pow_right (by omega) (by omega)
        omega
      · omega
      · intro _ _; rfl
    · intros; rfl
  · rw [txN_len]; omega
  · intros; rfl
  · intros; rfl
  · kernel_rfl
  · kernel_rfl
  · intros; rfl
  -- rules = Headers()
  with_reducible refine X.seq (X1.assignOwn (EvO.newHeaders (n := 0) G ?_) rfl ?_ ?_ ?_) ?_
  · kernel_rfl
  · kernel_rfl
  · exact noOwn_of (by kernel_rfl)
  · intros; rfl
  with_reducible refine X.weak (ρ' := lgE nu (.oh []) sa) ?_ ?_
  · show SubE _ _
    unfold lgE
    walk_at "m.sb"
  -- add_header
  with_reducible refine X.cons (X1.loop (ds := (rsN nu).map ruleP) (J := fun i ρ => ρ = lgE nu (.oh (((rsN nu).take i).map ruleP)) sa) (bs := fun i => [((Str.ofString "value"), .d (.str (sOf ((rsN nu).getD i (0, [])).2))), ((Str.ofString "name"), .d (.str (sOf [((rsN nu).getD i (0, [])).1])))]) (It.list ?_) (fun i d hd => ?_) rfl (fun i d ρ' hd hJ => ?_) ?_) fun ρ' e => ?_
  · show Ev W _ _ _ _ (gramD (rsN nu))
    unfold lgE
    walk_at "m.nm"
  · rw [List.getElem?_map] at hd
    obtain ⟨r, hr, rfl⟩ := Option.map_eq_some_iff.mp hd
    rw [show (rsN nu).getD i (0, []) = r by simp [hr]]
    exact As.tup2 (by kernel_rfl) (by kernel_rfl) (by kernel_rfl)
  · subst hJ
    rw [List.getElem?_map] at hd
    obtain ⟨r, hr, rfl⟩ := Option.map_eq_some_iff.mp hd
    rw [show (rsN nu).getD i (0, []) = r by simp [hr]]
    have hrm := List.mem_of_getElem? hr
    have etk : (rsN nu).take (i + 1) = (rsN nu).take i ++ [r] := by rw [List.take_add_one, hr]; rfl
    rw [etk, List.map_append, show [r].map ruleP = [ruleP r] from rfl]
    have hlen : (((rsN nu).take i).map ruleP).length ≤ 6 := by
      have := rsN_len nu
      rw [List.length_map, List.length_take]; omega
    have hcv : [r.1] ∈ nmTexts ∧ r.2 ∈ vlTexts := by
      obtain ⟨k, hk, rfl⟩ := List.mem_map.mp hrm
      exact ⟨name_tx k _ (by simpa using hk), rule_vl k _⟩
    generalize ((rsN nu).take i).map ruleP = L at hlen ⊢
    unfold lgE
    show X W _ (((Str.ofString "value"), .d (.str (sOf r.2))) :: ((Str.ofString "name"), .d (.str (sOf [r.1]))) :: ((Str.ofString "rules"), V.oh L) :: ((Str.ofString "text"), .d (.str (sOf (txN (nu 6))))) :: ((Str.ofString "grammar"), .d (gramD (rsN nu))) :: ((Str.ofString "script"), .d (.val (.ref sa))) :: []) _ _ _ _
    with_reducible refine X.last (X1.weakR (X1.addHeader (n := 3) (x := (Str.ofString "rules")) (ds := L) (c := r.1) (v := r.2) G ?_ ?_ ?_ ?_ hcv.1 hcv.2 ?_ ?_ ?_ ?_ ?_) ⟨_, rfl, ?_⟩)
    · walk_at "m.lk"
    · omega
    · walk_at "m.nm"
    · walk_at "m.nm"
    · kernel_rfl
    · kernel_rfl
    · intros; rfl
    · intros; rfl
    · intros; rfl
    · walk_at "m.sb"
  · intros; rfl
  subst e
  rw [List.length_map, List.take_length]
  refine X.freezeH (x := (Str.ofString "rules")) (ds := (rsN nu).map ruleP) ?_ (X.weak (ρ' := lgE nu (.d (.hdr ((rsN nu).map ruleP))) sa) ?_ h)
  · unfold lgE
    walk_at "m.lk"
  · show SubE _ _
    unfold lgE
    walk_at "m.sb"
end

/- L50 -/
section
open PySem PySem.W
set_option maxRecDepth 100000
set_option maxHeartbeats 2000000
variable {W : Wd} {sc cs : Scope} {ρ : Vs} {n : Nat}
def nmOf (i : Nat) : Nat := if i = 0 then 83 else 84
theorem nmOf_or (i : Nat) : nmOf i = 83 ∨ nmOf i = 84 := by unfold nmOf; split <;> simp
def pairOf (i : Nat) : D := .tup [.int (codeOf (nmOf i)), .int (i : Int)]
def bwOf : D → Vs
  | .tup [b, w] => [((Str.ofString "word"), .d w), ((Str.ofString "best"), .d b)]
  | _ => []
theorem op_neI0 (a b : Int) (h : a = b) : Op2 W n (compareOp .NotEq) (.int a) (.int b) (.val (.bool false)) := op_neI' a b h
/-- the tables, the searches -/
theorem law_end (G : Gw W) {sa : Addr} {items : Array Value} : X W (scOf 251) (lgE (num items) (.d (.hdr ((rsN (num items)).map ruleP))) sa) 6 ((bodyOf 251).drop 5) (fun _ => False) (fun d => d = .val (.bool true)) := by
  conv => arg 5; whnf
  generalize num items = nu
  have hg := rsN_ok nu
  have hrs := rsN_rs nu
  have hl := rsN_len nu
  have htl := txN_ltr (nu 6)
  have htn := txN_len (nu 6)
  unfold lgE
  generalize rsN nu = rs at hg hrs hl ⊢
  generalize txN (nu 6) = tx at htl htn ⊢
  refine X.cons (X1.assignE (EvE.fn G ((cl_tables G htl htn hrs (by omega) (fun nm hnm h => ?_) (TInv rs tx) Mz (TInv.start hg htn) fun K nm hnm hI hne => ⟨hI.step hg htn hnm, Mz_lt hI hg htn hnm hne⟩).up ?_) ?_ ?_ ?_ ?_ ?_ ?_ ?_) ?_ ?_) fun ρ' hz => ?_
  · have := hg.some hnm
    unfold rulesOf at this
    rw [h] at this
    exact this rfl
  · omega
  · walk_at "m.es"
  · decide +kernel
  · kernel_rfl
  · kernel_rfl
  · kernel_rfl
  · intros; kernel_rfl
  · intros; kernel_rfl
  · kernel_rfl
  · intros; rfl
  obtain ⟨d, ⟨K, rfl, hI, hF⟩, rfl⟩ := hz
  generalize hρ : ((Str.ofString "known"), V.d (knD K)) :: ((Str.ofString "rules"), V.d (.hdr (rs.map ruleP))) :: ((Str.ofString "text"), V.d (.str (sOf tx))) :: ((Str.ofString "grammar"), V.d (gramD rs)) :: ((Str.ofString "script"), V.d (.val (.ref sa))) :: [] = ρ0
  with_reducible refine X.cons (X1.loop (ds := [.tup [.int 256, .int 0], .tup [.int 257, .int 1]]) (J := fun i ρ => ρ = ρ0) (bs := fun i => [((Str.ofString "at"), .d (.int (i : Int))), ((Str.ofString "start"), .d (.int (codeOf (nmOf i))))]) (It.tup (Ev.tup (Evs.cons (Ev.tup ?_ ?_) (Evs.cons (Ev.tup ?_ ?_) Evs.nil ?_) ?_) ?_)) (fun i d hd => ?_) rfl (fun i d ρ' hd hJ => ?_) ?_) fun ρ' e => ?_
  · walk_at "m.es"
  · simp
  · walk_at "m.es"
  · simp
  · intros; rfl
  · intros; rfl
  · simp
  · have hd' : d = pairOf i := by
      match i, hd with
      | 0, hd => simp at hd; rw [← hd]; rfl
      | 1, hd => simp at hd; rw [← hd]; rfl
    subst hd'
    exact As.tup2 (by kernel_rfl) (by kernel_rfl) (by kernel_rfl)
  · have hi : i < 2 := by
      have := (List.getElem?_eq_some_iff.mp hd).1
      simpa using this
    clear hd
    have hnm := nmOf_or i
    have hcode : codeOf (nmOf i) - 256 = ((i : Nat) : Int) ∧ ([83, 84] : List Nat)[i]? = some (nmOf i) := by
      match i, hi with
      | 0, _ => exact ⟨by decide, rfl⟩
      | 1, _ => exact ⟨by decide, rfl⟩
    generalize nmOf i = nm at hnm hcode ⊢
    subst hJ
    subst hρ
    show X W _ (((Str.ofString "at"), .d (.int (i : Int))) :: ((Str.ofString "start"), .d (.int (codeOf nm))) :: ((Str.ofString "known"), V.d (knD K)) :: ((Str.ofString "rules"), V.d (.hdr (rs.map ruleP))) :: ((Str.ofString "text"), V.d (.str (sOf tx))) :: ((Str.ofString "grammar"), V.d (gramD rs)) :: ((Str.ofString "script"), V.d (.val (.ref sa))) :: []) _ _ _ _
    have htd : LtrL (tx.drop i) := fun c hc => htl c (List.mem_of_mem_drop hc)
    with_reducible refine X.cons (X1.unpackE (bs := bwOf) (EvE.fn (ds := [.hdr (rs.map ruleP), .int (codeOf nm), .str (sOf (tx.drop i))]) G ((cl_search G hg hrs (by omega) hnm htd (by rw [List.length_drop]; omega) (by rw [List.length_drop]; omega)).up ?_) (Evs.cons ?_ (Evs.cons ?_ (Evs.cons (sl_from tx i ▸ Ev.sliceS (value := .Name (Str.ofString "text") _) ?_ (EvP.int ?_) EvP.none ?_ ?_) Evs.nil ?_) ?_) ?_) ?_ ?_ ?_ ?_ ?_ ?_) (fun d hd => ?_) ?_ ?_) fun ρ' hz => ?_
    · omega
    · walk_at "m.nm"
    · walk_at "m.nm"
    · walk_at "m.nm"
    · walk_at "m.nm"
    · omega
    · intros; rfl
    · intros; rfl
    · intros; rfl
    · intros; rfl
    · decide +kernel
    · kernel_rfl
    · kernel_rfl
    · kernel_rfl
    · intros; kernel_rfl
    · intros; kernel_rfl
    · obtain ⟨best, word, rfl, _⟩ := hd
      exact As.tup2 (by kernel_rfl) (by kernel_rfl) (by kernel_rfl)
    · intros; rfl
    · intros; rfl
    obtain ⟨d, ⟨best, word, rfl, h6, hw, hm, hlow⟩, rfl⟩ := hz
    obtain ⟨e1, e2, hne, hL⟩ := meet hg htn hI hF hnm (a := i) (by omega) h6 hw hm hlow
    have hwl : word.length ≤ 100 := by
      have := hm.1.symm.len
      rw [List.length_drop] at this
      omega
    have hw0 : 0 < word.length := by
      cases word with
      | nil => exact absurd rfl hne
      | cons => simp
    show X W _ (((Str.ofString "word"), .d (.str (sOf word))) :: ((Str.ofString "best"), .d (.int best)) :: ((Str.ofString "at"), .d (.int (i : Int))) :: ((Str.ofString "start"), .d (.int (codeOf nm))) :: ((Str.ofString "known"), V.d (knD K)) :: ((Str.ofString "rules"), V.d (.hdr (rs.map ruleP))) :: ((Str.ofString "text"), V.d (.str (sOf tx))) :: ((Str.ofString "grammar"), V.d (gramD rs)) :: ((Str.ofString "script"), V.d (.val (.ref sa))) :: []) _ _ _ _
    refine X.guard (b := false || (false || false)) (EvT.or (EvT.cmp (a := .int best) (b := .int (K nm i 3)) ?_ (mkT_get (T := K nm) (i := i) (j := 3) (Ev.sub (a := knD K) (b := .str (sOf [nm])) ?_ (Ev.sub (a := .str (sOf [83, 84])) (Ev.strL [83, 84] (by decide +kernel)) (Ev.castI (Ev.bin ?_ (Ev.int 256 _ _) (op_sub _ _)) hcode.1) (idx_strN ?_ hcode.2 ?_)) (idx_dict ?_ (nm_key hnm) (nm_val hnm))) ?_ (Ev.int 3 _ _) ?_ ?_ ?_ ?_) (op_neI' _ _ e1.symm) ?_)
      fun _ => EvT.or (EvT.cmp (a := .int (chainT K word i 3)) (b := .int best) (mkT_get (T := chainT K word) (i := i) (j := 3) (Ev.fn G ((cl_chain (K := K) G (fun c hc => .inl (hL c hc)) hw0 hwl).up ?_) ?_ ?_ ?_ ?_ ?_ ?_ ?_) ?_ (Ev.int 3 _ _) ?_ ?_ ?_ ?_) ?_ (op_neI' _ _ e2) ?_) fun _ => EvT.or_nil) (fun q => by cases q) fun _ => X.nilW rfl ?_
    · walk_at "m.nm"
    · walk_at "m.nm"
    · walk_at "m.nm"
    · intro _ _; rfl
    · omega
    · intro _ _; rfl
    · walk_at "m.nm"
    · omega
    · omega
    · intro _ _; rfl
    · intro _ _; rfl
    · kernel_rfl
    · omega
    · walk_at "m.es"
    · decide +kernel
    · kernel_rfl
    · kernel_rfl
    · kernel_rfl
    · intros; kernel_rfl
    · intros; kernel_rfl
    · walk_at "m.nm"
    · omega
    · omega
    · intro _ _; rfl
    · intro _ _; rfl
    · walk_at "m.nm"
    · kernel_rfl
    · walk_at "m.sb"
  · intros; rfl
  · subst e
    exact X.ret (X1.ret (Ev.boolC _ _ _) rfl)
/-- the law -/
theorem cl_law (G : Gw W) {sa : Addr} {items : Array Value} (S : ScrOk W sa items) : ClP W 7 (.ref 251) [.val (.ref sa)] (fun d => d = .val (.bool true)) := by
  refine ClP.of G dk_law rfl ?_
  show X W _ [((Str.ofString "script"), .d (.val (.ref sa)))] _ _ _ _
  exact law_numbers G S (law_rules G (law_end G))
end

end Mine
end

/- L51 -/
section
open PySem PySem.W PyProof.Rows
set_option maxRecDepth 100000
set_option maxHeartbeats 8000000
namespace Mine
theorem script_facts {w : World} {cl : Str → Option Addr} {h : Heap} {args : List WData} {vals : List Value} {as : List Addr} (hpre : PySem.Challenge.rw_re0129_01.row.toRowW.claim.pre args = true) (hlay : WData.layableAll args = true)
    (hrd : ReadsAllW PySem.Challenge.rw_re0129_01.row.toRowW.records cl h vals args as) (hwl : WellAll w.params h vals args) (hlo : ∀ a ∈ as, (a == sysModules) = false) :
    ∃ sa items, vals = [.ref sa] ∧ h.IsList sa items ∧ items.size ≤ 63 ∧ ∀ (k : Nat) (v : Value), items[k]? = some v → ∃ i t, v = Value.int i t := by
  wrow_args hpre hlay hrd hwl hlo
  rename_i ns _ _ _ _ _ _ _ sa vs _ hL _ _ _ hI _ hc _
  refine ⟨sa, vs.toArray, rfl, hL, ?_, fun k v hv => ?_⟩
  · have := hI.length
    simp only [List.size_toArray]
    omega
  · obtain ⟨i, t, e, _⟩ := IntsAre.at hI k v (by simpa using hv)
    exact ⟨i, t, e⟩
theorem mg_absent {K : Frag} {h : Heap} {mg : Str → Option Value} {n : Str} (X : K.In h) (G : h.Ns mainGlobals mg) (e : nsIn K mainGlobals n = some none) : mg n = none := by
  obtain ⟨o, es, ep, ho, hd, _, hf⟩ := G
  unfold nsIn at e
  split at e
  · rename_i c d es' n' sl q
    have := X _ _ q
    rw [ho] at this
    cases this
    cases hd
    rw [← hf]
    split at e
    · cases e
    · rename_i he
      unfold nsFind findBy
      rw [← Array.find?_toList, he]
      rfl
  · cases e
theorem gm_of {K : Frag} {h : Heap} {mg : Str → Option Value} (X : K.In h) (G : h.Ns mainGlobals mg) : ∀ l : List (Str × Value), (∀ p ∈ l, nsIn K mainGlobals p.1 = some (some p.2)) → ∀ x v, l.lookup x = some v → mg x = some v := fun l hl x v e =>
  mg_of X G (hl _ (mem_of_lookup e))
theorem gtab_ns (P : Params) : ∀ p ∈ gtab, nsIn (hd.heap_39 P) mainGlobals p.1 = some (some p.2) := by
  unfold gtab
  simp only [List.forall_mem_cons, List.not_mem_nil, false_implies, implies_true, and_true]
  refine ⟨?_, ?_, ?_, ?_, ?_, ?_, ?_, ?_, ?_, ?_, ?_, ?_, ?_, ?_, ?_, ?_, ?_, ?_⟩ <;> kernel_rfl
theorem none_ns (P : Params) : ∀ x, x ∈ ([Str.ofString "len", Str.ofString "min", Str.ofString "range", Str.ofString "list", Str.ofString "ord", Str.ofString "chr", Str.ofString "enumerate", Str.ofString "type", Str.ofString "str"] : List Str) → nsIn (hd.heap_39 P) mainGlobals x = some none := by
  simp only [List.forall_mem_cons, List.not_mem_nil, false_implies, implies_true, and_true]
  refine ⟨?_, ?_, ?_, ?_, ?_, ?_, ?_, ?_, ?_⟩ <;> kernel_rfl
theorem gw_of {p : Program} {loose : List Str} {mean : ExcName → Option Value} {prog : Program} {w : World} {h : Heap} {mg mb : Str → Option Value} (X : InK hd.heap_39 w h) (T : Top p loose mean mg mb h) : Gw ⟨prog, w, h, mg, mb⟩ where
  gd := ⟨T.g, T.b, T.nolimit⟩
  k := X
  gm := gm_of X T.g gtab (gtab_ns _)
  nm := fun x hx => mg_absent X T.g (none_ns _ x hx)
  bl := (T.builtins _ (by decide +kernel)).trans (by kernel_rfl)
  bmi := (T.builtins _ (by decide +kernel)).trans (by kernel_rfl)
  bo := (T.builtins _ (by decide +kernel)).trans (by kernel_rfl)
  bc := (T.builtins _ (by decide +kernel)).trans (by kernel_rfl)
  br := (T.builtins _ (by decide +kernel)).trans (by kernel_rfl)
  bli := (T.builtins _ (by decide +kernel)).trans (by kernel_rfl)
  be := (T.builtins _ (by decide +kernel)).trans (by kernel_rfl)
  bt := (T.builtins _ (by decide +kernel)).trans (by kernel_rfl)
  bs := (T.builtins _ (by decide +kernel)).trans (by kernel_rfl)
theorem caller_ok : AOk 7 callerA := by
  refine ⟨rfl, ?_, ?_⟩ <;> decide +kernel
theorem no_raise (args : List WData) (cls : ExcName) : PySem.Challenge.rw_re0129_01.row.toRowW.claim.raises args cls = false := by first | rfl | exact allW_false_nil
theorem post_ok (args : List WData) : PySem.Challenge.rw_re0129_01.row.toRowW.claim.post args (.bool true) args = true := by first | rfl | wrow_post
theorem reads_true {cl : Str → Option Addr} {h : Heap} : ReadsW PySem.Challenge.rw_re0129_01.row.toRowW.claim.records cl h (.bool true) (.bool true) [] := .bool true
theorem fin : PySem.Challenge.rw_re0129_01.Holds := hd (fun w s₀ s₁ mg mb G Y fa o pm cd doc dV kV ho hdd hcd hD hmg hg args vals as hpre hlay hrd hwl hlo => by
  have KX : InK hd.heap_39 w s₁.heap := kIn_of Y
  have GW := gw_of (prog := PySem.Challenge.rw_re0129_01.row.toRowW.prog) KX G.T
  have hfa : mg (Str.ofString "law") = some (.ref 251) := mg_of KX G.T.g (by kernel_rfl)
  have hmg' : mg (Str.ofString "law") = some (.ref fa) := hmg
  rw [hfa] at hmg'
  cases hmg'
  obtain ⟨sa, items, rfl, hL, hsz, hits⟩ := script_facts hpre hlay hrd hwl hlo
  clear hdd hcd hD
  have hcl := cl_law GW (sa := sa) (items := items) ⟨hL, hsz, hits⟩ callerA (fun a => s₁.heap.get? a) s₁ [.ref sa] caller_ok (fun a o e => e) (fun a o e => e) ⟨by simp only [Rd], trivial⟩
  refine wpAny_mono hcl (fun v s' hq => ?_) fun _ _ y => y.elim
  obtain ⟨F', d, rfl, x, r⟩ := hq
  simp only [Rd] at r
  subst r
  refine GoodW.toG ⟨.inl ⟨_, .bool true, [], rfl, ?_, ?_, ?_, fun _ => ⟨List.nodup_nil, fun a ha => by cases ha⟩⟩, x.old, x.os, x.gens.trans hg⟩
  · exact no_raise args
  · exact reads_true
  · exact post_ok args)
end Mine
end

set_option maxRecDepth 100000 in
set_option maxHeartbeats 8000000 in
theorem PySem.Challenge.cw_re0129_01_holds : PySem.Challenge.rw_re0129_01.Holds := by
  exact Mine.fin
