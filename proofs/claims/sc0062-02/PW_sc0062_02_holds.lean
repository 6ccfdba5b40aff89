import PyProof.Rows.All
import Wide.All
import OpenK.AllK
import Wide.FinOn
import PySem.Challenge.RW_sc0062_02
set_option Elab.async false
set_option maxRecDepth 100000
set_option genSizeOf false
set_option genInjectivity false

namespace Mine
open PySem PyProof.Rows

inductive D where
  | none
  | bool (b : Bool)
  | int (i : Int)
  | str (x : Str)
  | bytes (b : Array UInt8)
  | list (l : List D)
  | tup (l : List D)
  | rng (a b : Int)
  | obj (C : Addr) (fs : List (Str × D))

/-- the object of an instance, of its dict -/
abbrev instO (C dx : Addr) : Obj := { cls := .ref C, dict := some dx, data := .plain }
abbrev dictO (es : Array DictEntry) (n : Nat) : Obj := { cls := .type "dict", data := .dict es n }

mutual
inductive Rd (O : Addr → Prop) (h : Heap) : Value → D → Prop
  | none : Rd O h .none .none
  | bool (b : Bool) : Rd O h (.bool b) (.bool b)
  | int (i : Int) (t : Tok) : Rd O h (.int i t) (.int i)
  | str (x : Str) (t : Tok) : Rd O h (.str x t) (.str x)
  | bytes (b : Array UInt8) (t : Tok) : Rd O h (.bytes b t) (.bytes b)
  | list {a : Addr} {vs : List Value} {ds : List D} : ¬ O a → h.IsList a vs.toArray → RdL O h vs ds → Rd O h (.ref a) (.list ds)
  | tup {a : Addr} {vs : List Value} {ds : List D} : ¬ O a → h.IsTuple a vs.toArray → RdL O h vs ds → Rd O h (.ref a) (.tup ds)
  | rng {r : Addr} {a b : Int} {t u v : Tok} : ¬ O r → IsRange h r a b 1 t u v → Rd O h (.ref r) (.rng a b)
  | obj {x dx C : Addr} {es : List DictEntry} {n : Nat} {fs : List (Str × D)} : ¬ O x → ¬ O dx → h.get? x = some (instO C dx) → h.get? dx = some (dictO es.toArray n) → RdF O h es fs → Rd O h (.ref x) (.obj C fs)
inductive RdL (O : Addr → Prop) (h : Heap) : List Value → List D → Prop
  | nil : RdL O h [] []
  | cons {v : Value} {d : D} {vs : List Value} {ds : List D} : Rd O h v d → RdL O h vs ds → RdL O h (v :: vs) (d :: ds)
inductive RdF (O : Addr → Prop) (h : Heap) : List DictEntry → List (Str × D) → Prop
  | nil : RdF O h [] []
  | cons {e : DictEntry} {x : Str} {t : Tok} {d : D} {es : List DictEntry} {fs : List (Str × D)} : e.key = .str x t → Rd O h e.val d → RdF O h es fs → RdF O h (e :: es) ((x, d) :: fs)
end
theorem isList_at {h h' : Heap} {a : Addr} {vs : Array Value} (x : h.IsList a vs) (H : ∀ o, h.get? a = some o → h'.get? a = some o) : h'.IsList a vs :=
  let ⟨o, e, r⟩ := x; ⟨o, H o e, r⟩
theorem isCell_at {h h' : Heap} {a : Addr} {v : Option Value} (x : h.IsCell a v) (H : ∀ o, h.get? a = some o → h'.get? a = some o) : h'.IsCell a v :=
  let ⟨o, e, r⟩ := x; ⟨o, H o e, r⟩
theorem isList_lt {h : Heap} {a : Addr} {vs : Array Value} (x : h.IsList a vs) : a < h.objs.size := let ⟨_, e, _⟩ := x; Heap.lt_size e

section
variable {O O' : Addr → Prop} {h h' : Heap} (H : ∀ a o, ¬ O a → h.get? a = some o → ¬ O' a ∧ h'.get? a = some o)
include H
mutual
theorem Rd.mono : ∀ {v : Value} {d : D}, Rd O h v d → Rd O' h' v d
  | _, _, .none => .none
  | _, _, .bool b => .bool b
  | _, _, .int i t => .int i t
  | _, _, .str x t => .str x t
  | _, _, .bytes b t => .bytes b t
  | _, _, .list hO hl r => by
    obtain ⟨o, e, q⟩ := hl
    have z := H _ o hO e
    exact .list z.1 ⟨o, z.2, q⟩ (RdL.mono r)
  | _, _, .tup hO hl r => by
    obtain ⟨o, e, q⟩ := hl
    have z := H _ o hO e
    exact .tup z.1 ⟨o, z.2, q⟩ (RdL.mono r)
  | _, _, .rng hO e => .rng (H _ _ hO e).1 (H _ _ hO e).2
  | _, _, .obj hx hd ex ed r => .obj (H _ _ hx ex).1 (H _ _ hd ed).1 (H _ _ hx ex).2 (H _ _ hd ed).2 (RdF.mono r)
theorem RdL.mono : ∀ {vs : List Value} {ds : List D}, RdL O h vs ds → RdL O' h' vs ds
  | _, _, .nil => .nil
  | _, _, .cons x r => .cons (Rd.mono x) (RdL.mono r)
theorem RdF.mono : ∀ {vs : List DictEntry} {ds : List (Str × D)}, RdF O h vs ds → RdF O' h' vs ds
  | _, _, .nil => .nil
  | _, _, .cons e x r => .cons e (Rd.mono x) (RdF.mono r)
end
end
abbrev KH (h h' : Heap) : Prop := ∀ b o, h.get? b = some o → h'.get? b = some o
theorem Rd.keep {O : Addr → Prop} {h h' : Heap} {v : Value} {d : D} (x : Rd O h v d) (k : KH h h') : Rd O h' v d := x.mono fun a o n e => ⟨n, k a o e⟩
theorem RdL.keep {O : Addr → Prop} {h h' : Heap} {v : List Value} {d : List D} (x : RdL O h v d) (k : KH h h') : RdL O h' v d := x.mono fun a o n e => ⟨n, k a o e⟩
theorem Rd.less {O O' : Addr → Prop} {h : Heap} {v : Value} {d : D} (x : Rd O h v d) (k : ∀ a, O' a → O a) : Rd O' h v d := x.mono fun a _ n e => ⟨fun q => n (k a q), e⟩
theorem RdL.less {O O' : Addr → Prop} {h : Heap} {v : List Value} {d : List D} (x : RdL O h v d) (k : ∀ a, O' a → O a) : RdL O' h v d := x.mono fun a _ n e => ⟨fun q => n (k a q), e⟩
theorem Rd.extBut {O : Addr → Prop} {h h' : Heap} {a : Addr} {v : Value} {d : D} (x : Rd O h v d) (hO : O a) (k : Heap.ExtBut a h h') : Rd O h' v d :=
  x.mono fun b o n e => ⟨n, k b o (fun q => n (q ▸ hO)) e⟩
theorem RdL.extBut {O : Addr → Prop} {h h' : Heap} {a : Addr} {v : List Value} {d : List D} (x : RdL O h v d) (hO : O a) (k : Heap.ExtBut a h h') : RdL O h' v d :=
  x.mono fun b o n e => ⟨n, k b o (fun q => n (q ▸ hO)) e⟩
/-- an address that does not yet stand joins the owned ones -/
theorem Rd.own {O : Addr → Prop} {h : Heap} {v : Value} {d : D} (x : Rd O h v d) {P : Addr → Prop} (k : ∀ a, P a → h.get? a = Option.none ∨ O a) : Rd P h v d :=
  x.mono fun a o n e => ⟨fun q => (k a q).elim (fun z => by rw [z] at e; cases e) n, e⟩
theorem RdL.own {O : Addr → Prop} {h : Heap} {v : List Value} {d : List D} (x : RdL O h v d) {P : Addr → Prop} (k : ∀ a, P a → h.get? a = Option.none ∨ O a) : RdL P h v d :=
  x.mono fun a o n e => ⟨fun q => (k a q).elim (fun z => by rw [z] at e; cases e) n, e⟩

theorem RdL.length {O : Addr → Prop} {h : Heap} : ∀ {vs : List Value} {ds : List D}, RdL O h vs ds → vs.length = ds.length
  | _, _, .nil => rfl
  | _, _, .cons _ r => by rw [List.length_cons, List.length_cons, r.length]
theorem RdL.get {O : Addr → Prop} {h : Heap} : ∀ {vs : List Value} {ds : List D}, RdL O h vs ds → ∀ {i : Nat} {d : D}, ds[i]? = some d → ∃ v, vs[i]? = some v ∧ Rd O h v d
  | _, _, .nil, _, _, e => by simp at e
  | _, _, .cons x r, i, d, e => by
    cases i with
    | zero => simp at e; subst e; exact ⟨_, by simp, x⟩
    | succ i => simp at e; obtain ⟨v, hv, q⟩ := r.get e; exact ⟨v, by simpa using hv, q⟩
theorem RdL.get' {O : Addr → Prop} {h : Heap} : ∀ {vs : List Value} {ds : List D}, RdL O h vs ds → ∀ {i : Nat} {v : Value}, vs[i]? = some v → ∃ d, ds[i]? = some d ∧ Rd O h v d
  | _, _, .nil, _, _, e => by simp at e
  | _, _, .cons x r, i, d, e => by
    cases i with
    | zero => simp at e; subst e; exact ⟨_, by simp, x⟩
    | succ i => simp at e; obtain ⟨v, hv, q⟩ := r.get' e; exact ⟨v, by simpa using hv, q⟩
theorem RdL.append {O : Addr → Prop} {h : Heap} : ∀ {vs ws : List Value} {ds es : List D}, RdL O h vs ds → RdL O h ws es → RdL O h (vs ++ ws) (ds ++ es)
  | _, _, _, _, .nil, y => y
  | _, _, _, _, .cons x r, y => .cons x (r.append y)
theorem RdL.set {O : Addr → Prop} {h : Heap} : ∀ {vs : List Value} {ds : List D} {n : Nat} {v : Value} {d : D}, RdL O h vs ds → Rd O h v d → RdL O h (vs.set n v) (ds.set n d)
  | _, _, _, _, _, .nil, _ => by simpa using .nil
  | _, _, 0, _, _, .cons _ r, y => by simpa using .cons y r
  | _, _, n + 1, _, _, .cons x r, y => by simpa using .cons x (r.set y)


/-- a value read without asking whose it is: the elements of an own list are read, the list itself may still change -/
inductive W (O : Addr → Prop) (h : Heap) : Value → D → Prop
  | s {v : Value} {d : D} : Rd O h v d → W O h v d
  | l {a : Addr} {vs : List Value} {ds : List D} : h.IsList a vs.toArray → RdL O h vs ds → W O h (.ref a) (.list ds)
theorem W.keep {O : Addr → Prop} {h h' : Heap} {v : Value} {d : D} (x : W O h v d) (k : KH h h') : W O h' v d := by
  cases x with
  | s x => exact .s (x.keep k)
  | l e r => exact .l (isList_at e (k _)) (r.keep k)
theorem W.lst {O : Addr → Prop} {h : Heap} {v : Value} {ds : List D} (x : W O h v (.list ds)) : ∃ a vs, v = .ref a ∧ h.IsList a vs.toArray ∧ RdL O h vs ds := by
  cases x with
  | s x => cases x with | list _ e r => exact ⟨_, _, rfl, e, r⟩
  | l e r => exact ⟨_, _, rfl, e, r⟩
theorem W.tupl {O : Addr → Prop} {h : Heap} {v : Value} {ds : List D} (x : W O h v (.tup ds)) : ∃ a vs, v = .ref a ∧ h.IsTuple a vs.toArray ∧ RdL O h vs ds := by
  cases x with
  | s x => cases x with | tup _ e r => exact ⟨_, _, rfl, e, r⟩
theorem W.intE {O : Addr → Prop} {h : Heap} {v : Value} {i : Int} (x : W O h v (.int i)) : ∃ t, v = .int i t := by
  cases x with | s x => cases x with | int _ t => exact ⟨t, rfl⟩
theorem W.boolE {O : Addr → Prop} {h : Heap} {v : Value} {i : Bool} (x : W O h v (.bool i)) : v = .bool i := by
  cases x with | s x => cases x with | bool _ => rfl
theorem W.strE {O : Addr → Prop} {h : Heap} {v : Value} {i : Str} (x : W O h v (.str i)) : ∃ t, v = .str i t := by
  cases x with | s x => cases x with | str _ t => exact ⟨t, rfl⟩
theorem W.bytesE {O : Addr → Prop} {h : Heap} {v : Value} {i : Array UInt8} (x : W O h v (.bytes i)) : ∃ t, v = .bytes i t := by
  cases x with | s x => cases x with | bytes _ t => exact ⟨t, rfl⟩
theorem W.rngE {O : Addr → Prop} {h : Heap} {v : Value} {a b : Int} (x : W O h v (.rng a b)) : ∃ r t u w, v = .ref r ∧ IsRange h r a b 1 t u w := by
  cases x with | s x => cases x with | rng _ e => exact ⟨_, _, _, _, rfl, e⟩
inductive WL (O : Addr → Prop) (h : Heap) : List Value → List D → Prop
  | nil : WL O h [] []
  | cons {v : Value} {d : D} {vs : List Value} {ds : List D} : W O h v d → WL O h vs ds → WL O h (v :: vs) (d :: ds)

/-- what stands at the top, for good -/
structure Gd where
  prog : Program
  w : World
  hT : Heap
  mg : Str → Option Value
  mb : Str → Option Value
  ns : hT.Ns mainGlobals mg
  nb : hT.Ns builtinsNs mb
  lim : hT.NoLimit

structure Cx where
  G : Gd
  A : Around
  env : Env
  hB : Heap
  B : Addr → Prop
  s₀ : Shared
  lv : Nat

structure Sig where
  vars : List (Str × Bool)

abbrev Gd.M (G : Gd) : Model := model G.prog G.w
abbrev Cx.M (c : Cx) : Model := c.G.M

/-- room for lv calls, one in the other -/
structure Room (lv : Nat) (A : Around) : Prop where
  hand : A.handled = none
  depth : A.depth + 20 * lv ≤ 900
  units : A.units + 20 * lv ≤ 9000

inductive Ent where
  | any
  | dat (d : D)
  | mlist (ds : List D)
  | blist (ds : List D)
  | mdict (m : List (Int × D))
  | bdict (m : List (Int × D))
  | mobj (C x dx : Addr) (fs : List (Str × D))

def Ent.addrs : Ent → Option Value → List Addr
  | .mlist _, some (.ref a) => [a]
  | .mdict _, some (.ref a) => [a]
  | .mobj _ x dx _, _ => [x, dx]
  | _, _ => []

structure Own (c : Cx) (O : Addr → Prop) (a : Addr) : Prop where
  o : O a
  fresh : c.hB.get? a = none
  offL : a ≠ c.env.locals
  offC : ∀ x b, (x, b) ∈ c.env.cells → a ≠ b

/-- the dict at a, of int keys, reads as m -/
def DictRd (O : Addr → Prop) (h : Heap) (a : Addr) (m : List (Int × D)) : Prop :=
  ∃ f : Int → Option Value, h.IntMap a f ∧ h.DictLe a m.length ∧ ∀ k d, m.lookup k = some d → ∃ v, f k = some v ∧ Rd O h v d

def EntOk (c : Cx) (O : Addr → Prop) (h : Heap) (v? : Option Value) : Ent → Prop
  | .any => True
  | .dat d => ∃ v, v? = some v ∧ Rd O h v d
  | .mlist ds => ∃ a vs, v? = some (.ref a) ∧ Own c O a ∧ h.PlainList a vs.toArray ∧ RdL O h vs ds
  | .blist ds => ∃ a vs, v? = some (.ref a) ∧ (∃ o, c.hB.get? a = some o) ∧ h.IsList a vs.toArray ∧ RdL O h vs ds
  | .mdict m => ∃ a, v? = some (.ref a) ∧ Own c O a ∧ DictRd O h a m
  | .bdict m => ∃ a, v? = some (.ref a) ∧ (∃ o, c.hB.get? a = some o) ∧ DictRd O h a m
  | .mobj C x dx fs => ∃ es n, v? = some (.ref x) ∧ Own c O x ∧ Own c O dx ∧ h.get? x = some (instO C dx) ∧ h.get? dx = some (dictO (List.toArray es) n) ∧ RdF O h es fs

def Ents (c : Cx) (O : Addr → Prop) (h : Heap) (V : Str → Option Value) : List (Str × Bool) → List Ent → Prop
  | [], [] => True
  | x :: xs, e :: es => EntOk c O h (V x.1) e ∧ Ents c O h V xs es
  | _, _ => False

def muts (V : Str → Option Value) : List (Str × Bool) → List Ent → List Addr
  | x :: xs, e :: es => e.addrs (V x.1) ++ muts V xs es
  | _, _ => []

structure Ok (c : Cx) (Γ : Sig) : Prop where
  kind : c.env.scope.kind = .function
  names : ∀ x b, (x, b) ∈ Γ.vars → (x == ("__debug__" : Str)) = false ∧ (c.env.kindOf x = some .local ∨
    ((c.env.kindOf x = some .cell ∨ (c.env.kindOf x = some .free ∧ (x == ("__classdict__" : Str)) = false ∧ b = false)) ∧ ∃ a, c.env.cells.lookup x = some a ∧ (b = true → c.hB.get? a = none)))
  nodup : (Γ.vars.map (·.1)).Nodup
  apart : c.env.cells.Pairwise fun x y => x.2 ≠ y.2
  offL : ∀ x a, (x, a) ∈ c.env.cells → a ≠ c.env.locals
  cells : ∀ x a, (x, a) ∈ c.env.cells → c.env.cells.lookup x = some a ∧ c.env.kindOf x ≠ some .local
  freshL : c.hB.get? c.env.locals = none
  ltB : ∀ a, c.B a → ∃ o, c.hB.get? a = some o
  globals : c.env.globals = mainGlobals
  builtins : c.env.builtins = builtinsNs
  top : KH c.G.hT c.hB
  room : Room c.lv c.A

structure Frm (c : Cx) (Γ : Sig) (h : Heap) (V : Str → Option Value) : Prop where
  loc : ∃ m, h.Ns c.env.locals m ∧ ∀ x, c.env.kindOf x = some .local → m x = V x
  cel : ∀ x a, c.env.kindOf x ≠ some .local → c.env.cells.lookup x = some a → h.IsCell a (V x)

structure St (c : Cx) (Γ : Sig) (O : Addr → Prop) (ρ : List Ent) (s : Shared) : Prop where
  same : ∃ h tk, s = { c.s₀ with heap := h, toks := tk }
  keep : KH c.hB s.heap
  base : ∀ a, c.B a → O a
  dom : ∀ a, O a → ∃ o, s.heap.get? a = some o
  oL : O c.env.locals
  oC : ∀ x a, (x, true) ∈ Γ.vars → c.env.kindOf x ≠ some .local → c.env.cells.lookup x = some a → O a
  frm : ∃ V, Frm c Γ s.heap V ∧ Ents c O s.heap V Γ.vars ρ ∧ (muts V Γ.vars ρ).Nodup

end Mine

namespace Mine
open PySem PyProof.Rows

theorem kp_refl (s : Shared) : Keeps s s := ⟨s.heap, s.toks, rfl, fun _ _ e => e⟩
theorem kp_tr {s s' s'' : Shared} (a : Keeps s s') (b : Keeps s' s'') : Keeps s s'' := by
  obtain ⟨h, t, rfl, k⟩ := a
  obtain ⟨h', t', rfl, k'⟩ := b
  exact ⟨h', t', rfl, fun b o e => k' b o (k b o e)⟩
theorem kp_kh {s s' : Shared} (a : Keeps s s') : KH s.heap s'.heap := by obtain ⟨h, t, rfl, k⟩ := a; exact k
theorem kp_tok (s : Shared) (t : Nat) : Keeps s { s with toks := t } := ⟨s.heap, t, rfl, fun _ _ e => e⟩
theorem kp_push (s : Shared) (o : Obj) : Keeps s { s with heap := s.heap.push o } := ⟨_, s.toks, rfl, fun _ _ e => Heap.get?_push_of_some _ e⟩
theorem none_of_kh {h h' : Heap} {a : Addr} (k : KH h h') (e : h'.get? a = none) : h.get? a = none := by
  cases q : h.get? a with
  | none => rfl
  | some o => rw [k a o q] at e; cases e
theorem get_size (h : Heap) : h.get? h.objs.size = none := by
  cases q : h.get? h.objs.size with
  | none => rfl
  | some o => exact absurd (Heap.lt_size q) (Nat.lt_irrefl _)

theorem DictRd.at {O O' : Addr → Prop} {h h' : Heap} {a : Addr} {m : List (Int × D)} (x : DictRd O h a m) (k : ∀ o, h.get? a = some o → h'.get? a = some o) (k' : ∀ v d, Rd O h v d → Rd O' h' v d) : DictRd O' h' a m := by
  obtain ⟨f, ⟨o, es, ep, ho, r⟩, l, q⟩ := x
  exact ⟨f, ⟨o, es, ep, k o ho, r⟩, l.of_same ho (k o ho), fun y d e => let ⟨v, z, w⟩ := q y d e; ⟨v, z, k' v d w⟩⟩

theorem EntOk.keep {c : Cx} {O : Addr → Prop} {h h' : Heap} {v? : Option Value} {e : Ent} (x : EntOk c O h v? e) (k : KH h h') : EntOk c O h' v? e := by
  cases e with
  | any => trivial
  | dat d => obtain ⟨v, e, r⟩ := x; exact ⟨v, e, r.keep k⟩
  | mlist ds => obtain ⟨a, vs, e, w, l, r⟩ := x; exact ⟨a, vs, e, w, l.at (k a), r.keep k⟩
  | blist ds => obtain ⟨a, vs, e, w, l, r⟩ := x; exact ⟨a, vs, e, w, isList_at l (k a), r.keep k⟩
  | mdict ds => obtain ⟨a, e, w, r⟩ := x; exact ⟨a, e, w, r.at (k a) fun _ _ q => q.keep k⟩
  | bdict ds => obtain ⟨a, e, w, r⟩ := x; exact ⟨a, e, w, r.at (k a) fun _ _ q => q.keep k⟩
  | mobj C x dx fs => obtain ⟨es, n, e, o1, o2, e1, e2, r⟩ := x; exact ⟨es, n, e, o1, o2, k _ _ e1, k _ _ e2, r.mono fun a o n e => ⟨n, k a o e⟩⟩
theorem addrs_mlist {v? : Option Value} {ds : List D} {a b : Addr} (e : v? = some (.ref b)) (h : a ∉ (Ent.mlist ds).addrs v?) : b ≠ a := fun q => h (by subst e; subst q; exact .head _)
theorem addrs_mdict {v? : Option Value} {ds : List (Int × D)} {a b : Addr} (e : v? = some (.ref b)) (h : a ∉ (Ent.mdict ds).addrs v?) : b ≠ a := fun q => h (by subst e; subst q; exact .head _)
theorem EntOk.ext {c : Cx} {O : Addr → Prop} {h h' : Heap} {v? : Option Value} {e : Ent} {a : Addr} (x : EntOk c O h v? e) (k : Heap.ExtBut a h h') (hO : O a) (hf : c.hB.get? a = none)
    (hm : a ∉ e.addrs v?) : EntOk c O h' v? e := by
  have base : ∀ b, (∃ o, c.hB.get? b = some o) → b ≠ a := fun b w z => by obtain ⟨o', w⟩ := w; rw [z, hf] at w; cases w
  cases e with
  | any => trivial
  | dat d => obtain ⟨v, e, r⟩ := x; exact ⟨v, e, r.extBut hO k⟩
  | mlist ds => obtain ⟨b, vs, e, w, l, r⟩ := x; exact ⟨b, vs, e, w, l.at fun o q => k b o (addrs_mlist e hm) q, r.extBut hO k⟩
  | blist ds => obtain ⟨b, vs, e, w, l, r⟩ := x; exact ⟨b, vs, e, w, isList_at l fun o q => k b o (base b w) q, r.extBut hO k⟩
  | mdict ds => obtain ⟨b, e, w, r⟩ := x; exact ⟨b, e, w, r.at (fun o q => k b o (addrs_mdict e hm) q) fun _ _ q => q.extBut hO k⟩
  | bdict ds => obtain ⟨b, e, w, r⟩ := x; exact ⟨b, e, w, r.at (fun o q => k b o (base b w) q) fun _ _ q => q.extBut hO k⟩
  | mobj C x dx fs =>
    obtain ⟨es, n, e, o1, o2, e1, e2, r⟩ := x
    have n1 : x ≠ a := fun q => hm (q ▸ .head _)
    have n2 : dx ≠ a := fun q => hm (q ▸ .tail _ (.head _))
    exact ⟨es, n, e, o1, o2, k _ _ n1 e1, k _ _ n2 e2, r.mono fun b o n e => ⟨n, k b o (fun q => n (q ▸ hO)) e⟩⟩
theorem Own.grow {c : Cx} {O O' : Addr → Prop} {a : Addr} (w : Own c O a) (k : O' a) : Own c O' a := ⟨k, w.2, w.3, w.4⟩
/-- other owned addresses; the reading of what stands stays, the own ones stay own -/
theorem EntOk.grow {c : Cx} {O O' : Addr → Prop} {h : Heap} {v? : Option Value} {e : Ent} (x : EntOk c O h v? e) (k : ∀ a, O' a → h.get? a = none ∨ O a) (k' : ∀ a, a ∈ e.addrs v? → O a → O' a) : EntOk c O' h v? e := by
  cases e with
  | any => trivial
  | dat d => obtain ⟨v, e, r⟩ := x; exact ⟨v, e, r.own k⟩
  | mlist ds => obtain ⟨b, vs, e, w, l, r⟩ := x; exact ⟨b, vs, e, w.grow (k' _ (by subst e; exact .head _) w.1), l, r.own k⟩
  | blist ds => obtain ⟨b, vs, e, w, l, r⟩ := x; exact ⟨b, vs, e, w, l, r.own k⟩
  | mdict ds => obtain ⟨b, e, w, r⟩ := x; exact ⟨b, e, w.grow (k' _ (by subst e; exact .head _) w.1), r.at (fun _ q => q) fun _ _ q => q.own k⟩
  | bdict ds => obtain ⟨b, e, w, r⟩ := x; exact ⟨b, e, w, r.at (fun _ q => q) fun _ _ q => q.own k⟩
  | mobj C x dx fs =>
    obtain ⟨es, n, e, o1, o2, e1, e2, r⟩ := x
    exact ⟨es, n, e, o1.grow (k' _ (.head _) o1.1), o2.grow (k' _ (.tail _ (.head _)) o2.1), e1, e2, r.mono fun b o n e => ⟨fun q => (k b q).elim (fun z => by rw [z] at e; cases e) n, e⟩⟩

theorem Ents.imp {c : Cx} {O O' : Addr → Prop} {h h' : Heap} {V : Str → Option Value} : ∀ {vars : List (Str × Bool)} {ρ : List Ent},
    (∀ v? e, EntOk c O h v? e → EntOk c O' h' v? e) → Ents c O h V vars ρ → Ents c O' h' V vars ρ
  | [], [], _, _ => trivial
  | _ :: _, _ :: _, f, x => ⟨f _ _ x.1, Ents.imp f x.2⟩
  | [], _ :: _, _, x => x.elim
  | _ :: _, [], _, x => x.elim

inductive At : List (Str × Bool) → List Ent → Str → Ent → Prop
  | here {x : Str} {b : Bool} {xs : List (Str × Bool)} {e : Ent} {es : List Ent} : At ((x, b) :: xs) (e :: es) x e
  | there {y : Str × Bool} {xs : List (Str × Bool)} {e' : Ent} {es : List Ent} {x : Str} {e : Ent} : At xs es x e → At (y :: xs) (e' :: es) x e
inductive Put : List (Str × Bool) → List Ent → Str → Ent → List Ent → Prop
  | here {x : Str} {xs : List (Str × Bool)} {e₀ e : Ent} {es : List Ent} : Put ((x, true) :: xs) (e₀ :: es) x e (e :: es)
  | there {y : Str × Bool} {xs : List (Str × Bool)} {e' : Ent} {es es' : List Ent} {x : Str} {e : Ent} : Put xs es x e es' → Put (y :: xs) (e' :: es) x e (e' :: es')

theorem At.ok {c : Cx} {O : Addr → Prop} {h : Heap} {V : Str → Option Value} {vars : List (Str × Bool)} {ρ : List Ent} {x : Str} {e : Ent} (p : At vars ρ x e) : Ents c O h V vars ρ → EntOk c O h (V x) e := by
  induction p with
  | here => intro q; exact q.1
  | there _ ih => intro q; exact ih q.2
theorem At.mem {vars : List (Str × Bool)} {ρ : List Ent} {x : Str} {e : Ent} (p : At vars ρ x e) : ∃ b, (x, b) ∈ vars := by
  induction p with
  | here => exact ⟨_, .head _⟩
  | there _ ih => obtain ⟨b, q⟩ := ih; exact ⟨b, .tail _ q⟩
theorem Put.mem {vars : List (Str × Bool)} {ρ ρ' : List Ent} {x : Str} {e : Ent} (p : Put vars ρ x e ρ') : (x, true) ∈ vars := by
  induction p with
  | here => exact .head _
  | there _ ih => exact .tail _ ih
theorem At.muts {V : Str → Option Value} {vars : List (Str × Bool)} {ρ : List Ent} {x : Str} {e : Ent} {a : Addr} (p : At vars ρ x e) (hv : a ∈ e.addrs (V x)) : a ∈ muts V vars ρ := by
  induction p with
  | here => exact List.mem_append_left _ hv
  | there _ ih => exact List.mem_append_right _ (ih hv)

theorem Ents.off {c : Cx} {O O' : Addr → Prop} {h h' : Heap} {V : Str → Option Value} {a : Addr} : ∀ {vars : List (Str × Bool)} {ρ : List Ent},
    (∀ v? e, EntOk c O h v? e → a ∉ e.addrs v? → EntOk c O' h' v? e) → a ∉ muts V vars ρ → Ents c O h V vars ρ → Ents c O' h' V vars ρ
  | [], [], _, _, _ => trivial
  | _ :: _, _ :: _, f, n, q => ⟨f _ _ q.1 fun z => n (List.mem_append_left _ z), Ents.off f (fun z => n (List.mem_append_right _ z)) q.2⟩
  | [], _ :: _, _, _, x => x.elim
  | _ :: _, [], _, _, x => x.elim
/-- the same, over all of the state's own addresses -/
theorem Ents.imp' {c : Cx} {O O' : Addr → Prop} {h h' : Heap} {V : Str → Option Value} : ∀ {vars : List (Str × Bool)} {ρ : List Ent},
    (∀ v? e, EntOk c O h v? e → (∀ a, a ∈ e.addrs v? → a ∈ muts V vars ρ) → EntOk c O' h' v? e) → Ents c O h V vars ρ → Ents c O' h' V vars ρ
  | [], [], _, _ => trivial
  | _ :: _, _ :: _, f, q => ⟨f _ _ q.1 fun _ z => List.mem_append_left _ z, Ents.imp' (fun v? e w z => f v? e w fun a y => List.mem_append_right _ (z a y)) q.2⟩
  | [], _ :: _, _, x => x.elim
  | _ :: _, [], _, x => x.elim

theorem notin_of_nodup {xs : List (Str × Bool)} {x : Str} {b : Bool} (h : (((x, b) :: xs).map (·.1)).Nodup) {b' : Bool} : (x, b') ∉ xs := fun q => by
  simp only [List.map_cons, List.nodup_cons, List.mem_map, not_exists, not_and] at h
  exact h.1 _ q rfl

/-- one entry in place: what the entry's own addresses hold has changed -/
theorem Put.upd {c : Cx} {O O' : Addr → Prop} {h h' : Heap} {V : Str → Option Value} {vars : List (Str × Bool)} {ρ ρ' : List Ent} {x : Str} {e e₀ : Ent} {a : Addr} (p : Put vars ρ x e ρ') :
    At vars ρ x e₀ → a ∈ e₀.addrs (V x) → (∃ t, t.Sublist (e₀.addrs (V x)) ∧ e.addrs (V x) = t) → (vars.map (·.1)).Nodup → Ents c O h V vars ρ → (muts V vars ρ).Nodup →
    (∀ v? e, EntOk c O h v? e → a ∉ e.addrs v? → EntOk c O' h' v? e) → EntOk c O' h' (V x) e → Ents c O' h' V vars ρ' ∧ (muts V vars ρ').Sublist (muts V vars ρ) := by
  induction p with
  | @here x xs e₁ e es =>
    intro at' h0 h1 nd q nm f he
    cases at' with
    | there z => obtain ⟨b, z⟩ := z.mem; exact absurd z (notin_of_nodup nd)
    | here =>
      have nm' := nm
      simp only [Mine.muts] at nm'
      obtain ⟨t, h1, rfl⟩ := h1
      exact ⟨⟨he, Ents.off f (fun z => (List.nodup_append.mp nm').2.2 _ h0 _ z rfl) q.2⟩, List.Sublist.append h1 (List.Sublist.refl _)⟩
  | @there y xs e' es es' x e _ ih =>
    intro at' h0 h1 nd q nm f he
    have hne : ∃ b, (x, b) ∈ xs := ⟨true, Put.mem (by assumption)⟩
    cases at' with
    | here => obtain ⟨b, z⟩ := hne; exact absurd z (notin_of_nodup nd)
    | there z =>
      have nd' : (xs.map (·.1)).Nodup := (List.nodup_cons.mp nd).2
      have ha := z.muts (V := V) h0
      simp only [Mine.muts] at nm
      obtain ⟨n1, n2, n3⟩ := List.nodup_append.mp nm
      obtain ⟨q1, q2⟩ := ih z h0 h1 nd' q.2 n2 f he
      exact ⟨⟨f _ _ q.1 fun w => n3 _ w _ ha rfl, q1⟩, List.Sublist.append (List.Sublist.refl _) q2⟩

theorem Put.store {c : Cx} {O O' : Addr → Prop} {h h' : Heap} {V V' : Str → Option Value} {vars : List (Str × Bool)} {ρ ρ' : List Ent} {x : Str} {e : Ent} (p : Put vars ρ x e ρ') :
    (vars.map (·.1)).Nodup → Ents c O h V vars ρ → (∀ y, y ≠ x → V' y = V y) →
    (∀ v? e, EntOk c O h v? e → EntOk c O' h' v? e) → EntOk c O' h' (V' x) e → Ents c O' h' V' vars ρ' := by
  have same : ∀ {xs : List (Str × Bool)} {es : List Ent}, (∀ y, y ≠ x → V' y = V y) → (∀ b, (x, b) ∉ xs) → (∀ v? e, EntOk c O h v? e → EntOk c O' h' v? e) → Ents c O h V xs es → Ents c O' h' V' xs es := by
    intro xs
    induction xs with
    | nil => intro es _ _ _ q; cases es with | nil => trivial | cons => exact q.elim
    | cons y xs ih =>
      intro es hV n f q
      cases es with
      | nil => exact q.elim
      | cons e es =>
        have : y.1 ≠ x := fun z => n y.2 (by rw [← z]; exact .head _)
        exact ⟨by rw [hV _ this]; exact f _ _ q.1, ih hV (fun b z => n b (.tail _ z)) f q.2⟩
  induction p with
  | here => intro nd q hV f he; exact ⟨he, same hV (fun b => notin_of_nodup nd) f q.2⟩
  | @there y xs e' es es' x e p ih =>
    intro nd q hV f he
    have hne : y.1 ≠ x := fun z => notin_of_nodup (x := y.1) (b := y.2) nd (b' := true) (by rw [z]; exact p.mem)
    exact ⟨by rw [hV _ hne]; exact f _ _ q.1, ih same (List.nodup_cons.mp nd).2 q.2 hV f he⟩

theorem muts_congr {V V' : Str → Option Value} : ∀ {xs : List (Str × Bool)} {es : List Ent}, (∀ y b, (y, b) ∈ xs → V' y = V y) → muts V' xs es = muts V xs es
  | [], _, _ => by simp [muts]
  | _ :: _, [], _ => by simp [muts]
  | x :: xs, e :: es, h => by
    simp only [muts]
    rw [h x.1 x.2 (.head _), muts_congr fun y b q => h y b (.tail _ q)]

theorem Put.nodup {V V' : Str → Option Value} {vars : List (Str × Bool)} {ρ ρ' : List Ent} {x : Str} {e : Ent} (p : Put vars ρ x e ρ') :
    (vars.map (·.1)).Nodup → (∀ y, y ≠ x → V' y = V y) → (muts V vars ρ).Nodup → (∀ a, a ∈ e.addrs (V' x) → a ∉ muts V vars ρ) → (e.addrs (V' x)).Nodup →
    (muts V' vars ρ').Nodup ∧ ∀ a, a ∈ muts V' vars ρ' → a ∈ muts V vars ρ ∨ a ∈ e.addrs (V' x) := by
  induction p with
  | @here x xs e₀ e es =>
    intro nd hV nm hn he
    have hc : Mine.muts V' xs es = Mine.muts V xs es := muts_congr fun y b q => hV y fun z => notin_of_nodup nd (by rw [← z]; exact q)
    simp only [Mine.muts] at nm hn ⊢
    rw [hc]
    obtain ⟨n1, n2, n3⟩ := List.nodup_append.mp nm
    refine ⟨List.nodup_append.mpr ⟨he, n2, fun a ha b hb e => hn a ha (List.mem_append_right _ (e ▸ hb))⟩, fun a q => ?_⟩
    exact (List.mem_append.mp q).elim .inr fun z => .inl (List.mem_append_right _ z)
  | @there y xs e' es es' x e p ih =>
    intro nd hV nm hn he
    have hne : y.1 ≠ x := fun z => notin_of_nodup (x := y.1) (b := y.2) nd (b' := true) (by rw [z]; exact p.mem)
    simp only [Mine.muts] at nm hn ⊢
    obtain ⟨n1, n2, n3⟩ := List.nodup_append.mp nm
    obtain ⟨q1, q2⟩ := ih (List.nodup_cons.mp nd).2 hV n2 (fun a ha z => hn a ha (List.mem_append_right _ z)) he
    rw [hV _ hne]
    refine ⟨List.nodup_append.mpr ⟨n1, q1, fun a ha b hb e => ?_⟩, fun a q => ?_⟩
    · subst e
      exact (q2 a hb).elim (fun z => n3 a ha a z rfl) fun z => hn a z (List.mem_append_left _ ha)
    · exact (List.mem_append.mp q).elim (fun z => .inl (List.mem_append_left _ z)) fun z => (q2 a z).imp (fun w => List.mem_append_right _ w) id

theorem own_muts {c : Cx} {O : Addr → Prop} {h : Heap} {V : Str → Option Value} : ∀ {vars : List (Str × Bool)} {ρ : List Ent}, Ents c O h V vars ρ → ∀ a, a ∈ muts V vars ρ → Own c O a
  | [], [], _, _, q => by cases q
  | x :: xs, e :: es, w, a, q => by
    rcases List.mem_append.mp q with q | q
    · have w := w.1
      cases e with
      | mlist ds => obtain ⟨b, vs, e1, w1, _⟩ := w; rw [e1] at q; rw [List.mem_singleton.mp q]; exact w1
      | mdict ds => obtain ⟨b, e1, w1, _⟩ := w; rw [e1] at q; rw [List.mem_singleton.mp q]; exact w1
      | mobj C x dx fs =>
        obtain ⟨es, n, e, o1, o2, _⟩ := w
        rcases List.mem_cons.mp q with q | q
        · rw [q]; exact o1
        · rw [List.mem_singleton.mp q]; exact o2
      | _ => cases q
    · exact own_muts w.2 a q
  | [], _ :: _, w, _, _ => w.elim
  | _ :: _, [], w, _, _ => w.elim

/-! the state under steps -/
section
variable {c : Cx} {Γ : Sig} {O : Addr → Prop} {ρ : List Ent} {s s' : Shared}

theorem Frm.keep {h h' : Heap} {V : Str → Option Value} (F : Frm c Γ h V) (k : KH h h') : Frm c Γ h' V :=
  ⟨let ⟨m, n, q⟩ := F.loc; ⟨m, n.keeps k, q⟩, fun x a n e => (F.cel x a n e).keeps k⟩

theorem St.keeps (x : St c Γ O ρ s) (k : Keeps s s') : St c Γ O ρ s' := by
  have kh := kp_kh k
  obtain ⟨h', tk, rfl, _⟩ := k
  obtain ⟨h, t, rfl⟩ := x.same
  obtain ⟨V, F, E, N⟩ := x.frm
  exact ⟨⟨h', tk, rfl⟩, fun b o e => kh b o (x.keep b o e), x.base, fun a q => let ⟨o, e⟩ := x.dom a q; ⟨o, kh a o e⟩, x.oL, x.oC, V, F.keep kh, E.imp fun _ _ y => y.keep kh, N⟩


/-- an address that stands joins the owned ones -/
theorem St.own (x : St c Γ O ρ s) (hs' : Keeps s s') {a : Addr} (e : s.heap.get? a = none) (he : ∃ o, s'.heap.get? a = some o) : St c Γ (fun b => O b ∨ b = a) ρ s' ∧
    ∃ V, Frm c Γ s'.heap V ∧ Ents c (fun b => O b ∨ b = a) s'.heap V Γ.vars ρ ∧ (muts V Γ.vars ρ).Nodup ∧ a ∉ muts V Γ.vars ρ := by
  have y := x.keeps hs'
  obtain ⟨V, F, E, N⟩ := x.frm
  have E' : Ents c (fun b => O b ∨ b = a) s'.heap V Γ.vars ρ := by
    refine E.imp fun v? e' w => EntOk.keep (EntOk.grow w (fun b q => ?_) fun b _ q => .inl q) (kp_kh hs')
    exact q.elim .inr fun z => .inl (z ▸ e)
  refine ⟨?_, V, F.keep (kp_kh hs'), E', N, fun q => by obtain ⟨o, z⟩ := x.dom a (own_muts E a q).o; rw [e] at z; cases z⟩
  refine ⟨y.same, y.keep, fun b q => .inl (x.base b q), fun b q => q.elim (y.dom b) (fun z => z ▸ he), .inl x.oL, fun z b m n q => .inl (x.oC z b m n q), V, F.keep (kp_kh hs'), E', N⟩

/-- a change at one owned address that no entry of the state stands on -/
theorem St.touch (x : St c Γ O ρ s) {a : Addr} {h' : Heap} {tk : Nat} (hO : O a) (hf : c.hB.get? a = none) (hL : a ≠ c.env.locals) (hC : ∀ x b, (x, b) ∈ c.env.cells → a ≠ b)
    (hm : ∃ V, Frm c Γ s.heap V ∧ Ents c O s.heap V Γ.vars ρ ∧ (muts V Γ.vars ρ).Nodup ∧ a ∉ muts V Γ.vars ρ) (k : Heap.ExtBut a s.heap h') (hd : ∃ o, h'.get? a = some o) : St c Γ O ρ { s with heap := h', toks := tk } := by
  obtain ⟨V, F, E, N, hm⟩ := hm
  have same := x.same
  obtain ⟨h, t, rfl⟩ := same
  refine ⟨⟨h', tk, rfl⟩, fun b o e => k b o (fun z => by rw [z, hf] at e; cases e) (x.keep b o e), x.base, fun b q => ?_, x.oL, x.oC, V, ⟨?_, ?_⟩, ?_, N⟩
  · by_cases z : b = a
    · exact z ▸ hd
    · obtain ⟨o, e⟩ := x.dom b q; exact ⟨o, k b o z e⟩
  · obtain ⟨m, n, q⟩ := F.loc; exact ⟨m, n.extBut k (Ne.symm hL), q⟩
  · intro y b n e; exact isCell_at (F.cel y b n e) fun o q => k b o (fun z => hC y b (mem_of_lookup e) z.symm) q
  · exact Ents.off (fun v? e w hm' => w.ext k hO hf hm') hm E

/-- what a step leaves alone: all that stands and is not owned; what is owned behind it was so, or is new -/
structure Fc (O : Addr → Prop) (s : Shared) (O' : Addr → Prop) (s' : Shared) : Prop where
  kp : ∀ b o, ¬ O b → s.heap.get? b = some o → s'.heap.get? b = some o
  sub : ∀ b, O' b → O b ∨ s.heap.get? b = none
theorem Fc.refl (O : Addr → Prop) (s : Shared) : Fc O s O s := ⟨fun _ _ _ e => e, fun _ q => .inl q⟩
theorem Fc.ofKeeps {O : Addr → Prop} {s s' : Shared} (k : Keeps s s') : Fc O s O s' := ⟨fun b o _ e => kp_kh k b o e, fun _ q => .inl q⟩
theorem Fc.tr {O O' O'' : Addr → Prop} {s s' s'' : Shared} (a : Fc O s O' s') (b : Fc O' s' O'' s'') : Fc O s O'' s'' :=
  ⟨fun c o n e => b.kp c o (fun q => (a.sub c q).elim n fun z => by rw [z] at e; cases e) (a.kp c o n e), fun c q => (b.sub c q).elim (a.sub c) fun z => by
    by_cases h : O c
    · exact .inl h
    · cases e : s.heap.get? c with
      | none => exact .inr rfl
      | some o => rw [a.kp c o h e] at z; cases z⟩
theorem Fc.ext {O : Addr → Prop} {s : Shared} {a : Addr} {h' : Heap} {tk : Nat} (hO : O a) (k : Heap.ExtBut a s.heap h') : Fc O s O { s with heap := h', toks := tk } :=
  ⟨fun b o n e => k b o (fun z => n (z ▸ hO)) e, fun _ q => .inl q⟩

/-- only the names' own places have changed -/
def Lc (c : Cx) (Γ : Sig) (s s' : Shared) : Prop := ∀ b o, b ≠ c.env.locals → (∀ x, (x, true) ∈ Γ.vars → c.env.kindOf x ≠ some .local → c.env.cells.lookup x ≠ some b) → s.heap.get? b = some o → s'.heap.get? b = some o
theorem Lc.tr {c : Cx} {Γ : Sig} {s s' s'' : Shared} (a : Lc c Γ s s') (b : Lc c Γ s' s'') : Lc c Γ s s'' := fun x o h1 h2 e => b x o h1 h2 (a x o h1 h2 e)
theorem Lc.ofKeeps {c : Cx} {Γ : Sig} {s s' : Shared} (k : Keeps s s') : Lc c Γ s s' := fun b o _ _ e => kp_kh k b o e
/-- a store of a name -/
theorem st_storeX (K : Ok c Γ) (x : St c Γ O ρ s) {y : Str} {v : Value} {e : Ent} {ρ' : List Ent} (p : Put Γ.vars ρ y e ρ') (he : EntOk c O s.heap (some v) e)
    {V : Str → Option Value} (F : Frm c Γ s.heap V) (En : Ents c O s.heap V Γ.vars ρ) (N : (muts V Γ.vars ρ).Nodup)
    (hm : ∀ a, a ∈ e.addrs (some v) → a ∉ muts V Γ.vars ρ) (hn : (e.addrs (some v)).Nodup) {Q : Unit → Shared → Prop} {E : Value → Shared → Prop}
    (h : ∀ s', St c Γ O ρ' s' → Fc O s O s' → Lc c Γ s s' → (∃ V', Frm c Γ s'.heap V' ∧ Ents c O s'.heap V' Γ.vars ρ' ∧ (muts V' Γ.vars ρ').Nodup ∧ ∀ a, a ∈ muts V' Γ.vars ρ' → a ∈ muts V Γ.vars ρ ∨ a ∈ e.addrs (some v)) → Q () s') :
    wpAny c.M c.A (storeName c.env y v) Q E s := by
  obtain ⟨m, hn', hm'⟩ := F.loc
  obtain ⟨_, hk⟩ := K.names y true p.mem
  have upd : ∀ {h' : Heap} {tk : Nat} {a : Addr}, O a → c.hB.get? a = none → Heap.ExtBut a s.heap h' → (∃ o, h'.get? a = some o) → (∀ V', (∀ z, z ≠ y → V' z = V z) → V' y = some v → Frm c Γ h' V') →
      (∀ e v?, EntOk c O s.heap v? e → a ∉ e.addrs v?) → St c Γ O ρ' { s with heap := h', toks := tk } ∧
      ∃ V', Frm c Γ h' V' ∧ Ents c O h' V' Γ.vars ρ' ∧ (muts V' Γ.vars ρ').Nodup ∧ ∀ a, a ∈ muts V' Γ.vars ρ' → a ∈ muts V Γ.vars ρ ∨ a ∈ e.addrs (some v) := by
    intro h' tk a hO hf k hd hF ho
    have same := x.same
    obtain ⟨h₀, t, rfl⟩ := same
    let V' : Str → Option Value := fun z => if z = y then some v else V z
    have v1 : ∀ z, z ≠ y → V' z = V z := fun z q => if_neg q
    have v2 : V' y = some v := if_pos rfl
    have En' : Ents c O h' V' Γ.vars ρ' := p.store K.nodup En v1 (fun v? e w => w.ext k hO hf (ho e v? w)) (by rw [v2]; exact he.ext k hO hf (ho e _ he))
    have Nd := p.nodup K.nodup v1 N (fun a h2 => by rw [v2] at h2; exact hm a h2) (by rw [v2]; exact hn)
    refine ⟨⟨⟨h', tk, rfl⟩, fun b o e => k b o (fun z => by rw [z, hf] at e; cases e) (x.keep b o e), x.base, fun b q => ?_, x.oL, x.oC, V', hF V' v1 v2, En', Nd.1⟩, V', hF V' v1 v2, En', Nd.1, fun a q => by have := Nd.2 a q; rwa [v2] at this⟩
    by_cases z : b = a
    · exact z ▸ hd
    · obtain ⟨o, e⟩ := x.dom b q; exact ⟨o, k b o z e⟩
  have offA : ∀ (a : Addr), (∀ b, Own c O b → b ≠ a) → ∀ e v?, EntOk c O s.heap v? e → a ∉ e.addrs v? := by
    intro a ho e v? w
    cases e with
    | mlist ds => obtain ⟨b, vs, e1, w1, _⟩ := w; subst e1; intro q; exact ho b w1 (List.mem_singleton.mp q).symm
    | mdict ds => obtain ⟨b, e1, w1, _⟩ := w; subst e1; intro q; exact ho b w1 (List.mem_singleton.mp q).symm
    | mobj C x dx fs =>
      obtain ⟨es, n, e, o1, o2, _⟩ := w
      intro q
      rcases List.mem_cons.mp q with q | q
      · exact ho x o1 q.symm
      · exact ho dx o2 (List.mem_singleton.mp q).symm
    | _ => intro q; cases q
  rcases hk with hl | ⟨hkk, a, ha, hfr⟩
  · refine wpAny_storeName_local hl hn' (fun h' hn' hs => ?_) (by rw [K.kind]; rfl)
    have := upd (h' := h') (tk := s.toks + 1) x.oL K.freshL hs.extBut (let ⟨o, _, _, z, _⟩ := hn'; ⟨o, z⟩) ?_ (offA _ fun b w => w.offL)
    · exact h _ this.1 (Fc.ext x.oL hs.extBut) (fun b o h1 _ e => hs.extBut b o h1 e) this.2
    · intro V' v1 v2
      refine ⟨⟨_, hn', fun z hz => ?_⟩, fun z b n q => ?_⟩
      · by_cases e : z = y
        · subst e; simp [v2]
        · simp [e, v1 z e, hm' z hz]
      · have e : z ≠ y := fun e => n (e ▸ hl)
        rw [v1 z e]
        exact (F.cel z b n q).sameBut hs (K.offL z b (mem_of_lookup q))
  · have hcell : c.env.kindOf y = some .cell := hkk.elim id fun z => by cases z.2.2
    have hnl : c.env.kindOf y ≠ some .local := by rw [hcell]; decide
    refine wpAny_storeName_cell K.kind hcell ha (F.cel y a hnl ha) fun h' hv hs => ?_
    have hO := x.oC y a p.mem hnl ha
    have := upd (h' := h') (tk := s.toks) hO (hfr rfl) hs.extBut (let ⟨o, z, _⟩ := hv; ⟨o, z⟩) ?_ (offA _ fun b w => w.offC y a (mem_of_lookup ha))
    · exact h _ this.1 (Fc.ext hO hs.extBut) (fun b o _ h2 e => hs.extBut b o (fun z => h2 y p.mem hnl (z ▸ ha)) e) this.2
    · intro V' v1 v2
      refine ⟨⟨m, hn'.sameBut hs (Ne.symm (K.offL y a (mem_of_lookup ha))), fun z hz => ?_⟩, fun z b n q => ?_⟩
      · have e : z ≠ y := fun e => hnl (e ▸ hz)
        rw [v1 z e, hm' z hz]
      · by_cases e : z = y
        · subst e; rw [ha] at q; cases q; rw [v2]; exact hv
        · rw [v1 z e]
          exact (F.cel z b n q).sameBut hs fun w => e (name_of_addr K.apart (mem_of_lookup q) (w ▸ mem_of_lookup ha))

theorem st_storeV (K : Ok c Γ) (x : St c Γ O ρ s) {y : Str} {v : Value} {e : Ent} {ρ' : List Ent} (p : Put Γ.vars ρ y e ρ') (he : EntOk c O s.heap (some v) e)
    {V : Str → Option Value} (F : Frm c Γ s.heap V) (En : Ents c O s.heap V Γ.vars ρ) (N : (muts V Γ.vars ρ).Nodup)
    (hm : ∀ a, a ∈ e.addrs (some v) → a ∉ muts V Γ.vars ρ) (hn : (e.addrs (some v)).Nodup) {Q : Unit → Shared → Prop} {E : Value → Shared → Prop}
    (h : ∀ s', St c Γ O ρ' s' → Fc O s O s' → Lc c Γ s s' → Q () s') : wpAny c.M c.A (storeName c.env y v) Q E s := st_storeX K x p he F En N hm hn fun s' a b d _ => h s' a b d
/-- a store of data -/
theorem st_put (K : Ok c Γ) (x : St c Γ O ρ s) {y : Str} {v : Value} {d : D} {ρ' : List Ent} (p : Put Γ.vars ρ y (.dat d) ρ') (he : Rd O s.heap v d)
    {Q : Unit → Shared → Prop} {E : Value → Shared → Prop} (h : ∀ s', St c Γ O ρ' s' → Fc O s O s' → Lc c Γ s s' → Q () s') : wpAny c.M c.A (storeName c.env y v) Q E s :=
  let ⟨_, F, En, N⟩ := x.frm
  st_storeV K x p ⟨v, rfl, he⟩ F En N (fun _ q => by cases q) (by exact .nil) h

/-- a name is read -/
theorem st_load (K : Ok c Γ) (x : St c Γ O ρ s) {y : Str} {e : Ent} (p : At Γ.vars ρ y e) {Q : Value → Shared → Prop} {E : Value → Shared → Prop} (hn : e ≠ .any)
    (h : ∀ v V, Frm c Γ s.heap V → Ents c O s.heap V Γ.vars ρ → (muts V Γ.vars ρ).Nodup → V y = some v → EntOk c O s.heap (some v) e → Q v s) : wpAny c.M c.A (loadName c.env y) Q E s := by
  obtain ⟨V, F, En, N⟩ := x.frm
  have w := p.ok En
  obtain ⟨v, hv⟩ : ∃ v, V y = some v := by
    cases e with
    | any => exact absurd rfl hn
    | dat d => obtain ⟨v, z, _⟩ := w; exact ⟨v, z⟩
    | mlist ds => obtain ⟨v, _, z, _⟩ := w; exact ⟨_, z⟩
    | blist ds => obtain ⟨v, _, z, _⟩ := w; exact ⟨_, z⟩
    | mdict ds => obtain ⟨v, z, _⟩ := w; exact ⟨_, z⟩
    | bdict ds => obtain ⟨v, z, _⟩ := w; exact ⟨_, z⟩
    | mobj C x dx fs => obtain ⟨_, _, z, _⟩ := w; exact ⟨_, z⟩
  rw [hv] at w
  obtain ⟨b, hb⟩ := p.mem
  obtain ⟨_, hk⟩ := K.names y b hb
  rcases hk with hl | ⟨hkk, a, ha, _⟩
  · obtain ⟨m, hn', hm⟩ := F.loc
    exact wpAny_loadName_local K.kind hl hn' ((hm y hl).trans hv) (h v V F En N hv w)
  · rcases hkk with hc | ⟨hc, hcd, _⟩
    · exact wpAny_loadName_cell K.kind hc ha (hv ▸ F.cel y a (by rw [hc]; decide) ha) (h v V F En N hv w)
    · exact wpAny_loadName_free K.kind hc ha (hv ▸ F.cel y a (by rw [hc]; decide) ha) (h v V F En N hv w) hcd
theorem st_name (K : Ok c Γ) (x : St c Γ O ρ s) {y : Str} {pos : Pos} {e : Ent} (p : At Γ.vars ρ y e) {Q : Value → Shared → Prop} {E : Value → Shared → Prop} (hn : e ≠ .any)
    (h : ∀ v V, Frm c Γ s.heap V → Ents c O s.heap V Γ.vars ρ → (muts V Γ.vars ρ).Nodup → V y = some v → EntOk c O s.heap (some v) e → Q v s) : wpAny c.M c.A (eval (.Name y pos) c.env) Q E s :=
  let ⟨b, hb⟩ := p.mem
  wpAny_Name (st_load K x p hn h) (K.names y b hb).1

/-- the entry of one name in place: a change at one of its own addresses -/
theorem St.upd (K : Ok c Γ) (x : St c Γ O ρ s) {y : Str} {e e₀ : Ent} {ρ' : List Ent} {a : Addr} {h' : Heap} {tk : Nat} {V : Str → Option Value} (p : At Γ.vars ρ y e₀) (q : Put Γ.vars ρ y e ρ')
    (F : Frm c Γ s.heap V) (En : Ents c O s.heap V Γ.vars ρ) (N : (muts V Γ.vars ρ).Nodup) (ha : a ∈ e₀.addrs (V y)) (hsub : e.addrs (V y) = e₀.addrs (V y)) (w : Own c O a)
    (k : Heap.ExtBut a s.heap h') (hd : ∃ o, h'.get? a = some o) (he : EntOk c O h' (V y) e) : St c Γ O ρ' { s with heap := h', toks := tk } := by
  have same := x.same
  obtain ⟨h, t, rfl⟩ := same
  have z := q.upd (O' := O) (h' := h') p ha ⟨_, List.Sublist.refl _, hsub⟩ K.nodup En N (fun v? e y n => y.ext k w.o w.fresh n) he
  refine ⟨⟨h', tk, rfl⟩, fun b o e => k b o (fun z => by rw [z, w.fresh] at e; cases e) (x.keep b o e), x.base, fun b q => ?_, x.oL, x.oC, V, ⟨?_, ?_⟩, z.1, z.2.nodup N⟩
  · by_cases z : b = a
    · exact z ▸ hd
    · obtain ⟨o, e⟩ := x.dom b q; exact ⟨o, k b o z e⟩
  · obtain ⟨m, n, q⟩ := F.loc; exact ⟨m, n.extBut k (Ne.symm w.offL), q⟩
  · intro y b n e; exact isCell_at (F.cel y b n e) fun o q => k b o (fun z => w.offC y b (mem_of_lookup e) z.symm) q

/-- an own list is let go: it is data from here on -/
theorem St.freeze (K : Ok c Γ) (x : St c Γ O ρ s) {y : Str} {ds : List D} {ρ' : List Ent} (p : At Γ.vars ρ y (.mlist ds)) (q : Put Γ.vars ρ y (.dat (.list ds)) ρ') : ∃ O', St c Γ O' ρ' s ∧ ∀ b, O' b → O b := by
  obtain ⟨V, F, En, N⟩ := x.frm
  obtain ⟨a, vs, ev, w, l, r⟩ := p.ok En
  have ha : a ∈ (Ent.mlist ds).addrs (V y) := by rw [ev]; exact .head _
  have kO : ∀ b, (O b ∧ b ≠ a) → s.heap.get? b = none ∨ O b := fun b q => .inr q.1
  have z := q.upd (O := O) (O' := fun b => O b ∧ b ≠ a) (h := s.heap) (h' := s.heap) p ha ⟨[], List.nil_sublist _, rfl⟩ K.nodup En N
    (fun v? e y n => y.grow kO fun b hb ho => ⟨ho, fun e => n (e ▸ hb)⟩) ⟨_, ev, .list (fun q => q.2 rfl) l.isList (r.own kO)⟩
  exact ⟨_, ⟨x.same, x.keep, fun b q => ⟨x.base b q, fun e => by obtain ⟨o, z⟩ := K.ltB b q; rw [e, w.fresh] at z; cases z⟩, fun b q => x.dom b q.1, ⟨x.oL, w.offL.symm⟩,
    fun z b m n q => ⟨x.oC z b m n q, fun e => w.offC z b (mem_of_lookup q) e.symm⟩, V, F, z.1, z.2.nodup N⟩, fun b q => q.1⟩
end
end Mine

namespace Mine
open PySem PySem.Calls PyProof.Rows

abbrev no : Value → Shared → Prop := fun _ _ => False
theorem nono {P : Value → Shared → Prop} : ∀ (e : Value) (s : Shared), no e s → P e s := fun _ _ x => x.elim
abbrev Dom (O : Addr → Prop) (s : Shared) : Prop := ∀ a, O a → ∃ o, s.heap.get? a = some o
theorem Dom.keep {O : Addr → Prop} {s s' : Shared} (d : Dom O s) (k : Keeps s s') : Dom O s' := fun a q => let ⟨o, e⟩ := d a q; ⟨o, kp_kh k a o e⟩
theorem Dom.fresh {O : Addr → Prop} {s : Shared} (d : Dom O s) {a : Addr} (e : s.heap.get? a = none) : ¬ O a := fun q => by obtain ⟨o, z⟩ := d a q; rw [z] at e; cases e
theorem Room.mono {l m : Nat} {A : Around} (r : Room l A) (h : m ≤ l) : Room m A := ⟨r.hand, by have := r.depth; omega, by have := r.units; omega⟩

/-- what a value is behind a step: data, for good -/
abbrev OutS (s : Shared) (O : Addr → Prop) (d : D) : Value → Shared → Prop := fun v s' => Keeps s s' ∧ Rd O s'.heap v d
abbrev OutW (s : Shared) (O : Addr → Prop) (d : D) : Value → Shared → Prop := fun v s' => Keeps s s' ∧ W O s'.heap v d
/-- a new list -/
abbrev OutL (s : Shared) (O : Addr → Prop) (ds : List D) : Value → Shared → Prop := fun v s' => Keeps s s' ∧ ∃ a vs, v = .ref a ∧ s.heap.get? a = none ∧ s'.heap.PlainList a (List.toArray vs) ∧ RdL (fun b => O b ∨ b = a) s'.heap vs ds
abbrev OutB (s : Shared) (b : Bool) : Value → Shared → Prop := fun v s' => Keeps s s' ∧ v = .bool b
theorem OutL.s {s : Shared} {O : Addr → Prop} {ds : List D} {v : Value} {s' : Shared} (d : Dom O s) (x : OutL s O ds v s') : OutS s O (.list ds) v s' := by
  obtain ⟨k, a, vs, rfl, e, l, r⟩ := x
  exact ⟨k, .list (d.fresh e) l.isList (r.less fun _ q => .inl q)⟩
/-- the elements of a list that is laid next -/
theorem RdL.laid {O : Addr → Prop} {h : Heap} {vs : List Value} {ds : List D} (r : RdL O h vs ds) (o : Obj) : RdL (fun b => O b ∨ b = h.objs.size) (h.push o) vs ds :=
  (r.own fun b q => q.elim .inr fun e => .inl (e ▸ get_size h)).keep fun _ _ e => Heap.get?_push_of_some _ e
theorem OutS.w {s : Shared} {O : Addr → Prop} {d : D} {v : Value} {s' : Shared} (x : OutS s O d v s') : OutW s O d v s' := ⟨x.1, .s x.2⟩

/-- a judgement kept closed -/
structure Hid (p : Prop) : Prop where
  out : p
section
variable (c : Cx) (Γ : Sig) (ρ : List Ent)
def Ev (e : Expr) (d : D) : Prop := Hid (Ok c Γ → ∀ (s : Shared) (O : Addr → Prop), St c Γ O ρ s → wpAny c.M c.A (eval e c.env) (OutW s O d) no s)
def Es (e : Expr) (d : D) : Prop := Hid (Ok c Γ → ∀ (s : Shared) (O : Addr → Prop), St c Γ O ρ s → wpAny c.M c.A (eval e c.env) (OutS s O d) no s)
def El (e : Expr) (ds : List D) : Prop := Hid (Ok c Γ → ∀ (s : Shared) (O : Addr → Prop), St c Γ O ρ s → wpAny c.M c.A (eval e c.env) (OutL s O ds) no s)
def Tr (e : Expr) (b : Bool) : Prop := Hid (Ok c Γ → ∀ (s : Shared) (O : Addr → Prop), St c Γ O ρ s → wpAny c.M c.A (isTrue e c.env (eval e c.env)) (fun r s' => Keeps s s' ∧ r = b) no s)
end

section
variable {c : Cx} {Γ : Sig} {ρ : List Ent}
theorem El.s {e : Expr} {ds : List D} (h : El c Γ ρ e ds) : Es c Γ ρ e (.list ds) := Hid.mk fun K s O x => wpAny_mono (h.out K s O x) (fun _ _ q => OutL.s x.dom q) nono
theorem Es.w {e : Expr} {d : D} (h : Es c Γ ρ e d) : Ev c Γ ρ e d := Hid.mk fun K s O x => wpAny_mono (h.out K s O x) (fun _ _ q => OutS.w q) nono
theorem Ev.cast {e : Expr} {d d' : D} (h : Ev c Γ ρ e d) (q : d = d') : Ev c Γ ρ e d' := q ▸ h
theorem Es.cast {e : Expr} {d d' : D} (h : Es c Γ ρ e d) (q : d = d') : Es c Γ ρ e d' := q ▸ h
theorem El.cast {e : Expr} {d d' : List D} (h : El c Γ ρ e d) (q : d = d') : El c Γ ρ e d' := q ▸ h
theorem Tr.cast {e : Expr} {b b' : Bool} (h : Tr c Γ ρ e b) (q : b = b') : Tr c Γ ρ e b' := q ▸ h

/-! names, literals -/
theorem Es.name {x : Str} {pos : Pos} {d : D} (p : At Γ.vars ρ x (.dat d)) : Es c Γ ρ (.Name x pos) d := Hid.mk fun K s O y =>
  st_name K y p (by intro q; cases q) fun v V F E N hv w => by
    obtain ⟨v', e, r⟩ := w; cases e; exact ⟨kp_refl s, r⟩
theorem Ev.mname {x : Str} {pos : Pos} {ds : List D} (p : At Γ.vars ρ x (.mlist ds)) : Ev c Γ ρ (.Name x pos) (.list ds) := Hid.mk fun K s O y =>
  st_name K y p (by intro q; cases q) fun v V F E N hv w => by
    obtain ⟨a, vs, e, _, l, r⟩ := w; cases e; exact ⟨kp_refl s, .l l.isList r⟩
theorem Ev.bname {x : Str} {pos : Pos} {ds : List D} (p : At Γ.vars ρ x (.blist ds)) : Ev c Γ ρ (.Name x pos) (.list ds) := Hid.mk fun K s O y =>
  st_name K y p (by intro q; cases q) fun v V F E N hv w => by
    obtain ⟨a, vs, e, _, l, r⟩ := w; cases e; exact ⟨kp_refl s, .l l r⟩

theorem Es.int {i : Int} {k : Nat} {pos : Pos} : Es c Γ ρ (.Constant (.int i) k pos) (.int i) := Hid.mk fun _ s _ _ => wpAny_Constant_int ⟨kp_tok s _, .int i _⟩
theorem Es.str {i : Str} {k : Nat} {pos : Pos} : Es c Γ ρ (.Constant (.str i) k pos) (.str i) := Hid.mk fun _ s _ _ => Constant_str ⟨kp_tok s _, .str i _⟩
theorem Es.bool {i : Bool} {k : Nat} {pos : Pos} : Es c Γ ρ (.Constant (.bool i) k pos) (.bool i) := Hid.mk fun _ s _ _ _ _ _ => ⟨kp_refl s, .bool i⟩
theorem Es.bytes {i : List UInt8} {k : Nat} {pos : Pos} : Es c Γ ρ (.Constant (.bytes i) k pos) (.bytes i.toArray) := Hid.mk fun _ s _ _ _ _ _ => ⟨kp_tok s _, .bytes _ _⟩
end

/-! operations on data: each says of all states what the operation gives -/
section
def Bin (op : Operator) (d₁ d₂ d : D) : Prop := ∀ (prog : Program) (w : World) (A : Around) (O : Addr → Prop) (s : Shared) (a b : Value), Room 0 A → Dom O s → W O s.heap a d₁ → W O s.heap b d₂ →
  wpAny (model prog w) A (binaryOp op a b) (OutS s O d) no s
def BinL (op : Operator) (d₁ d₂ : D) (ds : List D) : Prop := ∀ (prog : Program) (w : World) (A : Around) (O : Addr → Prop) (s : Shared) (a b : Value), Room 0 A → Dom O s → W O s.heap a d₁ → W O s.heap b d₂ →
  wpAny (model prog w) A (binaryOp op a b) (OutL s O ds) no s
def Inp (op : Operator) (d₁ d₂ d : D) : Prop := ∀ (prog : Program) (w : World) (A : Around) (O : Addr → Prop) (s : Shared) (a b : Value), Room 0 A → Dom O s → W O s.heap a d₁ → W O s.heap b d₂ →
  wpAny (model prog w) A (inplaceOp op a b) (OutS s O d) no s
def Una (op : UnaryOp) (d₁ d : D) : Prop := ∀ (prog : Program) (w : World) (A : Around) (O : Addr → Prop) (s : Shared) (a : Value), Room 0 A → Dom O s → W O s.heap a d₁ →
  wpAny (model prog w) A (unaryOp op a) (OutS s O d) no s
def Cmp (op : CmpOp) (d₁ d₂ : D) (r : Bool) : Prop := ∀ (prog : Program) (w : World) (A : Around) (O : Addr → Prop) (s : Shared) (a b : Value), Room 0 A → Dom O s → W O s.heap a d₁ → W O s.heap b d₂ →
  wpAny (model prog w) A (compareOp op a b) (OutB s r) no s
def Tru (d : D) (r : Bool) : Prop := ∀ (prog : Program) (w : World) (A : Around) (O : Addr → Prop) (s : Shared) (a : Value), Room 0 A → Dom O s → W O s.heap a d →
  wpAny (model prog w) A (truthy a) (fun b s' => Keeps s s' ∧ b = r) no s
def Itm (d₁ d₂ d : D) : Prop := ∀ (prog : Program) (w : World) (A : Around) (O : Addr → Prop) (s : Shared) (a b : Value) (value slice : Expr), Room 0 A → Dom O s → W O s.heap a d₁ → W O s.heap b d₂ →
  (∀ l u p, slice ≠ .Slice l u none p) → wpAny (model prog w) A (subscriptTail value slice a b) (OutS s O d) no s
/-- a call of something built in: what it is handed it only reads -/
def Cal (f : Value) (ds : List D) (d : D) : Prop := ∀ (prog : Program) (w : World) (A : Around) (O : Addr → Prop) (s : Shared) (vs : List Value), Room 0 A → Dom O s → WL O s.heap vs ds →
  wpAny (model prog w) A (call f vs []) (OutS s O d) no s
def CalL (f : Value) (ds : List D) (r : List D) : Prop := ∀ (prog : Program) (w : World) (A : Around) (O : Addr → Prop) (s : Shared) (vs : List Value), Room 0 A → Dom O s → WL O s.heap vs ds →
  wpAny (model prog w) A (call f vs []) (OutL s O r) no s
end

section
variable {c : Cx} {Γ : Sig} {ρ : List Ent}
theorem Ok.r0 (K : Ok c Γ) : Room 0 c.A := K.room.mono (Nat.zero_le _)

/-- two in a row -/
theorem two {e₁ e₂ : Expr} {d₁ d₂ : D} (h₁ : Ev c Γ ρ e₁ d₁) (h₂ : Ev c Γ ρ e₂ d₂) (K : Ok c Γ) {s : Shared} {O : Addr → Prop} (x : St c Γ O ρ s) {T : Value → Value → Shared → Prop}
    (h : ∀ a b s', Keeps s s' → St c Γ O ρ s' → W O s'.heap a d₁ → W O s'.heap b d₂ → T a b s') :
    wpAny c.M c.A (eval e₁ c.env) (fun a s₁ => wpAny c.M c.A (eval e₂ c.env) (fun b s₂ => T a b s₂) no s₁) no s :=
  wpAny_mono (h₁.out K s O x) (fun a s₁ q => wpAny_mono (h₂.out K s₁ O (x.keeps q.1)) (fun b s₂ q' => h a b s₂ (kp_tr q.1 q'.1) ((x.keeps q.1).keeps q'.1) (q.2.keep (kp_kh q'.1)) q'.2) nono) nono

theorem Es.bin {l r : Expr} {op : Operator} {pos : Pos} {d₁ d₂ d : D} (h₁ : Ev c Γ ρ l d₁) (h₂ : Ev c Γ ρ r d₂) (h : Bin op d₁ d₂ d) : Es c Γ ρ (.BinOp l op r pos) d := Hid.mk fun K s O x =>
  wpAny_BinOp (two h₁ h₂ K x fun a b s' k y wa wb => wpAny_mono (h _ _ _ O s' a b K.r0 y.dom wa wb) (fun _ _ q => ⟨kp_tr k q.1, q.2⟩) nono)
theorem El.bin {l r : Expr} {op : Operator} {pos : Pos} {d₁ d₂ : D} {ds : List D} (h₁ : Ev c Γ ρ l d₁) (h₂ : Ev c Γ ρ r d₂) (h : BinL op d₁ d₂ ds) : El c Γ ρ (.BinOp l op r pos) ds := Hid.mk fun K s O x =>
  wpAny_BinOp (two h₁ h₂ K x fun a b s' k y wa wb => wpAny_mono (h _ _ _ O s' a b K.r0 y.dom wa wb) (fun _ _ ⟨k', a', vs, e, n, l', r'⟩ => ⟨kp_tr k k', a', vs, e, none_of_kh (kp_kh k) n, l', r'⟩) nono)
theorem Es.cmp {l r : Expr} {op : CmpOp} {pos : Pos} {d₁ d₂ : D} {b : Bool} (h₁ : Ev c Γ ρ l d₁) (h₂ : Ev c Γ ρ r d₂) (h : Cmp op d₁ d₂ b) (hm : behindInMarks op r = false := by with_unfolding_all rfl) :
    Es c Γ ρ (.Compare l [op] [r] pos) (.bool b) := Hid.mk fun K s O x =>
  wpAny_Compare1 (two h₁ h₂ K x fun a b' s' k y wa wb => wpAny_mono (h _ _ _ O s' a b' K.r0 y.dom wa wb) (fun _ _ q => ⟨kp_tr k q.1, by rw [q.2]; exact .bool b⟩) nono) hm
theorem Tr.cmp {l r : Expr} {op : CmpOp} {pos : Pos} {d₁ d₂ : D} {b : Bool} (h₁ : Ev c Γ ρ l d₁) (h₂ : Ev c Γ ρ r d₂) (h : Cmp op d₁ d₂ b) (hm : behindInMarks op r = false := by with_unfolding_all rfl) :
    Tr c Γ ρ (.Compare l [op] [r] pos) b := Hid.mk fun K s O x =>
  wpAny_isTrue_Compare1 (two h₁ h₂ K x fun a b' s' k y wa wb => wpAny_mono (h _ _ _ O s' a b' K.r0 y.dom wa wb) (fun v s'' q => by
    rw [q.2]; exact wpAny_truthy_bool ⟨kp_tr k q.1, rfl⟩) nono) hm
theorem Es.una {e : Expr} {op : UnaryOp} {pos : Pos} {d₁ d : D} (h₁ : Ev c Γ ρ e d₁) (h : Una op d₁ d) : Es c Γ ρ (.UnaryOp op e pos) d := Hid.mk fun K s O x =>
  wpAny_bind (wpAny_mono (h₁.out K s O x) (fun a s₁ q => wpAny_bind (wpAny_standAt (wpAny_holding (wpAny_mono (h _ _ _ O s₁ a K.r0 (Dom.keep x.dom q.1) q.2) (fun _ _ q' => ⟨kp_tr q.1 q'.1, q'.2⟩) nono)))) nono)
theorem Es.sub {value slice : Expr} {pos : Pos} {d₁ d₂ d : D} (h₁ : Ev c Γ ρ value d₁) (h₂ : Ev c Γ ρ slice d₂) (h : Itm d₁ d₂ d) (hs : ∀ l u p, slice ≠ .Slice l u none p := by intro _ _ _ q; cases q) :
    Es c Γ ρ (.Subscript value slice pos) d := Hid.mk fun K s O x =>
  Subscript_ (two h₁ h₂ K x fun a b s' k y wa wb => wpAny_mono (h _ _ _ O s' a b value slice K.r0 y.dom wa wb hs) (fun _ _ q => ⟨kp_tr k q.1, q.2⟩) nono)

/-! truth -/
def TrAnd (c : Cx) (Γ : Sig) (ρ : List Ent) (op : BoolOp) (es : List Expr) (b : Bool) : Prop := Hid (Ok c Γ → ∀ (s : Shared) (O : Addr → Prop), St c Γ O ρ s → wpAny c.M c.A (allTrue op es c.env) (fun r s' => Keeps s s' ∧ r = b) no s)
theorem Tr.bool {op : BoolOp} {es : List Expr} {pos : Pos} {b : Bool} (h : TrAnd c Γ ρ op es b) : Tr c Γ ρ (.BoolOp op es pos) b := h
theorem TrAnd.nil {op : BoolOp} : TrAnd c Γ ρ op [] (op == .And) := Hid.mk fun _ s _ _ => wpAny_pure ⟨kp_refl s, rfl⟩
theorem TrAnd.and {e : Expr} {es : List Expr} {b b' : Bool} (h : Tr c Γ ρ e b) (h' : b = true → TrAnd c Γ ρ .And es b') : TrAnd c Γ ρ .And (e :: es) (b && b') := Hid.mk fun K s O x =>
  wpAny_bind (wpAny_mono (h.out K s O x) (fun r s' q => by
    obtain ⟨k, rfl⟩ := q
    cases r with
    | false => exact wpAny_pure ⟨k, rfl⟩
    | true => exact wpAny_mono ((h' rfl).out K s' O (x.keeps k)) (fun r s'' q => ⟨kp_tr k q.1, by rw [q.2]; rfl⟩) nono) nono)
theorem TrAnd.or {e : Expr} {es : List Expr} {b b' : Bool} (h : Tr c Γ ρ e b) (h' : b = false → TrAnd c Γ ρ .Or es b') : TrAnd c Γ ρ .Or (e :: es) (b || b') := Hid.mk fun K s O x =>
  wpAny_bind (wpAny_mono (h.out K s O x) (fun r s' q => by
    obtain ⟨k, rfl⟩ := q
    cases r with
    | true => exact wpAny_pure ⟨k, rfl⟩
    | false => exact wpAny_mono ((h' rfl).out K s' O (x.keeps k)) (fun r s'' q => ⟨kp_tr k q.1, by rw [q.2]; rfl⟩) nono) nono)
/-- by the value itself: the expressions that isTrue does not open -/
def plainTest : Expr → Bool
  | .UnaryOp .Not _ _ | .BoolOp .. | .IfExp .. | .Compare .. => false
  | _ => true
theorem Tr.val {e : Expr} {d : D} {b : Bool} (h₁ : Ev c Γ ρ e d) (h : Tru d b) (hp : plainTest e = true := by rfl) : Tr c Γ ρ e b := Hid.mk fun K s O x => by
  have e1 : isTrue e c.env (eval e c.env) = (eval e c.env >>= fun v => standAt e.pos >>= fun _ => holding [v] (truthy v)) := by
    unfold plainTest at hp
    split at hp <;> first | cases hp | skip
    rename_i h1 h2 h3 h4
    rw [isTrue.eq_def]
    split <;> first | (exact absurd rfl (h1 _ _)) | (exact absurd rfl (h2 _ _ _)) | (exact absurd rfl (h3 _ _ _ _)) | (exact absurd rfl (h4 _ _ _ _)) | rfl
  rw [e1]
  exact wpAny_bind (wpAny_mono (h₁.out K s O x) (fun v s' q => wpAny_bind (wpAny_standAt (wpAny_holding (wpAny_mono (h _ _ _ O s' v K.r0 (Dom.keep x.dom q.1) q.2) (fun b' s'' q' => ⟨kp_tr q.1 q'.1, q'.2⟩) nono)))) nono)
theorem eval_IfExp' (test body orelse : Expr) (pos : Pos) (env : Env) : eval (.IfExp test body orelse pos) env = (isTrue test env (eval test env) >>= fun b => if b then eval body env else eval orelse env) := rfl
theorem Es.ife {test body orelse : Expr} {pos : Pos} {b : Bool} {d₁ d₂ : D} (h : Tr c Γ ρ test b) (h₁ : b = true → Es c Γ ρ body d₁) (h₂ : b = false → Es c Γ ρ orelse d₂) :
    Es c Γ ρ (.IfExp test body orelse pos) (bif b then d₁ else d₂) := Hid.mk fun K s O x => by
  rw [eval_IfExp']
  refine wpAny_bind (wpAny_mono (h.out K s O x) (fun r s' q => ?_) nono)
  obtain ⟨k, rfl⟩ := q
  cases r with
  | true => exact wpAny_mono ((h₁ rfl).out K s' O (x.keeps k)) (fun r s'' q => ⟨kp_tr k q.1, q.2⟩) nono
  | false => exact wpAny_mono ((h₂ rfl).out K s' O (x.keeps k)) (fun r s'' q => ⟨kp_tr k q.1, q.2⟩) nono
end
end Mine

namespace Mine
open PySem PySem.Calls PyProof.Rows PySem.SeqAt

/-! what single operations give: iL, texts, bytes, bools -/
section
variable {a b : Int} {x y : Str} {p q : Bool} {u v : Array UInt8}
theorem bin_int {op : Operator} {a b r : Int}
    (h : ∀ (prog : Program) (w : World) (A : Around) (s : Shared) (t t' : Tok) (Q : Value → Shared → Prop), Room 0 A → (∀ t'' n, Q (.int r t'') { s with toks := n }) → wpAny (model prog w) A (binaryOp op (.int a t) (.int b t')) Q no s) : Bin op (.int a) (.int b) (.int r) :=
  fun prog w A O s x y R _ wa wb => by
    obtain ⟨t, rfl⟩ := wa.intE
    obtain ⟨t', rfl⟩ := wb.intE
    exact h prog w A s t t' _ R fun t'' n => ⟨kp_tok s n, .int r t''⟩
theorem bin_add : Bin .Add (.int a) (.int b) (.int (a + b)) := bin_int fun _ _ _ s _ _ _ _ h => PySem.P.add_int (h _ _)
theorem bin_sub : Bin .Sub (.int a) (.int b) (.int (a - b)) := bin_int fun _ _ _ s _ _ _ _ h => PySem.P.sub_int (h _ _)
theorem bits_small {a : Int} (h : a.natAbs < 2 ^ 64) : Builtin.Int.intBits a ≤ 64 := by
  unfold Builtin.Int.intBits
  split
  · omega
  · rename_i h0
    have : a.natAbs ≠ 0 := by simpa using h0
    have := (Nat.log2_lt this).mpr h
    omega
theorem mul_ok {a b : Int} (h : a.natAbs < 2 ^ 64 ∨ b.natAbs < 2 ^ 64) : IntMulOk a b := by
  unfold IntMulOk
  intro z
  have z' := (Bool.and_eq_true_iff.mp (Bool.and_eq_true_iff.mp z).1)
  have z1 := of_decide_eq_true z'.1
  have z2 := of_decide_eq_true z'.2
  have e : shortFactorBits = 64 := rfl
  rw [e] at z1 z2
  rcases h with h | h
  · have := bits_small h; omega
  · have := bits_small h; omega
theorem bin_mul (h : a.natAbs < 2 ^ 64 ∨ b.natAbs < 2 ^ 64) : Bin .Mult (.int a) (.int b) (.int (a * b)) := bin_int fun _ _ _ s _ _ _ _ k => PySem.P.mul_int (k _ _) (mul_ok h)
theorem bin_fdiv (h : b ≠ 0) (hs : b.natAbs < 1073741824) : Bin .FloorDiv (.int a) (.int b) (.int (a.fdiv b)) := bin_int fun _ _ _ s _ _ _ _ k => floordiv_int h (k _ _) (.inl (PyProof.noPylong_small hs))
theorem bin_fmod (h : b ≠ 0) : Bin .Mod (.int a) (.int b) (.int (a.fmod b)) := bin_int fun _ _ _ s _ _ _ R k => mod_int_or R.hand (fun e => absurd e h) fun _ => k _ _
theorem bin_pow (h : 0 ≤ b) (hs : (Builtin.Int.intBits a : Int) * b ≤ 2 ^ 27) : Bin .Pow (.int a) (.int b) (.int (a ^ b.toNat)) := bin_int fun _ _ _ s _ _ _ R k => pow_int h hs (k _ _)
theorem inp_int {op : Operator} {a b r : Int}
    (h : ∀ (prog : Program) (w : World) (A : Around) (s : Shared) (t t' : Tok) (Q : Value → Shared → Prop), Room 0 A → (∀ t'' n, Q (.int r t'') { s with toks := n }) → wpAny (model prog w) A (inplaceOp op (.int a t) (.int b t')) Q no s) : Inp op (.int a) (.int b) (.int r) :=
  fun prog w A O s x y R _ wa wb => by
    obtain ⟨t, rfl⟩ := wa.intE
    obtain ⟨t', rfl⟩ := wb.intE
    exact h prog w A s t t' _ R fun t'' n => ⟨kp_tok s n, .int r t''⟩
theorem inp_add : Inp .Add (.int a) (.int b) (.int (a + b)) := inp_int fun _ _ _ s _ _ _ _ h => PySem.P.iadd_int (h _ _)
theorem una_neg : Una .USub (.int a) (.int (-a)) := fun _ _ A O s v _ _ wa => by
  obtain ⟨t, rfl⟩ := wa.intE
  exact PySem.P.neg_int ⟨kp_tok s _, .int _ _⟩

theorem bin_adds (h : x.length + y.length ≤ sizeLine) : Bin .Add (.str x) (.str y) (.str (x ++ y)) := fun _ _ A O s v v' _ _ wa wb => by
  obtain ⟨t, rfl⟩ := wa.strE
  obtain ⟨t', rfl⟩ := wb.strE
  exact PyProof.Rows.add_str (fun t'' k => ⟨kp_tok s k, .str _ _⟩) h
theorem bin_addb (h : u.size + v.size ≤ 16777216) : Bin .Add (.bytes u) (.bytes v) (.bytes (u ++ v)) := fun _ _ A O s v v' _ _ wa wb => by
  obtain ⟨t, rfl⟩ := wa.bytesE
  obtain ⟨t', rfl⟩ := wb.bytesE
  exact PySem.W.KBy.add_bytes h fun t'' k => ⟨kp_tok s k, .bytes _ _⟩

theorem cmp_int {op : CmpOp} {a b : Int} {r : Bool}
    (h : ∀ (prog : Program) (w : World) (A : Around) (s : Shared) (t t' : Tok) (Q : Value → Shared → Prop), Q (.bool r) s → wpAny (model prog w) A (compareOp op (.int a t) (.int b t')) Q no s) : Cmp op (.int a) (.int b) r :=
  fun prog w A O s x y R _ wa wb => by
    obtain ⟨t, rfl⟩ := wa.intE
    obtain ⟨t', rfl⟩ := wb.intE
    exact h prog w A s t t' _ ⟨kp_refl s, rfl⟩
theorem cmp_eq : Cmp .Eq (.int a) (.int b) (a == b) := cmp_int fun _ _ _ _ _ _ _ h => PySem.P.eq_int h
theorem cmp_ne : Cmp .NotEq (.int a) (.int b) (a != b) := cmp_int fun _ _ _ _ _ _ _ h => PySem.P.ne_int h
theorem cmp_lt : Cmp .Lt (.int a) (.int b) (decide (a < b)) := cmp_int fun _ _ _ _ _ _ _ h => PySem.P.lt_int h
theorem cmp_le : Cmp .LtE (.int a) (.int b) (decide (a ≤ b)) := cmp_int fun _ _ _ _ _ _ _ h => PySem.P.le_int h
theorem cmp_gt : Cmp .Gt (.int a) (.int b) (decide (b < a)) := cmp_int fun _ _ _ _ _ _ _ h => PySem.P.gt_int h
theorem cmp_ge : Cmp .GtE (.int a) (.int b) (decide (b ≤ a)) := cmp_int fun _ _ _ _ _ _ _ h => PySem.P.ge_int h
theorem cmp_seq : Cmp .Eq (.str x) (.str y) (x.cps.toList == y.cps.toList) := fun _ _ A O s v v' _ _ wa wb => by
  obtain ⟨t, rfl⟩ := wa.strE
  obtain ⟨t', rfl⟩ := wb.strE
  exact PySem.P.eq_str ⟨kp_refl s, rfl⟩
theorem cmp_snotin : Cmp .NotIn (.str y) (.str x) (!(!(Builtin.Str.occurrences x y 0 x.length 1).isEmpty)) := fun _ _ A O s v v' _ _ wa wb => by
  obtain ⟨t, rfl⟩ := wa.strE
  obtain ⟨t', rfl⟩ := wb.strE
  exact PySem.P.notIn_str ⟨kp_refl s, rfl⟩
theorem cmp_bne : Cmp .NotEq (.bytes u) (.bytes v) (u.toList != v.toList) := fun _ _ A O s _ _ _ _ wa wb => by
  obtain ⟨t, rfl⟩ := wa.bytesE
  obtain ⟨t', rfl⟩ := wb.bytesE
  exact PySem.W.ne_bytes ⟨kp_refl s, rfl⟩

theorem tru_int : Tru (.int a) (a != 0) := fun _ _ A O s v _ _ wa => by
  obtain ⟨t, rfl⟩ := wa.intE
  exact PySem.P.truthy_int ⟨kp_refl s, rfl⟩
theorem tru_bool : Tru (.bool p) p := fun _ _ A O s v _ _ wa => by
  rw [wa.boolE]; exact wpAny_truthy_bool ⟨kp_refl s, rfl⟩
theorem tru_str (h : x.length < 2 ^ 63) : Tru (.str x) ((x.length : Int) != 0) := fun _ _ A O s v _ _ wa => by
  obtain ⟨t, rfl⟩ := wa.strE
  exact PySem.P.truthy_str (by omega) ⟨kp_tok s _, rfl⟩

/-! built-in functions upon one value -/
theorem cal1 {f : Value} {d d' : D} (h : ∀ (prog : Program) (w : World) (A : Around) (O : Addr → Prop) (s : Shared) (v : Value), Room 0 A → Dom O s → W O s.heap v d → wpAny (model prog w) A (call f [v] []) (OutS s O d') no s) : Cal f [d] d' :=
  fun prog w A O s vs R D x => by cases x with | cons x r => cases r; exact h prog w A O s _ R D x
theorem cal2 {f : Value} {d e d' : D} (h : ∀ (prog : Program) (w : World) (A : Around) (O : Addr → Prop) (s : Shared) (v u : Value), Room 0 A → Dom O s → W O s.heap v d → W O s.heap u e → wpAny (model prog w) A (call f [v, u] []) (OutS s O d') no s) : Cal f [d, e] d' :=
  fun prog w A O s vs R D x => by cases x with | cons x r => cases r with | cons y r => cases r; exact h prog w A O s _ _ R D x y
theorem cal_abs : Cal (.builtin "abs") [.int a] (.int (if a < 0 then -a else a)) := cal1 fun _ _ A O s v _ _ x => by
  obtain ⟨t, rfl⟩ := x.intE
  exact call_abs_int fun _ k => ⟨kp_tok s k, .int _ _⟩
theorem cal_int : Cal (.type "int") [.int a] (.int a) := cal1 fun _ _ A O s v _ _ x => by
  obtain ⟨t, rfl⟩ := x.intE
  exact call_int_int ⟨kp_refl s, .int _ _⟩
theorem cal_chr (h : 0 ≤ a) (h' : a ≤ 1114111) : Cal (.builtin "chr") [.int a] (.str ⟨#[a.toNat]⟩) := cal1 fun _ _ A O s v _ _ x => by
  obtain ⟨t, rfl⟩ := x.intE
  exact chr_of_range h h' ⟨kp_tok s _, .str _ _⟩
theorem cal_lens (h : x.length < 2 ^ 63) : Cal (.builtin "len") [.str x] (.int x.length) := cal1 fun _ _ A O s v _ _ z => by
  obtain ⟨t, rfl⟩ := z.strE
  exact PySem.P.len_str (by omega) ⟨kp_tok s _, .int _ _⟩
theorem cal_len {ds : List D} (h : ds.length < 2 ^ 63) : Cal (.builtin "len") [.list ds] (.int ds.length) := cal1 fun _ _ A O s v _ _ z => by
  obtain ⟨c, vs, rfl, l, r⟩ := z.lst
  have e := r.length
  exact call_len_list l (by rw [List.size_toArray]; omega) ⟨kp_tok s _, by rw [List.size_toArray, e]; exact .int _ _⟩
theorem cal_divmod (h : b ≠ 0) (hs : b.natAbs < 1073741824) : Cal (.builtin "divmod") [.int a, .int b] (.tup [.int (a.fdiv b), .int (a.fmod b)]) := cal2 fun _ _ A O s v v' _ D x y => by
  obtain ⟨t, rfl⟩ := x.intE
  obtain ⟨t', rfl⟩ := y.intE
  exact divmod_int h ⟨⟨_, _, rfl, fun _ _ e => Heap.get?_push_of_some _ e⟩, .tup (D.fresh (get_size _)) ⟨_, Heap.get?_push_size _ rfl, rfl, _, rfl⟩ (.cons (.int _ _) (.cons (.int _ _) .nil))⟩ (.inl (PyProof.noPylong_small hs))
theorem cal_rng : Cal (.type "range") [.int b] (.rng 0 b) := cal1 fun _ _ A O s v _ D x => by
  obtain ⟨t, rfl⟩ := x.intE
  exact call_range_1 ⟨⟨_, _, rfl, fun _ _ e => Heap.get?_push_of_some _ e⟩, .rng (D.fresh (get_size _)) (Heap.get?_push_size _ rfl)⟩
theorem cal_rng2 : Cal (.type "range") [.int a, .int b] (.rng a b) := cal2 fun _ _ A O s v v' _ D x y => by
  obtain ⟨t, rfl⟩ := x.intE
  obtain ⟨t', rfl⟩ := y.intE
  exact call_range_2 ⟨⟨_, _, rfl, fun _ _ e => Heap.get?_push_of_some _ e⟩, .rng (D.fresh (get_size _)) (Heap.get?_push_size _ rfl)⟩
end

/-! lists of whole numbers, of texts -/
def iL (l : List Int) : List D := l.map .int
def sL (l : List Str) : List D := l.map .str
theorem intsAre {O : Addr → Prop} {h : Heap} : ∀ {l : List Int} {vs : List Value}, RdL O h vs (iL l) → IntsAre vs l
  | [], _, r => by cases r; exact .nil
  | i :: l, _, r => by
    cases r with | cons x r => cases x with | int _ t => exact .cons _ _ (intsAre r)
theorem strsAre {O : Addr → Prop} {h : Heap} : ∀ {l : List Str} {vs : List Value}, RdL O h vs (sL l) → StrsAre vs l
  | [], _, r => by cases r; exact .nil
  | i :: l, _, r => by
    cases r with | cons x r => cases x with | str _ t => exact .cons _ _ (strsAre r)
theorem cal_bytes {l : List Int} (h : ∀ n ∈ l, 0 ≤ n ∧ n < 256) (hz : l.length ≤ sizeLine) : Cal (.type "bytes") [.list (iL l)] (.bytes (byteArr l)) := cal1 fun _ _ A O s v R D x => by
  obtain ⟨c, vs, rfl, z, r⟩ := x.lst
  exact call_bytes_ints z (intsAre r) h (by rw [r.length, iL, List.length_map]; exact hz) R.hand fun h' t k kh => ⟨⟨_, _, rfl, kh⟩, .bytes _ _⟩
end Mine

namespace Mine
open PySem PySem.Calls PyProof.Rows PySem.SeqAt

/-! items -/
theorem W.typ_list {O : Addr → Prop} {s : Shared} {v : Value} {ds : List D} (x : W O s.heap v (.list ds)) : s.TypeIs v "list" := by
  obtain ⟨a, vs, rfl, l, _⟩ := x.lst; exact l.typeIs
theorem itm_of {d₁ d₂ d : D} {T id : String} (hT : ∀ (O : Addr → Prop) (s : Shared) (a : Value), W O s.heap a d₁ → s.TypeIs a T) (hl : typeLookup (.type T) "__getitem__" = pure (some (.builtin id)))
    (h : ∀ (prog : Program) (w : World) (A : Around) (O : Addr → Prop) (s : Shared) (a b : Value), Room 0 A → Dom O s → W O s.heap a d₁ → W O s.heap b d₂ → wpAny (model prog w) A (getItem a b) (OutS s O d) no s) : Itm d₁ d₂ d :=
  fun prog w A O s a b value slice R D wa wb hs => by
    refine tail_any (ops := [a, b]) (hT O s a wa) hl (h prog w A O s a b R D wa wb) ?_
    unfold subscripted
    split
    · exact absurd rfl (hs _ _ _)
    · rename_i q; cases q
    · rfl
theorem itm_list {ds : List D} {i : Int} {d : D} {j : Nat} (hi : i = j) (hj : j < 2 ^ 63) (h : ds[j]? = some d) : Itm (.list ds) (.int i) d :=
  itm_of (fun _ _ _ x => x.typ_list) list_getitem_lookup fun _ _ A O s a b _ _ wa wb => by
    obtain ⟨c, vs, rfl, l, r⟩ := wa.lst
    obtain ⟨t, rfl⟩ := wb.intE
    obtain ⟨v, hv, rv⟩ := r.get h
    subst hi
    exact wpAny_getItem_list l (by omega) (by omega) (x := v) (by simpa using hv) ⟨kp_refl s, rv⟩
theorem itm_list_neg {ds : List D} {i : Int} {d : D} (h0 : i < 0) (h1 : -(ds.length : Int) ≤ i) (h2 : -2 ^ 63 ≤ i) (h : ds[(i + (ds.length : Int)).toNat]? = some d) : Itm (.list ds) (.int i) d :=
  itm_of (fun _ _ _ x => x.typ_list) list_getitem_lookup fun _ _ A O s a b _ _ wa wb => by
    obtain ⟨c, vs, rfl, l, r⟩ := wa.lst
    obtain ⟨t, rfl⟩ := wb.intE
    obtain ⟨v, hv, rv⟩ := r.get h
    have e := r.length
    exact wpAny_getItem_list_neg l h0 (by rw [List.size_toArray, e]; exact h1) h2 (x := v) (by rw [List.size_toArray, e]; simpa using hv) ⟨kp_refl s, rv⟩
theorem itm_str {x : Str} {i : Int} {k : Nat} (hr : (decide (i < -2 ^ 63) || decide (i ≥ 2 ^ 63)) = false) (h : ((seqIndex? i x.length).bind fun j => x.cps[j]?) = some k) : Itm (.str x) (.int i) (.str ⟨#[k]⟩) :=
  itm_of (T := "str") (fun _ s _ x => by obtain ⟨t, rfl⟩ := x.strE; exact typeIs_str s _ t) PySem.F.slot_str_getitem.lookup fun _ _ A O s a b _ _ wa wb => by
    obtain ⟨t, rfl⟩ := wa.strE
    obtain ⟨t', rfl⟩ := wb.intE
    exact PySem.P.getItem_str hr h ⟨kp_tok s _, .str _ _⟩

/-! joining lists, repeating -/
theorem binL_add {ds es : List D} (h : ds.length + es.length ≤ sizeLine) : BinL .Add (.list ds) (.list es) (ds ++ es) := fun _ _ A O s _ _ _ D wa wb => by
  obtain ⟨l, vs, rfl, hl, r⟩ := wa.lst
  obtain ⟨b, ws, rfl, hb, r'⟩ := wb.lst
  have e1 := r.length
  have e2 := r'.length
  obtain ⟨⟨cls, dd, data, sl⟩, ho, hc, n, hd⟩ := id hl
  obtain ⟨⟨cls2, dd2, data2, sl2⟩, ho2, hc2, n2, hd2⟩ := id hb
  simp only at hc hd hc2 hd2
  subst hc hd hc2 hd2
  have e : vs.toArray ++ ws.toArray = (vs ++ ws).toArray := by simp
  refine concat_meets ⟨_, ho, rfl⟩ ⟨_, ho2, rfl⟩ noFill_list_add seq_list_add PySem.F.slot_list_add PySem.F.entry_list_add (PySem.F.args_list_add_2 _ _) (list_addW l b vs.toArray ws.toArray n n2 dd dd2 sl sl2 (by simp; omega)) ⟨ho, ho2, ?_⟩
  rw [e]
  have kh : KH s.heap (s.heap.push { cls := .type "list", data := .seq (vs ++ ws).toArray }) := fun _ _ e => Heap.get?_push_of_some _ e
  exact ⟨⟨_, _, rfl, kh⟩, _, vs ++ ws, rfl, get_size _, ⟨_, Heap.get?_push_size _ rfl⟩, (r.append r').laid _⟩

def rep {α : Type} (n : Nat) (l : List α) : List α := (List.replicate n l).flatten
theorem rep_succ {α : Type} (n : Nat) (l : List α) : rep (n + 1) l = l ++ rep n l := by simp [rep, List.replicate_succ]
theorem RdL.rep {O : Addr → Prop} {h : Heap} {vs : List Value} {ds : List D} (r : RdL O h vs ds) : ∀ n, RdL O h (Mine.rep n vs) (Mine.rep n ds)
  | 0 => .nil
  | n + 1 => by rw [rep_succ, rep_succ]; exact r.append (r.rep n)
theorem foldl_app {α : Type} : ∀ (n : Nat) (l : List α) (acc : Array α), List.foldl (fun (x1 x2 : Array α) => x1 ++ x2) acc (List.replicate n l.toArray) = acc ++ (rep n l).toArray
  | 0, _, acc => by simp [rep]
  | n + 1, l, acc => by
    rw [List.replicate_succ, List.foldl_cons, foldl_app n l, rep_succ]
    simp [Array.append_assoc]
theorem El.mul {c : Cx} {Γ : Sig} {ρ : List Ent} {l r : Expr} {pos : Pos} {ds : List D} {i : Int} {n : Nat} (h₁ : El c Γ ρ l ds) (h₂ : Ev c Γ ρ r (.int i)) (hi : i.toNat = n) (hlo : -(2 ^ 63 : Int) ≤ i) (hhi : i < 2 ^ 63) (hsz : ds.length * n ≤ 2 ^ 24) :
    El c Γ ρ (.BinOp l .Mult r pos) (rep n ds) := Hid.mk fun K s O y => by
  refine wpAny_BinOp (wpAny_mono (h₁.out K s O y) (fun a s₁ q => ?_) nono)
  obtain ⟨k, a', vs, rfl, hn, hl, rr⟩ := q
  refine wpAny_mono (h₂.out K s₁ O (y.keeps k)) (fun b s₂ q => ?_) nono
  obtain ⟨k', wb⟩ := q
  obtain ⟨u, rfl⟩ := wb.intE
  obtain ⟨k0, hl⟩ := hl.at (kp_kh k' a')
  have rr := (rr.keep (kp_kh k')).less (O' := O) fun _ q => .inl q
  have e1 := rr.length
  have e : (List.foldl (fun x1 x2 => x1 ++ x2) #[] (List.replicate (if vs.toArray.isEmpty = true then 0 else i.toNat) vs.toArray)) = (rep n vs).toArray := by
    cases vs with
    | nil =>
      simp only [rep]
      simp
    | cons v vs => rw [if_neg (by simp), foldl_app, hi]; simp
  have ez : vs.toArray.size * i.toNat ≤ 16777216 := by rw [List.size_toArray, hi, e1]; exact hsz
  refine wpAny_binaryOp_repeat_ref (T := "list") (U := "int") (by decide) ⟨_, hl, rfl⟩ (fun s' => typeIs_int s' i u) noFill_list_mul F.fills_int_mul F.slot_int_rmul repeat_list F.slot_int_index.lookup
    (call_meets F.slot_int_rmul (typeIs_int s₂ i u) F.entry_int_rmul (F.args_int_rmul_2 _ _) (int___rmul___int_list i u a' vs.toArray k0)
      ⟨hl, rfl, ⟨_, hl, rfl⟩, call_meets F.slot_list_mul ⟨_, hl, rfl⟩ F.entry_list_mul (F.args_list_mul_2 _ _)
        (AutoListH.list___mul___list_int_3 a' vs.toArray k0 i u (by simp [Builtin.List.listFitsIndex]; omega) (by omega) (by
          simp only [Builtin.List.listTooLong, sizeLine]
          simp only [decide_eq_true_eq, gt_iff_lt, Nat.reducePow]
          omega))
        ⟨hl, ?_⟩⟩)
  rw [e]
  have kh : KH s₂.heap (s₂.heap.push { cls := .type "list", data := .seq (rep n vs).toArray }) := fun _ _ e => Heap.get?_push_of_some _ e
  have kp := kp_tr k k'
  obtain ⟨h₂', t₂, rfl, kk⟩ := kp
  exact ⟨⟨_, _, rfl, fun b o e => kh b o (kk b o e)⟩, _, rep n vs, rfl, none_of_kh kk (get_size _), ⟨_, Heap.get?_push_size _ rfl⟩, (rr.rep n).laid _⟩
theorem rep_length {α : Type} : ∀ (n : Nat) (l : List α), (rep n l).length = n * l.length
  | 0, _ => by simp [rep]
  | n + 1, l => by rw [rep_succ, List.length_append, rep_length n l, Nat.succ_mul, Nat.add_comm]
theorem bin_smul {x : Str} {i : Int} {n : Nat} (hi : i = n) (h1 : 1 < n) (hn : n < 2 ^ 20) (hx : x.length < 2 ^ 20) (hs : x.length * n ≤ 2 ^ 24) : Bin .Mult (.str x) (.int i) (.str ⟨(rep n x.cps.toList).toArray⟩) := fun _ _ A O s _ _ _ _ wa wb => by
  obtain ⟨t, rfl⟩ := wa.strE
  obtain ⟨t', rfl⟩ := wb.intE
  subst hi
  have e : (if (n : Int) < 1 then PySem.Made.str Str.empty else if ((n : Int) == 1 || x.length == 0) = true then .val (.str x t) else .str { cps := List.foldl (fun x1 x2 => x1 ++ x2) #[] (List.replicate (n : Int).toNat x.cps) }) =
      if x.length == 0 then .val (.str x t) else .str { cps := (rep n x.cps.toList).toArray } := by
    rw [if_neg (by omega), show ((n : Int) == 1) = false from beq_false_of_ne (by omega), Bool.false_or]
    congr 2
    rw [show x.cps = x.cps.toList.toArray from by simp, foldl_app]; simp
  refine PySem.P.mul_str (by simp; omega) (fun _ _ => ?_) (fun _ _ => ?_) ?_
  · have : (1 : Int) ≤ n := by omega
    have h3 : (2 ^ 63 - 1 : Int) / n ≥ 2 ^ 20 := by
      apply Int.le_ediv_of_mul_le (by omega)
      have : (n : Int) ≤ 2 ^ 20 := by omega
      calc (2 ^ 20 : Int) * n ≤ 2 ^ 20 * 2 ^ 20 := by omega
        _ ≤ _ := by decide
    omega
  · simp only [Builtin.Str.tooLong, Int.toNat_natCast, sizeLine]
    simp; omega
  · rw [e]
    split
    · rename_i h0
      have : x.cps.toList = [] := by
        have : x.cps.size = 0 := by simpa [Str.length] using h0
        simpa using this
      have e2 : (⟨(rep n x.cps.toList).toArray⟩ : Str) = x := by
        rw [this]
        have : rep n ([] : List Nat) = [] := by simp [rep]
        rw [this]
        obtain ⟨c⟩ := x
        simp at this ⊢
        simp_all
      exact ⟨kp_refl s, by rw [e2]; exact .str _ _⟩
    · exact ⟨by simp only [Str.length, List.size_toArray, rep_length, Array.length_toList]; rw [Nat.mul_comm]; exact hs, kp_tok s _, .str _ _⟩

/-! slices -/
def pick {α : Type} (l : List α) (is : List Nat) : List α := is.filterMap (l[·]?)
theorem RdL.pick {O : Addr → Prop} {h : Heap} {vs : List Value} {ds : List D} (r : RdL O h vs ds) : ∀ is, RdL O h (Mine.pick vs is) (Mine.pick ds is)
  | [] => .nil
  | i :: is => by
    unfold Mine.pick
    rw [List.filterMap_cons, List.filterMap_cons]
    cases e : vs[i]? with
    | none =>
      have : ds[i]? = none := by
        rw [List.getElem?_eq_none_iff] at e ⊢
        rw [← r.length]; exact e
      rw [this]; exact r.pick is
    | some v =>
      obtain ⟨d, hd, rd⟩ := r.get' e
      rw [hd]; exact .cons rd (r.pick is)
def slc {α : Type} (l : List α) (lo hi st : Option Int) : List α := pick l (sliceRange (sliceBounds lo hi st l.length).1 (sliceBounds lo hi st l.length).2.1 (sliceBounds lo hi st l.length).2.2)
theorem slicePick_slc (vs : List Value) (lo hi st : Option Int) : slicePick vs.toArray lo hi st = (slc vs lo hi st).toArray := by
  unfold slicePick slc pick
  rw [List.size_toArray]
  simp
theorem RdL.slc {O : Addr → Prop} {h : Heap} {vs : List Value} {ds : List D} (r : RdL O h vs ds) (lo hi st : Option Int) : RdL O h (Mine.slc vs lo hi st) (Mine.slc ds lo hi st) := by
  unfold Mine.slc
  rw [r.length]; exact r.pick _
section
variable {c : Cx} {Γ : Sig} {ρ : List Ent}
def Pt (c : Cx) (Γ : Sig) (ρ : List Ent) (e : Option Expr) (k : Option Int) : Prop := Hid (Ok c Γ → ∀ (s : Shared) (O : Addr → Prop), St c Γ O ρ s → wpAny c.M c.A (evalPart e c.env) (fun v s' => Keeps s s' ∧ IsPart v k) no s)
theorem Pt.none : Pt c Γ ρ none none := Hid.mk fun _ s _ _ => wpAny_pure ⟨kp_refl s, .none⟩
theorem Pt.some {e : Expr} {i : Int} (h : Ev c Γ ρ e (.int i)) : Pt c Γ ρ (some e) (some i) := Hid.mk fun K s O x => wpAny_mono (h.out K s O x) (fun v s' q => by
  obtain ⟨t, rfl⟩ := q.2.intE; exact ⟨q.1, .int i t⟩) nono
theorem ev_slice {l u st : Option Expr} {p : Pos} {lo hi sp : Option Int} (h1 : Pt c Γ ρ l lo) (h2 : Pt c Γ ρ u hi) (h3 : Pt c Γ ρ st sp) (K : Ok c Γ) {s : Shared} {O : Addr → Prop} (x : St c Γ O ρ s) :
    wpAny c.M c.A (eval (.Slice l u st p) c.env) (fun v s' => Keeps s s' ∧ ∃ sl vl vu vs, v = .ref sl ∧ s'.heap.IsSliceOf sl vl vu vs ∧ IsPart vl lo ∧ IsPart vu hi ∧ IsPart vs sp) no s :=
  wpAny_Slice (wpAny_mono (h1.out K s O x) (fun v1 s1 q1 => wpAny_mono (h2.out K s1 O (x.keeps q1.1)) (fun v2 s2 q2 => wpAny_mono (h3.out K s2 O ((x.keeps q1.1).keeps q2.1)) (fun v3 s3 q3 => by
    have k := kp_tr (kp_tr q1.1 q2.1) q3.1
    exact ⟨kp_tr k (kp_push _ _), _, v1, v2, v3, rfl, Heap.IsSliceOf.new _ _ _ _, q1.2, q2.2, q3.2⟩) nono) nono) nono)
theorem slc_get {ds : List D} {value : Expr} {l u : Option Expr} {st : Option Expr} {p pos : Pos} {lo hi sp : Option Int} (hv : Ev c Γ ρ value (.list ds)) (h1 : Pt c Γ ρ l lo) (h2 : Pt c Γ ρ u hi) (h3 : Pt c Γ ρ st sp)
    (h0 : sp ≠ some 0) (hsz : ds.length ≤ sizeLine) (K : Ok c Γ) {s : Shared} {O : Addr → Prop} (x : St c Γ O ρ s) :
    wpAny c.M c.A (eval value c.env) (fun o s₁ => wpAny c.M c.A (eval (.Slice l u st p) c.env) (fun i s₂ => s₂.TypeIs o "list" ∧ wpAny c.M c.A (getItem o i) (OutL s O (slc ds lo hi sp)) no s₂) no s₁) no s :=
  wpAny_mono (hv.out K s O x) (fun o s₁ q => wpAny_mono (ev_slice h1 h2 h3 K (x.keeps q.1)) (fun i s₂ q' => by
    obtain ⟨k, sl, vl, vu, vs', rfl, hs, p1, p2, p3⟩ := q'
    obtain ⟨a, vs, rfl, hl, r⟩ := (q.2.keep (kp_kh k)).lst
    refine ⟨hl.typeIs, wpAny_getItem_list_slice hl hs p1 p2 p3 h0 ?_ (by rw [List.size_toArray, r.length]; exact hsz)⟩
    rw [slicePick_slc]
    have kh : KH s₂.heap (s₂.heap.push { cls := .type "list", data := .seq (slc vs lo hi sp).toArray }) := fun _ _ e => Heap.get?_push_of_some _ e
    have kp := kp_tr q.1 k
    exact ⟨kp_tr kp (kp_push _ _), _, slc vs lo hi sp, rfl, none_of_kh (kp_kh kp) (get_size _), ⟨_, Heap.get?_push_size _ rfl⟩, (r.slc _ _ _).laid _⟩) nono) nono
theorem El.slice {ds : List D} {value : Expr} {l u : Option Expr} {p pos : Pos} {lo hi : Option Int} (hv : Ev c Γ ρ value (.list ds)) (h1 : Pt c Γ ρ l lo) (h2 : Pt c Γ ρ u hi) (hsz : ds.length ≤ sizeLine)
    (ht : ∀ o r, letTemporaryGo value o r = pure () := by intro _ _; rfl) : El c Γ ρ (.Subscript value (.Slice l u none p) pos) (slc ds lo hi none) := Hid.mk fun K _ _ x =>
  wpAny_Subscript_Slice list_getitem_lookup (slc_get (p := p) (pos := pos) hv h1 h2 Pt.none (by intro e; cases e) hsz K x) ht
theorem El.slice3 {ds : List D} {value : Expr} {l u : Option Expr} {e : Expr} {p pos : Pos} {lo hi : Option Int} {i : Int} (hv : Ev c Γ ρ value (.list ds)) (h1 : Pt c Γ ρ l lo) (h2 : Pt c Γ ρ u hi) (h3 : Ev c Γ ρ e (.int i)) (h0 : i ≠ 0) (hsz : ds.length ≤ sizeLine)
    (ht : ∀ o r, letTemporaryGo value o r = pure () := by intro _ _; rfl) : El c Γ ρ (.Subscript value (.Slice l u (some e) p) pos) (slc ds lo hi (some i)) := Hid.mk fun K _ _ x =>
  wpAny_Subscript_Slice_step list_getitem_lookup (slc_get (p := p) (pos := pos) hv h1 h2 (Pt.some h3) (by intro e; cases e; exact h0 rfl) hsz K x) ht
end
end Mine

namespace Mine
open PySem PySem.Calls PyProof.Rows PySem.SeqAt

inductive Fl where
  | next | brk | cont
  | ret (d : D)
def FlOk (c : Cx) (h : Heap) : Flow → Fl → Prop
  | .next, .next => True
  | .brk, .brk => True
  | .cont, .cont => True
  | .ret v, .ret d => Rd c.B h v d
  | _, _ => False
abbrev Post := Fl → List Ent → Prop
def ExP (c : Cx) (Γ : Sig) (Q : Post) (O : Addr → Prop) (s : Shared) (f : Flow) (s' : Shared) : Prop := ∃ f' ρ' O', FlOk c s'.heap f f' ∧ St c Γ O' ρ' s' ∧ Fc O s O' s' ∧ Q f' ρ'
def Ex1 (c : Cx) (Γ : Sig) (ρ : List Ent) (st : Stmt) (Q : Post) : Prop := Hid (Ok c Γ → ∀ (s : Shared) (O : Addr → Prop), St c Γ O ρ s → wpAny c.M c.A (exec st c.env) (ExP c Γ Q O s) no s)
def Ex (c : Cx) (Γ : Sig) (ρ : List Ent) (sts : List Stmt) (Q : Post) : Prop := Hid (Ok c Γ → ∀ (s : Shared) (O : Addr → Prop), St c Γ O ρ s → wpAny c.M c.A (execs sts c.env) (ExP c Γ Q O s) no s)

section
variable {c : Cx} {Γ : Sig} {ρ : List Ent}
theorem ExP.tr {Q : Post} {O O₁ : Addr → Prop} {s s₁ s' : Shared} {f : Flow} (a : Fc O s O₁ s₁) (x : ExP c Γ Q O₁ s₁ f s') : ExP c Γ Q O s f s' := by
  obtain ⟨f', ρ', O', hf, x', b, q⟩ := x
  exact ⟨f', ρ', O', hf, x', a.tr b, q⟩
theorem Ex.nil {Q : Post} (h : Q .next ρ) : Ex c Γ ρ [] Q := Hid.mk fun _ s O x => wpAny_execs_nil ⟨.next, ρ, O, trivial, x, Fc.refl O s, h⟩
/-- on to the next statement -/
def thn (c : Cx) (Γ : Sig) (rest : List Stmt) (Q : Post) : Post := fun f ρ' => match f with | .next => Ex c Γ ρ' rest Q | f => Q f ρ'
theorem Ex.cons {st : Stmt} {rest : List Stmt} {Q : Post} (h : Ex1 c Γ ρ st (thn c Γ rest Q)) : Ex c Γ ρ (st :: rest) Q := Hid.mk fun K s O x => by
  refine wpAny_execs_cons (wpAny_mono (h.out K s O x) (fun f s' q => ?_) nono)
  obtain ⟨f', ρ', O', hf, x', a, q⟩ := q
  cases f <;> cases f' <;> first | exact hf.elim | skip
  · exact wpAny_mono (q.out K s' O' x') (fun f s'' q => q.tr a) nono
  · exact ⟨_, ρ', O', hf, x', a, q⟩
  · exact ⟨_, ρ', O', hf, x', a, q⟩
  · exact ⟨_, ρ', O', hf, x', a, q⟩
theorem Ex.mono {sts : List Stmt} {Q Q' : Post} (h : Ex c Γ ρ sts Q) (f : ∀ a b, Q a b → Q' a b) : Ex c Γ ρ sts Q' := Hid.mk fun K s O x =>
  wpAny_mono (h.out K s O x) (fun _ _ ⟨f', ρ', O', hf, x', a, q⟩ => ⟨f', ρ', O', hf, x', a, f _ _ q⟩) nono
theorem Ex1.mono {st : Stmt} {Q Q' : Post} (h : Ex1 c Γ ρ st Q) (f : ∀ a b, Q a b → Q' a b) : Ex1 c Γ ρ st Q' := Hid.mk fun K s O x =>
  wpAny_mono (h.out K s O x) (fun _ _ ⟨f', ρ', O', hf, x', a, q⟩ => ⟨f', ρ', O', hf, x', a, f _ _ q⟩) nono
/-- an own list is let go -/
theorem Ex.freeze {sts : List Stmt} {Q : Post} {y : Str} {ds : List D} {ρ' : List Ent} (p : At Γ.vars ρ y (.mlist ds)) (q : Put Γ.vars ρ y (.dat (.list ds)) ρ') (h : Ex c Γ ρ' sts Q) : Ex c Γ ρ sts Q := Hid.mk fun K s O x => by
  obtain ⟨O', x', sub⟩ := x.freeze K p q
  exact wpAny_mono (h.out K s O' x') (fun f s' z => z.tr ⟨fun b o _ e => e, fun b y => .inl (sub b y)⟩) nono

/-! stores -/
def Asg (c : Cx) (Γ : Sig) (ρ : List Ent) (t : Expr) (d : D) (ρ' : List Ent) : Prop :=
  Ok c Γ → ∀ (s : Shared) (O : Addr → Prop) (v : Value), St c Γ O ρ s → Rd O s.heap v d → wpAny c.M c.A (assign t c.env v) (fun _ s' => St c Γ O ρ' s' ∧ Fc O s O s' ∧ Lc c Γ s s') no s
theorem Asg.name {x : Str} {pos : Pos} {d : D} {ρ' : List Ent} (p : Put Γ.vars ρ x (.dat d) ρ') : Asg c Γ ρ (.Name x pos) d ρ' := fun K s O v y r =>
  wpAny_assign_Name (st_put K y p r fun s' z f l => ⟨z, f, l⟩)
/-- names in a row -/
inductive Puts (Γ : Sig) : List Ent → List Expr → List D → List Ent → Prop
  | nil {ρ : List Ent} : Puts Γ ρ [] [] ρ
  | cons {ρ ρ₁ ρ₂ : List Ent} {x : Str} {pos : Pos} {d : D} {es : List Expr} {ds : List D} : Put Γ.vars ρ x (.dat d) ρ₁ → Puts Γ ρ₁ es ds ρ₂ → Puts Γ ρ (.Name x pos :: es) (d :: ds) ρ₂
theorem puts_row {es : List Expr} {ds : List D} {ρ' : List Ent} (p : Puts Γ ρ es ds ρ') : ((assignEach es c.env).length = ds.length ∧ (assignEach es c.env).findIdx? (·.1) = none) ∧
    (Ok c Γ → ∀ (s : Shared) (O : Addr → Prop) (vs : List Value), St c Γ O ρ s → RdL O s.heap vs ds → wpAny c.M c.A (assignInOrder ((assignEach es c.env).map (·.2)) vs) (fun _ s' => St c Γ O ρ' s' ∧ Fc O s O s' ∧ Lc c Γ s s') no s) := by
  induction p with
  | nil => exact ⟨⟨rfl, rfl⟩, fun _ s O vs x _ => wpAny_pure ⟨x, Fc.refl O s, fun _ _ _ _ e => e⟩⟩
  | @cons ρ ρ₁ ρ₂ x pos d es ds p _ ih =>
    obtain ⟨⟨i1, i2⟩, ih⟩ := ih
    refine ⟨⟨by show (_ :: assignEach es c.env).length = _; rw [List.length_cons, i1, List.length_cons], ?_⟩, fun K s O vs y r => ?_⟩
    · show ((false, assign (.Name x pos) c.env) :: assignEach es c.env).findIdx? (·.1) = none
      rw [List.findIdx?_cons, i2]; rfl
    · cases r with
      | cons r rs =>
        show wpAny c.M c.A (assignInOrder (assign (.Name x pos) c.env :: (assignEach es c.env).map (·.2)) (_ :: _)) _ _ _
        refine wpAny_bind (wpAny_holding (wpAny_mono (Asg.name p K s O _ y r) (fun _ s' q => ?_) nono))
        refine wpAny_mono (ih K s' O _ q.1 (rs.mono fun a o n e => ⟨n, q.2.1.kp a o n e⟩)) (fun _ s'' q' => ⟨q'.1, q.2.1.tr q'.2.1, q.2.2.tr q'.2.2⟩) nono
theorem extNew {O : Addr → Prop} {s : Shared} {h' : Heap} (k : Heap.ExtBut s.heap.objs.size s.heap h') : Keeps s { s with heap := h' } := ⟨h', s.toks, rfl, fun b o e => k b o (Nat.ne_of_lt (Heap.lt_size e)) e⟩
theorem Asg.tup {es : List Expr} {k : Nat} {pos : Pos} {ds : List D} {ρ' : List Ent} (p : Puts Γ ρ es ds ρ') : Asg c Γ ρ (.Tuple es k pos) (.tup ds) ρ' := fun K s O v y r => by
  obtain ⟨⟨i1, i2⟩, ih⟩ := puts_row (c := c) p
  obtain ⟨t, vs, rfl, ht, rl⟩ := (W.s r).tupl
  refine wpAny_assign_Tuple K.room.hand ht (by rw [i1, List.size_toArray, rl.length]) i2 fun h' kh => ?_
  have kk := extNew (O := O) kh
  exact wpAny_mono (ih K _ O vs (y.keeps kk) (rl.keep (kp_kh kk))) (fun _ s'' q' => ⟨q'.1, (Fc.ofKeeps kk).tr q'.2.1, (Lc.ofKeeps kk).tr q'.2.2⟩) nono

theorem Ex1.assign {t e : Expr} {pos : Pos} {d : D} {ρ' : List Ent} {Q : Post} (he : Es c Γ ρ e d) (ha : Asg c Γ ρ t d ρ') (hq : Q .next ρ')
    (hs : swapsWithSole [t] e pos.line c.env = pure false := by rfl) (hw : swappedStores [t] e c.env = pure none := by rfl) (h1 : (assignEach [t] c.env).map (·.2) = [assign t c.env] := by rfl) : Ex1 c Γ ρ (.Assign [t] e pos) Q := Hid.mk fun K s O x => by
  refine wpAny_Assign_stores (wpAny_mono (he.out K s O x) (fun v s₁ q => ?_) nono) hs hw
  rw [h1]
  exact wpAny_mono (ha K s₁ O v (x.keeps q.1) q.2) (fun _ s₂ z => ⟨.next, ρ', O, trivial, z.1, (Fc.ofKeeps q.1).tr z.2.1, hq⟩) nono

theorem RdL.two {O : Addr → Prop} {h : Heap} {vs : List Value} {d₁ d₂ : D} (r : RdL O h vs [d₁, d₂]) : ∃ v1 v2, vs = [v1, v2] ∧ Rd O h v1 d₁ ∧ Rd O h v2 d₂ := by
  cases r with | cons r1 r => cases r with | cons r2 r => cases r with | nil => exact ⟨_, _, rfl, r1, r2⟩
theorem two_items {prog : Program} {w : World} {A : Around} {E : Value → Shared → Prop} {s : Shared} {t : Addr} {v1 v2 : Value} {Q : List Value → Shared → Prop} (hh : A.handled = none) (ht : s.heap.IsTuple t [v1, v2].toArray)
    (hQ : ∀ h', Heap.ExtBut s.heap.objs.size s.heap h' → Q [v1, v2] { s with heap := h' }) : wpAny (model prog w) A (unpackItems (.ref t) 2 none) Q E s := by
  have := wpAny_unpackItems_tuple (prog := prog) (w := w) (E := E) (Q := Q) hh ht hQ
  exact this
theorem assign_swap {M : Model} {A : Around} {E : Value → Shared → Prop} {s : Shared} {env : Env} {ts : List Expr} {e : Expr} {pos : Pos} {names : List Str} {Q : Flow → Shared → Prop}
    (hs : swapsWithSole ts e pos.line env = pure false) (hw : swappedStores ts e env = pure (some names))
    (h : wpAny M A (eval e env) (fun v s₁ => wpAny M A (rule "assign.swapped-stores" >>= fun _ => unpackItems v names.length none >>= fun items => assignInOrder (names.reverse.map fun n => bindName env n) items.reverse >>= fun _ => pure Flow.next) Q E s₁) E s) :
    wpAny M A (exec (.Assign ts e pos) env) Q E s := by
  rw [exec_Assign_arm]
  refine wpAny_bind (wpAny_standAt ?_)
  rw [hs]
  refine wpAny_bind (wpAny_pure ?_)
  rw [if_neg (by decide)]
  refine wpAny_bind (wpAny_mono h (fun v s₁ h₁ => ?_) fun _ _ x => x)
  rw [hw]
  exact wpAny_bind (wpAny_pure h₁)
/-- two names at once out of a written pair: the stores go from behind -/
theorem Ex1.swapped {x y : Str} {px py pos p1 p2 : Pos} {k k' : Nat} {e₁ e₂ : Expr} {d₁ d₂ : D} {ρ₁ ρ' : List Ent} {Q : Post} (he : Es c Γ ρ (.Tuple [e₁, e₂] k' p2) (.tup [d₁, d₂]))
    (hp : Put Γ.vars ρ y (.dat d₂) ρ₁) (hp' : Put Γ.vars ρ₁ x (.dat d₁) ρ') (hq : Q .next ρ')
    (hw : swappedStores [.Tuple [.Name x px, .Name y py] k p1] (.Tuple [e₁, e₂] k' p2) c.env = pure (some [x, y])) : Ex1 c Γ ρ (.Assign [.Tuple [.Name x px, .Name y py] k p1] (.Tuple [e₁, e₂] k' p2) pos) Q := Hid.mk fun K s O z => by
  refine assign_swap (by rfl) hw (wpAny_mono (he.out K s O z) (fun v s₁ q => ?_) nono)
  obtain ⟨t, vs, rfl, ht, rl⟩ := (W.s q.2).tupl
  obtain ⟨v1, v2, rfl, r1, r2⟩ := rl.two
  show wpAny _ _ (rule "assign.swapped-stores" >>= fun _ => unpackItems (.ref t) 2 none >>= fun items => assignInOrder ([x, y].reverse.map fun n => bindName c.env n) items.reverse >>= fun _ => pure Flow.next) _ _ _
  refine wpAny_bind (wpAny_rule (wpAny_bind (two_items K.room.hand ht (fun h' kh => ?_))))
  have kk := extNew (O := O) kh
  have y1 := (z.keeps q.1).keeps kk
  have r1 := r1.keep (kp_kh kk)
  have r2 := r2.keep (kp_kh kk)
  show wpAny _ _ ((holding [v1] (bindName c.env y v2) >>= fun _ => holding [] (bindName c.env x v1) >>= fun _ => pure ()) >>= fun _ => pure Flow.next) _ _ _
  refine wpAny_bind (wpAny_bind (wpAny_holding (wpAny_bindName (st_put K y1 hp r2 fun s₃ y2 f2 _ => ?_))))
  refine wpAny_bind (wpAny_holding (wpAny_bindName (st_put K y2 hp' (r1.mono fun a o n e => ⟨n, f2.kp a o n e⟩) fun s₄ y3 f3 _ => ?_)))
  exact wpAny_pure (wpAny_pure ⟨.next, ρ', O, trivial, y3, ((Fc.ofKeeps (kp_tr q.1 kk)).tr f2).tr f3, hq⟩)

theorem own_new (K : Ok c Γ) {s : Shared} {O O' : Addr → Prop} (y : St c Γ O ρ s) {a : Addr} (hn : s.heap.get? a = none) (h : O' a) : Own c O' a := by
  refine ⟨h, none_of_kh y.keep hn, fun e => ?_, fun x b hb e => ?_⟩
  · obtain ⟨o, z⟩ := y.dom _ y.oL; rw [← e, hn] at z; cases z
  · obtain ⟨V, F, En, N⟩ := y.frm
    obtain ⟨k1, k2⟩ := K.cells x b hb
    obtain ⟨o, ho, _⟩ := F.cel x b k2 k1
    rw [← e, hn] at ho; cases ho
/-- a new list is the name's own -/
theorem Ex1.assignL {x : Str} {px pos : Pos} {e : Expr} {ds : List D} {ρ' : List Ent} {Q : Post} (he : El c Γ ρ e ds) (hp : Put Γ.vars ρ x (.mlist ds) ρ') (hq : Q .next ρ')
    (hs : swapsWith e (some (.Name x px)) pos.line c.env = pure false := by rfl) : Ex1 c Γ ρ (.Assign [.Name x px] e pos) Q := Hid.mk fun K s O y => by
  refine wpAny_Assign_Name (wpAny_mono (he.out K s O y) (fun v s₁ q => ?_) nono) hs
  obtain ⟨k, a, vs, rfl, hn, hl, r⟩ := q
  obtain ⟨n0, hl0⟩ := id hl
  obtain ⟨y1, V, F, En, N, hoff⟩ := y.own k hn ⟨_, hl0⟩
  refine st_storeV K y1 hp ⟨a, vs, rfl, own_new K y hn (.inr rfl), hl, r⟩ F En N (fun b hb => by rw [List.mem_singleton.mp hb]; exact hoff) (by exact List.nodup_cons.mpr ⟨by simp, .nil⟩) fun s' z f _ => ?_
  exact ⟨.next, ρ', _, trivial, z, Fc.tr ⟨fun b o _ e => kp_kh k b o e, fun b q => q.elim .inl fun e => .inr (e ▸ hn)⟩ f, hq⟩
end
end Mine

namespace Mine
open PySem PySem.Calls PyProof.Rows PySem.SeqAt

/-! an object that no data can stand on: an iterator -/
def Inert (o : Obj) : Prop := ∃ n, o.cls = .type n ∧ n ≠ "list" ∧ n ≠ "tuple" ∧ n ≠ "range" ∧ n ≠ "dict" ∧ ["enumerate", "zip", "dict_itemiterator", "dict_reverseitemiterator", "odict_iterator", "itertools.zip_longest", "itertools.pairwise"].contains n = false
section
variable {O : Addr → Prop} {h : Heap} {I : Addr} {oI : Obj} (hI : h.get? I = some oI) (hn : Inert oI)
include hI hn
theorem inert_list {a : Addr} {vs : Array Value} (x : h.IsList a vs) : a ≠ I := fun e => by
  obtain ⟨o, ho, hc, _⟩ := x
  obtain ⟨n, h1, h2, _⟩ := hn
  rw [e, hI] at ho; cases ho; rw [hc] at h1; cases h1; exact h2 rfl
theorem inert_tuple {a : Addr} {vs : Array Value} (x : h.IsTuple a vs) : a ≠ I := fun e => by
  obtain ⟨o, ho, hc, _⟩ := x
  obtain ⟨n, h1, _, h2, _⟩ := hn
  rw [e, hI] at ho; cases ho; rw [hc] at h1; cases h1; exact h2 rfl
theorem inert_rng {r : Addr} {a b c : Int} {t u v : Tok} (x : IsRange h r a b c t u v) : r ≠ I := fun e => by
  obtain ⟨n, h1, _, _, h2, _⟩ := hn
  have x : h.get? r = some _ := x
  rw [e, hI] at x; cases x; cases h1; exact h2 rfl
theorem inert_inst {x C dx : Addr} (z : h.get? x = some (instO C dx)) : x ≠ I := fun e => by
  obtain ⟨n, h1, _⟩ := hn
  rw [e, hI] at z; cases z; cases h1
theorem inert_dict {x : Addr} {es : Array DictEntry} {k : Nat} (z : h.get? x = some (dictO es k)) : x ≠ I := fun e => by
  obtain ⟨n, h1, _, _, _, h2, _⟩ := hn
  rw [e, hI] at z; cases z; cases h1; exact h2 rfl
mutual
theorem Rd.off : ∀ {v : Value} {d : D}, Rd O h v d → Rd (fun b => O b ∨ b = I) h v d
  | _, _, .none => .none
  | _, _, .bool b => .bool b
  | _, _, .int i t => .int i t
  | _, _, .str x t => .str x t
  | _, _, .bytes b t => .bytes b t
  | _, _, .list hO hl r => .list (fun q => q.elim hO (inert_list hI hn hl)) hl (RdL.off r)
  | _, _, .tup hO hl r => .tup (fun q => q.elim hO (inert_tuple hI hn hl)) hl (RdL.off r)
  | _, _, .rng hO e => .rng (fun q => q.elim hO (inert_rng hI hn e)) e
  | _, _, .obj hx hd ex ed r => .obj (fun q => q.elim hx (inert_inst hI hn ex)) (fun q => q.elim hd (inert_dict hI hn ed)) ex ed (RdF.off r)
theorem RdL.off : ∀ {vs : List Value} {ds : List D}, RdL O h vs ds → RdL (fun b => O b ∨ b = I) h vs ds
  | _, _, .nil => .nil
  | _, _, .cons x r => .cons (Rd.off x) (RdL.off r)
theorem RdF.off : ∀ {vs : List DictEntry} {ds : List (Str × D)}, RdF O h vs ds → RdF (fun b => O b ∨ b = I) h vs ds
  | _, _, .nil => .nil
  | _, _, .cons e x r => .cons e (Rd.off x) (RdF.off r)
end
end
theorem Rd.skip {O : Addr → Prop} {h h' : Heap} {I : Addr} {oI : Obj} (hI : h.get? I = some oI) (hn : Inert oI) (k : Heap.ExtBut I h h') {v : Value} {d : D} (r : Rd O h v d) : Rd O h' v d :=
  (r.off hI hn).mono fun a o n e => ⟨fun q => n (.inl q), k a o (fun z => n (.inr z)) e⟩
theorem RdL.skip {O : Addr → Prop} {h h' : Heap} {I : Addr} {oI : Obj} (hI : h.get? I = some oI) (hn : Inert oI) (k : Heap.ExtBut I h h') {v : List Value} {d : List D} (r : RdL O h v d) : RdL O h' v d :=
  (r.off hI hn).mono fun a o n e => ⟨fun q => n (.inl q), k a o (fun z => n (.inr z)) e⟩
theorem RdF.skip {O : Addr → Prop} {h h' : Heap} {I : Addr} {oI : Obj} (hI : h.get? I = some oI) (hn : Inert oI) (k : Heap.ExtBut I h h') {v : List DictEntry} {d : List (Str × D)} (r : RdF O h v d) : RdF O h' v d :=
  (r.off hI hn).mono fun a o n e => ⟨fun q => n (.inl q), k a o (fun z => n (.inr z)) e⟩
theorem EntOk.skip {c : Cx} {O : Addr → Prop} {h h' : Heap} {v? : Option Value} {e : Ent} {I : Addr} {oI : Obj} (x : EntOk c O h v? e) (hO : ¬ O I) (hB : c.hB.get? I = none) (hI : h.get? I = some oI) (hn : Inert oI) (k : Heap.ExtBut I h h') : EntOk c O h' v? e := by
  have offO : ∀ b, Own c O b → b ≠ I := fun b w z => hO (z ▸ w.o)
  have base : ∀ b, (∃ o, c.hB.get? b = some o) → b ≠ I := fun b w z => by obtain ⟨o', w⟩ := w; rw [z, hB] at w; cases w
  cases e with
  | any => trivial
  | dat d => obtain ⟨v, e, r⟩ := x; exact ⟨v, e, r.skip hI hn k⟩
  | mlist ds => obtain ⟨b, vs, e, w, l, r⟩ := x; exact ⟨b, vs, e, w, l.at fun o q => k b o (offO b w) q, r.skip hI hn k⟩
  | blist ds => obtain ⟨b, vs, e, w, l, r⟩ := x; exact ⟨b, vs, e, w, isList_at l fun o q => k b o (base b w) q, r.skip hI hn k⟩
  | mdict ds => obtain ⟨b, e, w, r⟩ := x; exact ⟨b, e, w, r.at (fun o q => k b o (offO b w) q) fun _ _ q => q.skip hI hn k⟩
  | bdict ds => obtain ⟨b, e, w, r⟩ := x; exact ⟨b, e, w, r.at (fun o q => k b o (base b w) q) fun _ _ q => q.skip hI hn k⟩
  | mobj C x dx fs => obtain ⟨es, n, e, o1, o2, e1, e2, r⟩ := x; exact ⟨es, n, e, o1, o2, k _ _ (offO _ o1) e1, k _ _ (offO _ o2) e2, r.skip hI hn k⟩
/-- an iterator moves on -/
theorem St.moved {c : Cx} {Γ : Sig} {O : Addr → Prop} {ρ : List Ent} {s : Shared} (K : Ok c Γ) (x : St c Γ O ρ s) {I : Addr} {oI : Obj} {h' : Heap} {tk : Nat} (hO : ¬ O I) (hB : c.hB.get? I = none) (hc : ∀ x b, (x, b) ∈ c.env.cells → b ≠ I)
    (hI : s.heap.get? I = some oI) (hn : Inert oI) (k : Heap.ExtBut I s.heap h') : St c Γ O ρ { s with heap := h', toks := tk } := by
  obtain ⟨V, F, E, N⟩ := x.frm
  have same := x.same
  obtain ⟨h, t, rfl⟩ := same
  refine ⟨⟨h', tk, rfl⟩, fun b o e => k b o (fun z => by rw [z, hB] at e; cases e) (x.keep b o e), x.base, fun b q => ?_, x.oL, x.oC, V, ⟨?_, ?_⟩, ?_, N⟩
  · obtain ⟨o, e⟩ := x.dom b q; exact ⟨o, k b o (fun z => hO (z ▸ q)) e⟩
  · obtain ⟨m, n, q⟩ := F.loc; exact ⟨m, n.extBut k (fun z => hO (z ▸ x.oL)), q⟩
  · intro y b n e; exact isCell_at (F.cel y b n e) fun o q => k b o (hc y b (mem_of_lookup e)) q
  · exact E.imp fun v? e w => w.skip hO hB hI hn k
theorem St.cellAt {c : Cx} {Γ : Sig} {O : Addr → Prop} {ρ : List Ent} {s : Shared} (K : Ok c Γ) (x : St c Γ O ρ s) {I : Addr} (hI : s.heap.get? I = none) : ∀ x b, (x, b) ∈ c.env.cells → b ≠ I := fun y b hb e => by
  obtain ⟨V, F, En, N⟩ := x.frm
  obtain ⟨k1, k2⟩ := K.cells y b hb
  obtain ⟨o, ho, _⟩ := F.cel y b k2 k1
  rw [e, hI] at ho; cases ho

/-! walking along a list, a tuple, a range, a text -/
def ItrOut (prog : Program) (w : World) (O : Addr → Prop) (s : Shared) (v : Value) (ds : List D) (it : Value) (s' : Shared) : Prop :=
  Keeps s s' ∧ ∃ I fp P T, it = .ref I ∧ (∀ i h, T i h → ∃ o, h.get? I = some o ∧ Inert o) ∧ (∀ A' : Around, A'.handled = none → Walks prog w A' I fp [I] ds.length P T) ∧ ds.length ≤ sizeLine ∧ T 0 s'.heap ∧ s.heap.get? I = none ∧ (∀ b ∈ fp, ∃ o, s'.heap.get? b = some o) ∧
    (∀ b ∈ fp, b = I ∨ v = .ref b) ∧ ∀ i u, P i u → i < ds.length → ∃ d, ds[i]? = some d ∧ Rd (fun b => O b ∨ b = I) s'.heap u d
def Itr (d : D) (ds : List D) : Prop := ∀ (prog : Program) (w : World) (A : Around) (O : Addr → Prop) (s : Shared) (v : Value), A.handled = none → Dom O s → W O s.heap v d →
  wpAny (model prog w) A (pyIter v) (ItrOut prog w O s v ds) no s
theorem itr_list {ds : List D} (h : ds.length ≤ sizeLine) : Itr (.list ds) ds := fun prog w A O s v hh D x => by
  obtain ⟨a, vs, rfl, hl, r⟩ := x.lst
  have e := r.length
  have hlt : a ≠ s.heap.objs.size := by obtain ⟨o, ho, _⟩ := hl; exact Nat.ne_of_lt (Heap.lt_size ho)
  refine wpAny_pyIter_list hl ⟨kp_push _ _, s.heap.objs.size, [s.heap.objs.size, a], fun i v => vs.toArray[i]? = some v, fun i h => h.IsListIter s.heap.objs.size a i ∧ h.IsList a vs.toArray, rfl, fun i h z => ?_, fun A' hA => ?_, h, ⟨⟨_, Heap.get?_push_size _ rfl, rfl, rfl⟩, hl.push _⟩, get_size _, fun b hb => ?_, fun b hb => ?_, fun i u hu hi => ?_⟩
  · obtain ⟨⟨o, ho, hc, _⟩, _⟩ := z; exact ⟨o, ho, _, hc, by decide⟩
  · have e' : vs.toArray.size = ds.length := by rw [← e]; exact List.size_toArray
    rw [← e']; exact Walks.list (prog := prog) (w := w) hA s.heap.objs.size a hlt vs.toArray
  · rcases List.mem_cons.mp hb with rfl | hb
    · exact ⟨_, Heap.get?_push_size _ rfl⟩
    · rw [List.mem_singleton.mp hb]; obtain ⟨o, ho, _⟩ := hl; exact ⟨o, Heap.get?_push_of_some _ ho⟩
  · rcases List.mem_cons.mp hb with rfl | hb
    · exact .inl rfl
    · rw [List.mem_singleton.mp hb]; exact .inr rfl
  · have hu' : vs[i]? = some u := by simpa using hu
    obtain ⟨d, hd, _⟩ := r.get' hu'
    obtain ⟨u', e1, rd⟩ := (r.laid (O := O) { cls := .type "list_iterator", data := .fields #[.ref a, .int 0 0] }).get hd
    rw [hu'] at e1; cases e1
    exact ⟨d, hd, rd⟩
/-- the numbers from a, n of them -/
def upTo (a : Int) : Nat → List Int
  | 0 => []
  | n + 1 => a :: upTo (a + 1) n
theorem upTo_length : ∀ (n : Nat) (a : Int), (upTo a n).length = n
  | 0, _ => rfl
  | n + 1, a => by rw [upTo, List.length_cons, upTo_length n]
theorem upTo_get : ∀ (n : Nat) (a : Int) (i : Nat), i < n → (upTo a n)[i]? = some (a + i)
  | 0, _, _, h => absurd h (Nat.not_lt_zero _)
  | n + 1, a, 0, _ => by simp [upTo]
  | n + 1, a, i + 1, h => by
    rw [upTo, List.getElem?_cons_succ, upTo_get n (a + 1) i (by omega)]
    congr 1; push_cast; omega
theorem itr_rng {a b : Int} {n : Nat} (ha : -(2 ^ 62) ≤ a) (ha' : a < 2 ^ 62) (hb : -(2 ^ 62) ≤ b) (hb' : b < 2 ^ 62) (hn : n = (b - a).toNat) (hz : n ≤ sizeLine) : Itr (.rng a b) (iL (upTo a n)) := fun prog w A O s v hh D x => by
  obtain ⟨r, t, u, w', rfl, hr⟩ := x.rngE
  have hlen : (iL (upTo a n)).length = n := by rw [iL, List.length_map, upTo_length]
  have hsz : Builtin.Range.rangeSize a b 1 = (n : Int) := by rw [rangeSize_one]; split <;> omega
  refine wpAny_pyIter_range hr (small_one ha ha' hb hb') ?_
  rw [hsz]
  refine ⟨kp_push _ _, s.heap.objs.size, [s.heap.objs.size], fun i v => ∃ t, v = .int (a + (i : Nat) * 1) t, fun i h => IsRangeIter h s.heap.objs.size (a + (i : Nat) * 1) ((n : Int) - (i : Nat)) 1, rfl, fun i h z => ⟨_, z, _, rfl, by decide⟩, fun A' hA => ?_, by rw [hlen]; exact hz, ?_, get_size _, fun b hb => ?_, fun b hb => ?_, fun i u hu hi => ?_⟩
  · have := Walks.range (prog := prog) (w := w) hA s.heap.objs.size a 1 n
    rw [hlen]; exact this
  · have := Heap.get?_push_size s.heap (o := { cls := .type "range_iterator", data := .fields #[rawInt a, rawInt n, rawInt 1] }) rfl
    simpa using this
  · rw [List.mem_singleton.mp hb]; exact ⟨_, Heap.get?_push_size _ rfl⟩
  · rw [List.mem_singleton.mp hb]; exact .inl rfl
  · obtain ⟨t, rfl⟩ := hu
    rw [hlen] at hi
    refine ⟨.int (a + i), by rw [iL, List.getElem?_map, upTo_get n a i hi]; rfl, ?_⟩
    rw [Int.mul_one]; exact .int _ _
def chars (x : Str) : List D := x.cps.toList.map fun k => .str ⟨#[k]⟩
theorem itr_str {x : Str} (hz : x.length ≤ sizeLine) : Itr (.str x) (chars x) := fun prog w A O s v hh D z => by
  obtain ⟨t, rfl⟩ := z.strE
  have hlen : (chars x).length = x.cps.size := by rw [chars, List.length_map, Array.length_toList]
  have fin : ∀ ty, ty ≠ "list" ∧ ty ≠ "tuple" ∧ ty ≠ "range" ∧ ty ≠ "dict" ∧ ["enumerate", "zip", "dict_itemiterator", "dict_reverseitemiterator", "odict_iterator", "itertools.zip_longest", "itertools.pairwise"].contains ty = false → (∀ A' : Around, A'.handled = none → Walks prog w A' s.heap.objs.size [s.heap.objs.size] [s.heap.objs.size] x.cps.size (SignAt x) (fun i h => h.IsStrIter s.heap.objs.size ty x t i)) →
      ItrOut prog w O s (.str x t) (chars x) (.ref s.heap.objs.size) { s with heap := s.heap.push { cls := .type ty, data := .fields #[.str x t, .int 0 0] } } := fun ty hty hW => by
    refine ⟨kp_push _ _, s.heap.objs.size, [s.heap.objs.size], SignAt x, fun i h => h.IsStrIter s.heap.objs.size ty x t i, rfl, fun i h z => ?_, fun A' hA => ?_, by rw [hlen]; exact hz, ⟨_, Heap.get?_push_size _ rfl, rfl, rfl⟩, get_size _, fun b hb => ?_, fun b hb => ?_, fun i u hu hi => ?_⟩
    · obtain ⟨o, ho, hc, _⟩ := z; exact ⟨o, ho, _, hc, hty⟩
    · rw [hlen]; exact hW A' hA
    · rw [List.mem_singleton.mp hb]; exact ⟨_, Heap.get?_push_size _ rfl⟩
    · rw [List.mem_singleton.mp hb]; exact .inl rfl
    · obtain ⟨k, u', hk, rfl⟩ := hu
      exact ⟨.str ⟨#[k]⟩, by rw [chars, List.getElem?_map, Array.getElem?_toList, hk]; rfl, .str _ _⟩
  cases ha : x.cps.all (· < 128)
  · exact wpAny_pyIter_wide ha (fin "str_iterator" (by decide) fun A' hA => Walks.strWide hA _ x t)
  · exact wpAny_pyIter_ascii ha (fin "str_ascii_iterator" (by decide) fun A' hA => Walks.strAscii hA _ x t)

section
variable {c : Cx} {Γ : Sig} {ρ : List Ent}
/-- what is left of a loop -/
def Lp (c : Cx) (Γ : Sig) (t : Expr) (body : List Stmt) (Q : Post) : List D → List Ent → Prop
  | [], ρ => Q .next ρ
  | d :: ds, ρ => ∃ ρ₁, Asg c Γ ρ t d ρ₁ ∧ Ex c Γ ρ₁ body (fun f ρ' => match f with | .next => Lp c Γ t body Q ds ρ' | .cont => Lp c Γ t body Q ds ρ' | .brk => Q .next ρ' | .ret d => Q (.ret d) ρ')
theorem Ex1.forE {t iter : Expr} {body : List Stmt} {pos : Pos} {d : D} {ds : List D} {Q : Post} (he : Es c Γ ρ iter d) (hi : Itr d ds) (hl : Lp c Γ t body Q ds ρ)
    (ht : ∀ it v, letOwnedTupleGo t it v = pure () := by intro _ _; rfl) (hf : ∀ x, foldedSetIterable iter c.env x = pure x := by intro _; rfl) : Ex1 c Γ ρ (.For t iter body [] pos) Q := Hid.mk fun K s O x => by
  refine wpAny_For (wpAny_mono (he.out K s O x) (fun v s₁ q => wpAny_mono (hi _ _ _ O s₁ v K.room.hand (Dom.keep x.dom q.1) (.s q.2)) (fun it s₂ q' => ?_) nono) nono) hf
  obtain ⟨k, I, fp, P, T, rfl, hin', hW, hsz, hT, hI, hfp, hsrc, hP⟩ := q'
  have W := hW c.A K.room.hand
  have hIO : ¬ O I := Dom.fresh (Dom.keep x.dom q.1) hI
  have x₂ := (x.keeps q.1).keeps k
  have hfO : ∀ b ∈ fp, ¬ O b := fun b hb => (hsrc b hb).elim (fun e => e ▸ hIO) fun e => by
    have z := q.2
    cases z with
    | none => cases e
    | bool => cases e
    | int => cases e
    | str => cases e
    | bytes => cases e
    | list h _ _ => cases e; exact h
    | tup h _ _ => cases e; exact h
    | rng h _ => cases e; exact h
    | obj h _ _ _ _ => cases e; exact h
  refine codeAny_forLoop (fun n s' => ∃ i ρ' O', n = ds.length + 1 - i ∧ i ≤ ds.length ∧ St c Γ O' ρ' s' ∧ (∀ b o, ¬ O b → b ≠ I → s₂.heap.get? b = some o → s'.heap.get? b = some o) ∧ (∀ b, O' b → O b ∨ s₂.heap.get? b = none) ∧ T i s'.heap ∧ Lp c Γ t body Q (ds.drop i) ρ')
    (fun n s' z => ?_) (ds.length + 1) ⟨0, ρ, O, rfl, Nat.zero_le _, x₂, fun _ _ _ _ e => e, fun _ q => .inl q, hT, by simpa using hl⟩ (ht _)
  obtain ⟨i, ρ', O', rfl, hin, y, fk, fs, hTi, hlp⟩ := z
  have fcE : ∀ {O'' : Addr → Prop} {s'' : Shared}, (∀ b o, ¬ O b → b ≠ I → s₂.heap.get? b = some o → s''.heap.get? b = some o) → (∀ b, O'' b → O b ∨ s₂.heap.get? b = none) → Fc O s O'' s'' := fun a b =>
    ⟨fun z o n e => a z o n (fun e' => by rw [e', none_of_kh (kp_kh q.1) hI] at e; cases e) (kp_kh k z o (kp_kh q.1 z o e)), fun z h => (b z h).imp id fun e => none_of_kh (kp_kh q.1) (none_of_kh (kp_kh k) e)⟩
  have hIO' : ¬ O' I := fun h => (fs I h).elim hIO fun e => by obtain ⟨o, z⟩ := hfp I (W.sub I (List.mem_singleton.mpr rfl)); rw [e] at z; cases z
  have hIB : c.hB.get? I = none := none_of_kh (x.keeps q.1).keep hI
  have hIc := (x.keeps q.1).cellAt K hI
  have hIe : ∃ o, s₂.heap.get? I = some o := hfp I (W.sub I (List.mem_singleton.mpr rfl))
  by_cases hlt : i < ds.length
  · refine W.item i s' _ _ hlt hTi fun v h' tk hPv hT' hk => ?_
    obtain ⟨d', hd, rd⟩ := hP i v hPv hlt
    have hdrop : ds.drop i = d' :: ds.drop (i + 1) := by rw [List.drop_eq_getElem_cons hlt]; congr 1; rw [List.getElem?_eq_getElem hlt] at hd; exact Option.some.inj hd
    rw [hdrop] at hlp
    obtain ⟨ρ₁, ha, hb⟩ := hlp
    -- the iterator has moved on
    have kI : ∀ b o, b ≠ I → s'.heap.get? b = some o → h'.get? b = some o := fun b o n e => hk b o (fun m => n (List.mem_singleton.mp m)) e
    obtain ⟨oI, hoI, hnI⟩ := hin' _ _ hTi
    have y' : St c Γ O' ρ' { s' with heap := h', toks := tk } := y.moved K hIO' hIB hIc hoI hnI fun b o n e => kI b o n e
    refine wpAny_mono (ha K _ O' v y' (rd.mono fun a o n e => ⟨fun q => (fs a q).elim (fun z => n (.inl z)) (fun z => by rw [z] at e; cases e), kI a o (fun z => n (.inr z)) (fk a o (fun z => n (.inl z)) (fun z => n (.inr z)) e)⟩)) (fun _ s₃ q₃ => ?_) nono
    refine wpAny_mono (hb.out K s₃ O' q₃.1) (fun f s₄ q₄ => ?_) nono
    obtain ⟨f', ρ₄, O₄, hf, y₄, fc, hq⟩ := q₄
    have fc' := q₃.2.1.tr fc
    have a1 : ∀ b o, ¬ O b → b ≠ I → s₂.heap.get? b = some o → s₄.heap.get? b = some o := fun b o n nI e => fc'.kp b o (fun z => (fs b z).elim n fun z => by rw [z] at e; cases e) (kI b o nI (fk b o n nI e))
    have a2 : ∀ b, O₄ b → O b ∨ s₂.heap.get? b = none := fun b h => (fc'.sub b h).elim (fs b) fun e => by
      by_cases hb : O b
      · exact .inl hb
      · cases e2 : s₂.heap.get? b with
        | none => exact .inr rfl
        | some o =>
          by_cases e3 : b = I
          · obtain ⟨o', ho', _⟩ := hin' _ _ hT'
            rw [e3, show ({ s' with heap := h', toks := tk } : Shared).heap.get? I = h'.get? I from rfl, ho'] at e; cases e
          · have := kI b o e3 (fk b o hb e3 e2)
            rw [show ({ s' with heap := h', toks := tk } : Shared).heap.get? b = h'.get? b from rfl, this] at e; cases e
    have hT4 : T (i + 1) s₄.heap := W.frame _ _ _ hT' fun b hb o e => fc'.kp b o (fun z => (fs b z).elim (hfO b hb) fun z => by obtain ⟨o, z'⟩ := hfp b hb; rw [z] at z'; cases z') e
    cases f <;> cases f' <;> first | exact hf.elim | skip
    · exact ⟨_, by omega, i + 1, ρ₄, O₄, rfl, hlt, y₄, a1, a2, hT4, hq⟩
    · exact ⟨.next, ρ₄, O₄, trivial, y₄, fcE a1 a2, hq⟩
    · exact ⟨_, by omega, i + 1, ρ₄, O₄, rfl, hlt, y₄, a1, a2, hT4, hq⟩
    · exact ⟨.ret _, ρ₄, O₄, hf, y₄, fcE a1 a2, hq⟩
  · have hii : i = ds.length := by omega
    subst hii
    refine W.done s' _ _ hTi fun h' tk hk => ?_
    rw [List.drop_length] at hlp
    have kI : ∀ b o, b ≠ I → s'.heap.get? b = some o → h'.get? b = some o := fun b o n e => hk b o (fun m => n (List.mem_singleton.mp m)) e
    obtain ⟨oI, hoI, hnI⟩ := hin' _ _ hTi
    have y' : St c Γ O' ρ' { s' with heap := h', toks := tk } := y.moved K hIO' hIB hIc hoI hnI fun b o n e => kI b o n e
    exact wpAny_execs_nil ⟨.next, ρ', O', trivial, y', fcE (fun b o n nI e => kI b o nI (fk b o n nI e)) fs, hlp⟩
end
end Mine

namespace Mine
open PySem PySem.Calls PyProof.Rows PySem.SeqAt

section
variable {c : Cx} {Γ : Sig} {ρ : List Ent}
/-! rows of expressions -/
def Ess (c : Cx) (Γ : Sig) (ρ : List Ent) (es : List Expr) (ds : List D) : Prop := Hid (Ok c Γ → ∀ (s : Shared) (O : Addr → Prop) (pos : Pos), St c Γ O ρ s →
  wpAny c.M c.A (spliced (backTo pos (starEach es c.env))) (fun vs s' => Keeps s s' ∧ RdL O s'.heap vs ds) no s)
def Evs (c : Cx) (Γ : Sig) (ρ : List Ent) (es : List Expr) (ds : List D) : Prop := Hid (Ok c Γ → ∀ (s : Shared) (O : Addr → Prop) (pos : Pos), St c Γ O ρ s →
  wpAny c.M c.A (spliced (backTo pos (starEach es c.env))) (fun vs s' => Keeps s s' ∧ WL O s'.heap vs ds) no s)
theorem Ess.nil : Ess c Γ ρ [] [] := Hid.mk fun _ s _ _ _ => spliced_none ⟨kp_refl s, .nil⟩
theorem Evs.nil : Evs c Γ ρ [] [] := Hid.mk fun _ s _ _ _ => spliced_none ⟨kp_refl s, .nil⟩
theorem Ess.cons {e : Expr} {es : List Expr} {d : D} {ds : List D} (h : Es c Γ ρ e d) (h' : Ess c Γ ρ es ds) (he : ∀ env, starEach (e :: es) env = (false, eval e env) :: starEach es env := by intro _; rfl) : Ess c Γ ρ (e :: es) (d :: ds) := Hid.mk
  fun K s O pos x => spliced_more (wpAny_mono (h.out K s O x) (fun v s₁ q => wpAny_mono (h'.out K s₁ O pos (x.keeps q.1)) (fun vs s₂ q' => ⟨kp_tr q.1 q'.1, .cons (q.2.keep (kp_kh q'.1)) q'.2⟩) nono) nono) (he _)
theorem Evs.cons {e : Expr} {es : List Expr} {d : D} {ds : List D} (h : Ev c Γ ρ e d) (h' : Evs c Γ ρ es ds) (he : ∀ env, starEach (e :: es) env = (false, eval e env) :: starEach es env := by intro _; rfl) : Evs c Γ ρ (e :: es) (d :: ds) := Hid.mk
  fun K s O pos x => spliced_more (wpAny_mono (h.out K s O x) (fun v s₁ q => wpAny_mono (h'.out K s₁ O pos (x.keeps q.1)) (fun vs s₂ q' => ⟨kp_tr q.1 q'.1, .cons (q.2.keep (kp_kh q'.1)) q'.2⟩) nono) nono) (he _)
theorem El.list {es : List Expr} {ds : List D} {pos : Pos} (h : Ess c Γ ρ es ds) (hz : ds.length ≤ sizeLine := by first | decide | (simp; done) | omega) : El c Γ ρ (.List es pos) ds := Hid.mk fun K s O x =>
  wpAny_List_spliced (wpAny_mono (h.out K s O pos x) (fun vs s₁ q => ⟨by rw [q.2.length]; exact hz, kp_tr q.1 (kp_push _ _), _, vs, rfl, none_of_kh (kp_kh q.1) (get_size _), ⟨_, Heap.get?_push_size _ rfl⟩, q.2.laid _⟩) nono)
theorem Es.tup {es : List Expr} {ds : List D} {k : Nat} {pos : Pos} (h : Ess c Γ ρ es ds) (hz : ds.length ≤ sizeLine := by first | decide | (simp; done) | omega) : Es c Γ ρ (.Tuple es k pos) (.tup ds) := Hid.mk fun K s O x =>
  wpAny_Tuple_spliced (wpAny_mono (h.out K s O pos x) (fun vs s₁ q => ⟨by rw [q.2.length]; exact hz, kp_tr q.1 (kp_push _ _),
    .tup (Dom.fresh (Dom.keep x.dom q.1) (get_size _)) ⟨_, Heap.get?_push_size _ rfl, rfl, _, rfl⟩ (q.2.keep fun _ _ e => Heap.get?_push_of_some _ e)⟩) nono)

/-! names of the top -/
def Gd.look (G : Gd) (x : Str) : Option Value := (G.mg x).or (G.mb x)
theorem look_name (K : Ok c Γ) {s : Shared} (hk : KH c.hB s.heap) {x : Str} {pos : Pos} {v : Value} (hl : c.G.look x = some v) (hx : c.env.kindOf x = some .globalImplicit) (hd : (x == ("__debug__" : Str)) = false) {Q : Value → Shared → Prop} {E : Value → Shared → Prop} (h : Q v s) :
    wpAny c.M c.A (eval (.Name x pos) c.env) Q E s := by
  have kt : KH c.G.hT s.heap := fun b o e => hk b o (K.top b o e)
  refine Name_function_global K.kind hx ?_ hd
  have g1 : s.heap.Ns c.env.globals c.G.mg := K.globals ▸ c.G.ns.keeps kt
  have g2 : s.heap.Ns c.env.builtins c.G.mb := K.builtins ▸ c.G.nb.keeps kt
  unfold Gd.look at hl
  cases e : c.G.mg x with
  | some u => rw [e] at hl; cases hl; exact loadGlobal_global g1 e h
  | none => rw [e] at hl; exact loadGlobal_builtin g1 e g2 hl h
theorem Es.gstr {x y : Str} {pos : Pos} {t : Tok} (hl : c.G.look x = some (.str y t)) (hx : c.env.kindOf x = some .globalImplicit) (hd : (x == ("__debug__" : Str)) = false := by decide) : Es c Γ ρ (.Name x pos) (.str y) := Hid.mk fun K s _ z =>
  look_name K z.keep hl hx hd ⟨kp_refl s, .str _ _⟩

/-! calls -/
theorem evalArgs_all {M : Model} {A : Around} {E : Value → Shared → Prop} {s : Shared} {f : Value} {args : List (Bool × Sem Value)} {Q : PySem.Args → Shared → Prop} (hp : args.any (·.1) = false)
    (h : wpAny M A (spliced args) (fun vs s' => Q ⟨vs, []⟩ s') E s) : wpAny M A (evalArgs f true args []) Q E s := by
  have fin : wpAny M A (spliced args >>= fun r => (pure (r, (none : Option Value)) : Sem (List Value × Option Value)) >>= fun x => holding (x.1 ++ x.2.toList) (pure ⟨x.1, []⟩ : Sem PySem.Args)) Q E s :=
    wpAny_bind (wpAny_mono h (fun vs s' h' => wpAny_bind (wpAny_pure (wpAny_holding (wpAny_pure h')))) fun _ _ x => x)
  cases args with
  | nil =>
    unfold evalArgs
    refine wpAny_bind (m := spliced []) (wpAny_mono h (fun vs s' h' => ?_) fun _ _ x => x)
    refine wpAny_bind (wpAny_pure (wpAny_holding ?_))
    exact wpAny_bind (wpAny_pure (wpAny_bind (wpAny_pure (wpAny_pure h'))))
  | cons a r =>
    obtain ⟨b, x⟩ := a
    cases b with
    | true => simp at hp
    | false => exact evalArgs_plain h
theorem noStars {es : List Expr} {ds : List D} (h : (starEach es c.env).any (·.1) = false) (pos : Pos) : (backTo pos (starEach es c.env)).any (·.1) = false := by
  unfold backTo
  rw [List.any_map]; exact h

/-- a call of something built in -/
theorem callB {id : Str} {p pos : Pos} {es : List Expr} {ds : List D} {f : Value} {P : (O : Addr → Prop) → Shared → Value → Shared → Prop} (hl : c.G.look id = some f) (hx : c.env.kindOf id = some .globalImplicit)
    (hf : (∃ i, f = .builtin i) ∨ ∃ T, f = .type T) (ha : Evs c Γ ρ es ds)
    (h : ∀ (O : Addr → Prop) (s : Shared) (vs : List Value), Room 0 c.A → Dom O s → WL O s.heap vs ds → wpAny c.M c.A (call f vs []) (P O s) no s)
    (hP : ∀ O s s₁ v s₂, Keeps s s₁ → P O s₁ v s₂ → P O s v s₂)
    (hn : (starEach es c.env).any (·.1) = false := by rfl) (hd : (id == ("__debug__" : Str)) = false := by decide) (K : Ok c Γ) {s : Shared} {O : Addr → Prop} (x : St c Γ O ρ s) : wpAny c.M c.A (eval (.Call (.Name id p) es [] pos) c.env) (P O s) no s := by
  refine wpAny_Call_Name_kw (look_name K x.keep hl hx hd ?_)
  have hp := noStars (ds := ds) hn pos
  have ev : wpAny c.M c.A (evalArgs f true (backTo pos (starEach es c.env)) []) (fun a s₁ => wpAny c.M c.A (call f ([] ++ a.pos) a.kw) (P O s) no s₁) no s :=
    evalArgs_all hp (wpAny_mono (ha.out K s O pos x) (fun vs s₁ q => wpAny_mono (h O s₁ vs K.r0 (Dom.keep x.dom q.1) q.2) (fun v s₂ z => hP O s s₁ v s₂ q.1 z) nono) nono)
  rcases hf with ⟨i, rfl⟩ | ⟨T, rfl⟩
  · exact callWith_builtin hp ev
  · exact PySem.callWith_type hp ev
theorem Es.callB {id : Str} {p pos : Pos} {es : List Expr} {ds : List D} {f : Value} {d : D} (hl : c.G.look id = some f) (hx : c.env.kindOf id = some .globalImplicit)
    (hf : (∃ i, f = .builtin i) ∨ ∃ T, f = .type T) (ha : Evs c Γ ρ es ds) (h : Cal f ds d) (hn : (starEach es c.env).any (·.1) = false := by rfl) (hd : (id == ("__debug__" : Str)) = false := by decide) :
    Es c Γ ρ (.Call (.Name id p) es [] pos) d := Hid.mk fun K _ _ x =>
  Mine.callB (P := fun O s => OutS s O d) hl hx hf ha (fun O s vs R D w => h _ _ _ O s vs R D w) (fun _ _ _ _ _ k z => ⟨kp_tr k z.1, z.2⟩) hn hd K x

/-- what a def of the text gives back -/
def FnC (G : Gd) (lv : Nat) (f : Addr) (ds : List D) (d : D) : Prop := ∀ (A : Around) (O : Addr → Prop) (s : Shared) (vs : List Value), Room lv A → KH G.hT s.heap → Dom O s → RdL O s.heap vs ds →
  wpAny G.M A (call (.ref f) vs []) (OutS s O d) no s
theorem Es.callF {id : Str} {p pos : Pos} {es : List Expr} {ds : List D} {f : Addr} {o : Obj} {fd : FuncData} {lv : Nat} {d : D} (hl : c.G.look id = some (.ref f)) (hx : c.env.kindOf id = some .globalImplicit)
    (ho : c.G.hT.get? f = some o) (hfd : o.data = .func fd) (hlv : lv ≤ c.lv) (ha : Ess c Γ ρ es ds) (h : FnC c.G lv f ds d) (hn : (starEach es c.env).any (·.1) = false := by rfl) (hd : (id == ("__debug__" : Str)) = false := by decide) :
    Es c Γ ρ (.Call (.Name id p) es [] pos) d := Hid.mk fun K s O x => by
  refine wpAny_Call_Name_kw (look_name K x.keep hl hx hd ?_)
  refine callWith_function (o := o) (fd := fd) (evalArgs_all (noStars (ds := ds) hn pos) (wpAny_mono (ha.out K s O pos x) (fun vs s₁ q => ?_) nono))
  have kt : KH c.G.hT s₁.heap := fun b o e => kp_kh q.1 b o (x.keep b o (K.top b o e))
  exact ⟨⟨kt f o ho, hfd⟩, wpAny_mono (h c.A O s₁ vs (K.room.mono hlv) kt (Dom.keep x.dom q.1) q.2) (fun v s₂ z => ⟨kp_tr q.1 z.1, z.2⟩) nono⟩

/-! statements -/
theorem Ex1.ret {e : Expr} {pos : Pos} {d : D} {Q : Post} (h : Es c Γ ρ e d) (hq : Q (.ret d) ρ) : Ex1 c Γ ρ (.Return (some e) pos) Q := Hid.mk fun K s O x =>
  wpAny_Return_some (wpAny_mono (h.out K s O x) (fun v s' q => ⟨.ret d, ρ, O, q.2.less x.base, x.keeps q.1, Fc.ofKeeps q.1, hq⟩) nono)
theorem Ex1.ife {test : Expr} {body orelse : List Stmt} {pos : Pos} {b : Bool} {Q : Post} (h : Tr c Γ ρ test b) (h₁ : b = true → Ex c Γ ρ body Q) (h₂ : b = false → Ex c Γ ρ orelse Q) : Ex1 c Γ ρ (.If test body orelse pos) Q := Hid.mk fun K s O x =>
  wpAny_If (wpAny_mono (h.out K s O x) (fun r s' q => by
    obtain ⟨k, rfl⟩ := q
    cases r with
    | true => exact wpAny_mono ((h₁ rfl).out K s' O (x.keeps k)) (fun _ _ z => z.tr (Fc.ofKeeps k)) nono
    | false => exact wpAny_mono ((h₂ rfl).out K s' O (x.keeps k)) (fun _ _ z => z.tr (Fc.ofKeeps k)) nono) nono)
theorem Ex1.brk {pos : Pos} {Q : Post} (hq : Q .brk ρ) : Ex1 c Γ ρ (.Break pos) Q := Hid.mk fun _ s O x => by
  show wpAny _ _ (standAt pos >>= fun _ => pure Flow.brk) _ _ _
  exact wpAny_bind (wpAny_standAt (wpAny_pure ⟨.brk, ρ, O, trivial, x, Fc.refl O s, hq⟩))
theorem Ex1.asrt {test : Expr} {msg : Option Expr} {pos : Pos} {Q : Post} (h : Tr c Γ ρ test true) (hq : Q .next ρ) : Ex1 c Γ ρ (.Assert test msg pos) Q := Hid.mk fun K s O x => by
  show wpAny _ _ (standAt pos >>= fun _ => isTrue test c.env (eval test c.env) >>= fun b => if b then pure Flow.next else assertFails test.pos (evalOpt msg c.env)) _ _ _
  refine wpAny_bind (wpAny_standAt (wpAny_bind (wpAny_mono (h.out K s O x) (fun r s' q => ?_) nono)))
  obtain ⟨k, rfl⟩ := q
  exact wpAny_pure ⟨.next, ρ, O, trivial, x.keeps k, Fc.ofKeeps k, hq⟩
theorem Ex1.aug {x : Str} {px pos : Pos} {op : Operator} {e : Expr} {d₁ d₂ d : D} {ρ' : List Ent} {Q : Post} (p : At Γ.vars ρ x (.dat d₁)) (h : Ev c Γ ρ e d₂) (ho : Inp op d₁ d₂ d) (p' : Put Γ.vars ρ x (.dat d) ρ') (hq : Q .next ρ') :
    Ex1 c Γ ρ (.AugAssign (.Name x px) op e pos) Q := Hid.mk fun K s O y =>
  wpAny_AugAssign_Name (st_load K y p (by intro q; cases q) fun v V F E N hv w => by
    obtain ⟨v', e', r⟩ := w; cases e'
    refine wpAny_mono (h.out K s O y) (fun u s₁ q => ?_) nono
    have y₁ := y.keeps q.1
    refine wpAny_mono (ho _ _ _ O s₁ v u K.r0 y₁.dom (.s (r.keep (kp_kh q.1))) q.2) (fun z s₂ q' => ?_) nono
    exact st_put K (y₁.keeps q'.1) p' q'.2 fun s₃ y₃ f _ => ⟨.next, ρ', O, trivial, y₃, (Fc.ofKeeps (kp_tr q.1 q'.1)).tr f, hq⟩)
theorem Ex1.three {x y z : Str} {px py pz pos : Pos} {e : Expr} {d : D} {ρ₁ ρ₂ ρ₃ : List Ent} {Q : Post} (h : Es c Γ ρ e d) (p₁ : Put Γ.vars ρ x (.dat d) ρ₁) (p₂ : Put Γ.vars ρ₁ y (.dat d) ρ₂) (p₃ : Put Γ.vars ρ₂ z (.dat d) ρ₃) (hq : Q .next ρ₃) :
    Ex1 c Γ ρ (.Assign [.Name x px, .Name y py, .Name z pz] e pos) Q := Hid.mk fun K s O w =>
  wpAny_Assign_three (wpAny_mono (h.out K s O w) (fun v s₁ q => wpAny_mono (Asg.name p₁ K s₁ O v (w.keeps q.1) q.2) (fun _ s₂ q₂ => by
    have r₂ := q.2.mono fun a o n e => ⟨n, q₂.2.1.kp a o n e⟩
    refine wpAny_mono (Asg.name p₂ K s₂ O v q₂.1 r₂) (fun _ s₃ q₃ => ?_) nono
    have r₃ := r₂.mono fun a o n e => ⟨n, q₃.2.1.kp a o n e⟩
    exact wpAny_mono (Asg.name p₃ K s₃ O v q₃.1 r₃) (fun _ s₄ q₄ => ⟨.next, ρ₃, O, trivial, q₄.1, (((Fc.ofKeeps q.1).tr q₂.2.1).tr q₃.2.1).tr q₄.2.1, hq⟩) nono) nono) nono)

/-- one more at the end of an own list -/
theorem Ex1.append {x : Str} {px apos cpos pos : Pos} {e : Expr} {ds : List D} {d : D} {ρ' : List Ent} {Q : Post} (p : At Γ.vars ρ x (.mlist ds)) (h : Es c Γ ρ e d) (p' : Put Γ.vars ρ x (.mlist (ds ++ [d])) ρ') (hz : ds.length < sizeLine) (hq : Q .next ρ')
    (hline : (apos.endLine == cpos.line) = true := by rfl) (he : starEach [e] c.env = [(false, eval e c.env)] := by rfl) :
    Ex1 c Γ ρ (.Expr (.Call (.Attribute (.Name x px) "append" apos) [e] [] cpos) pos) Q := Hid.mk fun K s O y => by
  have ht : backTo cpos (starEach [e] c.env) = [(false, eval e c.env)] := by rw [he]; rfl
  refine wpAny_Expr (wpAny_Call_append rfl (by rw [ht]; rfl) hline ht (st_name K y p (by intro q; cases q) fun v V F En N hv w => ?_)) (by unfold interactive; rw [K.kind]; rfl) (by rfl)
  obtain ⟨a, vs, e', ow, hl, r⟩ := w; cases e'
  obtain ⟨n0, hl0⟩ := id hl
  refine ⟨a, vs.toArray, rfl, ⟨_, n0, hl0, rfl, rfl, rfl⟩, ?_⟩
  refine wpAny_mono (h.out K s O y) (fun u s₁ q => ?_) nono
  have y₁ := y.keeps q.1
  have hl₁ := hl.at (kp_kh q.1 a)
  refine wpAny_list_append_plain hl₁ (fun h' hl' hs => ?_) (by rw [List.size_toArray, r.length]; exact Nat.le_of_lt hz)
  have ee := hs.extBut
  have er : h'.PlainList a (vs ++ [u]).toArray := by rw [List.push_toArray] at hl'; exact hl'
  have y₂ : St c Γ O ρ' { s₁ with heap := h', toks := s₁.toks } := by
    refine y₁.upd K p p' (F.keep (kp_kh q.1)) (En.imp fun _ _ z => z.keep (kp_kh q.1)) N (a := a) (by rw [hv]; exact .head _) (by rw [hv]; rfl) ow ee ?_ ?_
    · obtain ⟨n, z⟩ := hl'; exact ⟨_, z⟩
    · exact ⟨a, vs ++ [u], hv, ow, er, ((r.keep (kp_kh q.1)).extBut ow.o ee).append (.cons (q.2.extBut ow.o ee) .nil)⟩
  exact ⟨.next, ρ', O, trivial, y₂, (Fc.ofKeeps q.1).tr (Fc.ext ow.o ee), hq⟩
end
end Mine

namespace Mine
open PySem PySem.Calls PyProof.Rows PySem.SeqAt

theorem set_plain {A : Around} {E : Value → Shared → Prop} {prog : Program} {w : World} {s : Shared} {l : Addr} {vs : List Value} {k : Int} {t : Tok} {v : Value} {Q : Unit → Shared → Prop} (hl : s.heap.PlainList l vs.toArray) (h0 : 0 ≤ k) (hfit : k < 2 ^ 63) (hn : k < vs.length)
    (hQ : ∀ h', h'.PlainList l (vs.set k.toNat v).toArray → Heap.SameBut l s.heap h' → Q () { s with heap := h' }) : wpAny (model prog w) A (setItem (.ref l) (.int k t) v) Q E s := by
  obtain ⟨n, ho⟩ := hl
  refine PySem.W.ki_setAt ho h0 hfit (by rw [List.size_toArray]; exact hn) (hQ _ ?_ (Heap.SameBut.update ..))
  have e : Obj.mapSeq (fun x => x.setIfInBounds k.toNat v) { cls := .type "list", data := .seq vs.toArray n } = { cls := .type "list", data := .seq (vs.set k.toNat v).toArray n } := by
    have e1 : vs.toArray.setIfInBounds k.toNat v = (vs.set k.toNat v).toArray := by apply Array.toList_inj.mp; simp
    simp only [Obj.mapSeq, e1]
    simp
  exact ⟨n, by rw [Heap.get?_update_self _ ho (by rw [e]; rfl)]; rw [e]⟩

section
variable {c : Cx} {Γ : Sig} {ρ : List Ent}
/-- an own list, one item anew -/
theorem set_own (K : Ok c Γ) {s s₀ : Shared} {O : Addr → Prop} (y : St c Γ O ρ s₀) {x : Str} {ds : List D} {ρ' : List Ent} {a : Addr} {vs : List Value} {V : Str → Option Value} (p : At Γ.vars ρ x (.mlist ds)) (F : Frm c Γ s₀.heap V) (En : Ents c O s₀.heap V Γ.vars ρ) (N : (muts V Γ.vars ρ).Nodup)
    (hv : V x = some (.ref a)) (ow : Own c O a) (hl : s₀.heap.PlainList a vs.toArray) (r : RdL O s₀.heap vs ds) (k : Keeps s₀ s) {i : Int} {j : Nat} (hi : i = j) (hj : j < ds.length) (hz : j < 2 ^ 63) {v : Value} {d : D} (rv : Rd O s.heap v d) (p' : Put Γ.vars ρ x (.mlist (ds.set j d)) ρ')
    {t : Tok} {Q : Unit → Shared → Prop} (h : ∀ s', St c Γ O ρ' s' → Fc O s O s' → Q () s') : wpAny c.M c.A (setItem (.ref a) (.int i t) v) Q no s := by
  subst hi
  have e := r.length
  refine set_plain (hl.at (kp_kh k a)) (by omega) (by omega) (by omega) fun h' hl' hs => ?_
  have ee := hs.extBut
  refine h _ ?_ (Fc.ext (tk := s.toks) ow.o ee)
  refine (y.keeps k).upd (tk := s.toks) K p p' (F.keep (kp_kh k)) (En.imp fun _ _ z => z.keep (kp_kh k)) N (a := a) (by rw [hv]; exact .head _) (by rw [hv]; rfl) ow ee (let ⟨n, z⟩ := hl'; ⟨_, z⟩) ?_
  exact ⟨a, vs.set j v, hv, ow, by simpa using hl', ((r.keep (kp_kh k)).extBut ow.o ee).set (rv.extBut ow.o ee)⟩
theorem Ex1.setItem {x : Str} {px spos pos : Pos} {e ei : Expr} {ds : List D} {d : D} {i : Int} {j : Nat} {ρ' : List Ent} {Q : Post} (p : At Γ.vars ρ x (.mlist ds)) (h : Es c Γ ρ e d) (hi : Ev c Γ ρ ei (.int i)) (hij : i = j) (hj : j < ds.length) (hz : ds.length < 2 ^ 63)
    (p' : Put Γ.vars ρ x (.mlist (ds.set j d)) ρ') (hq : Q .next ρ') (hs : swapsWith e (some (.Subscript (.Name x px) ei spos)) pos.line c.env = pure false := by rfl) : Ex1 c Γ ρ (.Assign [.Subscript (.Name x px) ei spos] e pos) Q := Hid.mk fun K s O y =>
  wpAny_Assign_Subscript (wpAny_mono (h.out K s O y) (fun v s₁ q => by
    have y₁ := y.keeps q.1
    refine st_name K y₁ p (by intro q; cases q) fun u V F En N hv w => ?_
    obtain ⟨a, vs, e', ow, hl, r⟩ := w; cases e'
    refine wpAny_mono (hi.out K s₁ O y₁) (fun iv s₂ q₂ => ?_) nono
    obtain ⟨t, rfl⟩ := q₂.2.intE
    exact set_own K y₁ p F En N hv ow hl r q₂.1 hij hj (by omega) (q.2.keep (kp_kh q₂.1)) p' fun s' y' f => ⟨.next, ρ', O, trivial, y', (Fc.ofKeeps (kp_tr q.1 q₂.1)).tr f, hq⟩) nono) hs
theorem Ex1.augItem {x : Str} {px spos pos : Pos} {op : Operator} {e ei : Expr} {ds : List D} {d₁ d₂ d : D} {i : Int} {j : Nat} {ρ' : List Ent} {Q : Post} (p : At Γ.vars ρ x (.mlist ds)) (hi : Ev c Γ ρ ei (.int i)) (hij : i = j) (hj : ds[j]? = some d₁) (hz : ds.length < 2 ^ 63)
    (h : Ev c Γ ρ e d₂) (ho : Inp op d₁ d₂ d) (p' : Put Γ.vars ρ x (.mlist (ds.set j d)) ρ') (hq : Q .next ρ')
    (ha : ∀ ov iv new, augStore ei ov iv new = (do holding [new, ov, iv] (PySem.setItem ov iv new); release [new, ov, iv] []; pure .next) := by intros; rfl) : Ex1 c Γ ρ (.AugAssign (.Subscript (.Name x px) ei spos) op e pos) Q := Hid.mk fun K s O y =>
  wpAny_AugAssign_SubscriptAny (st_name K y p (by intro q; cases q) fun u V F En N hv w => by
    obtain ⟨a, vs, e', ow, hl, r⟩ := w; cases e'
    have hlt : j < ds.length := (List.getElem?_eq_some_iff.mp hj).1
    refine wpAny_mono (hi.out K s O y) (fun iv s₁ q₁ => ?_) nono
    obtain ⟨t, rfl⟩ := q₁.2.intE
    obtain ⟨v, hv', rv⟩ := (r.keep (kp_kh q₁.1)).get hj
    refine wpAny_getItem_list (isList_at hl.isList (kp_kh q₁.1 a)) (by omega) (by omega) (x := v) (by subst hij; simpa using hv') ?_
    have y₁ := y.keeps q₁.1
    refine wpAny_mono (h.out K s₁ O y₁) (fun v₂ s₂ q₂ => ?_) nono
    have y₂ := y₁.keeps q₂.1
    refine wpAny_mono (ho _ _ _ O s₂ v v₂ K.r0 y₂.dom (.s (rv.keep (kp_kh q₂.1))) q₂.2) (fun new s₃ q₃ => ?_) nono
    exact set_own K y p F En N hv ow hl r (kp_tr (kp_tr q₁.1 q₂.1) q₃.1) hij hlt (by omega) q₃.2 p' fun s' y' f => ⟨.next, ρ', O, trivial, y', (Fc.ofKeeps (kp_tr (kp_tr q₁.1 q₂.1) q₃.1)).tr f, hq⟩) ha

/-! dicts of ints -/
theorem Ex1.dictNew {x : Str} {px dp pos : Pos} {ρ' : List Ent} {Q : Post} (hp : Put Γ.vars ρ x (.mdict []) ρ') (hq : Q .next ρ') : Ex1 c Γ ρ (.Assign [.Name x px] (.Dict [] [] dp) pos) Q := Hid.mk fun K s O y => by
  refine wpAny_Assign_Name ?_ (by rfl)
  show wpAny _ _ (standAt dp >>= fun _ => newDict) _ _ _
  refine wpAny_bind (wpAny_standAt (wpAny_newObj_type ?_))
  have k : Keeps s { s with heap := s.heap.push { cls := .type "dict", data := .dict #[] } } := kp_push _ _
  have hn := get_size s.heap
  obtain ⟨y1, V, F, En, N, hoff⟩ := y.own k hn ⟨_, Heap.get?_push_size _ rfl⟩
  refine st_storeV K y1 hp ⟨_, rfl, own_new K y hn (.inr rfl), _, Heap.IntMap.new _, Heap.DictLe.new _, fun k d e => by cases e⟩ F En N (fun b hb => by rw [List.mem_singleton.mp hb]; exact hoff) (by exact List.nodup_cons.mpr ⟨by simp, .nil⟩) fun s' z f _ => ?_
  exact ⟨.next, ρ', _, trivial, z, Fc.tr ⟨fun b o _ e => kp_kh k b o e, fun b q => q.elim .inl fun e => .inr (e ▸ hn)⟩ f, hq⟩
theorem Ex1.dictSet {x : Str} {px spos pos : Pos} {e ei : Expr} {m : List (Int × D)} {d : D} {i : Int} {ρ' : List Ent} {Q : Post} (p : At Γ.vars ρ x (.mdict m)) (h : Es c Γ ρ e d) (hi : Ev c Γ ρ ei (.int i)) (hz : m.length < sizeLine)
    (p' : Put Γ.vars ρ x (.mdict ((i, d) :: m)) ρ') (hq : Q .next ρ') (hs : swapsWith e (some (.Subscript (.Name x px) ei spos)) pos.line c.env = pure false := by rfl) : Ex1 c Γ ρ (.Assign [.Subscript (.Name x px) ei spos] e pos) Q := Hid.mk fun K s O y =>
  wpAny_Assign_Subscript (wpAny_mono (h.out K s O y) (fun v s₁ q => by
    have y₁ := y.keeps q.1
    refine st_name K y₁ p (by intro q; cases q) fun u V F En N hv w => ?_
    obtain ⟨a, e', ow, f, hm, hle, hf⟩ := w; cases e'
    refine wpAny_mono (hi.out K s₁ O y₁) (fun iv s₂ q₂ => ?_) nono
    obtain ⟨t, rfl⟩ := q₂.2.intE
    have k := q₂.1
    have hm₂ : s₂.heap.IntMap a f := let ⟨o, es, ep, ho, r⟩ := hm; ⟨o, es, ep, kp_kh k a o ho, r⟩
    have hle₂ : s₂.heap.DictLe a m.length := let ⟨o, es, ep, ho, r⟩ := hm; hle.of_same ho (kp_kh k a o ho)
    refine wpAny_setItem_intMap_le hm₂ hle₂ (Nat.le_of_lt hz) fun h' hm' hle' hs => ?_
    have ee := hs.extBut
    refine ⟨.next, ρ', O, trivial, ?_, (Fc.ofKeeps (kp_tr q.1 k)).tr (Fc.ext ow.o ee), hq⟩
    refine (y₁.keeps k).upd K p p' (F.keep (kp_kh k)) (En.imp fun _ _ z => z.keep (kp_kh k)) N (a := a) (by rw [hv]; exact .head _) (by rw [hv]; rfl) ow ee (let ⟨o, es, ep, ho, r⟩ := hm'; ⟨o, ho⟩) ?_
    refine ⟨a, hv, ow, _, hm', hle', fun k' d' e' => ?_⟩
    rw [List.lookup_cons] at e'
    by_cases hk : k' = i
    · subst hk
      rw [beq_self_eq_true] at e'; cases e'
      exact ⟨v, if_pos rfl, (q.2.keep (kp_kh k)).extBut ow.o ee⟩
    · rw [show (k' == i) = false from beq_false_of_ne hk] at e'
      obtain ⟨u, hu, ru⟩ := hf k' d' e'
      exact ⟨u, by rw [if_neg hk]; exact hu, (ru.keep (kp_kh k)).extBut ow.o ee⟩) nono) hs
theorem dict_get (K : Ok c Γ) {x : Str} {px pos : Pos} {ei : Expr} {m : List (Int × D)} {d : D} {i : Int} (p : At Γ.vars ρ x (.mdict m) ∨ At Γ.vars ρ x (.bdict m)) (hi : Ev c Γ ρ ei (.int i)) (hm : m.lookup i = some d) (hsl : ∀ l u p, ei ≠ .Slice l u none p)
    {s : Shared} {O : Addr → Prop} (y : St c Γ O ρ s) : wpAny c.M c.A (eval (.Subscript (.Name x px) ei pos) c.env) (OutS s O d) no s := by
  have fin : ∀ a : Addr, DictRd O s.heap a m → wpAny c.M c.A (eval ei c.env) (fun iv s₂ => wpAny c.M c.A (subscriptTail (.Name x px) ei (.ref a) iv) (OutS s O d) no s₂) no s := fun a hd => by
    refine wpAny_mono (hi.out K s O y) (fun iv s₂ q₂ => ?_) nono
    obtain ⟨t, rfl⟩ := q₂.2.intE
    obtain ⟨f, hm', hle, hf⟩ := hd.at (O' := O) (kp_kh q₂.1 a) fun _ _ z => z.keep (kp_kh q₂.1)
    obtain ⟨v, hv, rv⟩ := hf i d hm
    refine tail_any (ops := [.ref a, .int i t]) hm'.typeIs slot_dict_getitem.lookup (wpAny_getItem_intMap hm' hv ⟨kp_tr q₂.1 (kp_tok _ _), rv⟩) ?_
    unfold subscripted
    split
    · exact absurd rfl (hsl _ _ _)
    · rename_i q; cases q
    · rfl
  refine Subscript_ ?_
  rcases p with p | p
  · exact st_name K y p (by intro q; cases q) fun u V F En N hv w => by
      obtain ⟨a, e', ow, hd⟩ := w; cases e'; exact fin a hd
  · exact st_name K y p (by intro q; cases q) fun u V F En N hv w => by
      obtain ⟨a, e', ow, hd⟩ := w; cases e'; exact fin a hd
theorem Es.bget {x : Str} {px pos : Pos} {ei : Expr} {m : List (Int × D)} {d : D} {i : Int} (p : At Γ.vars ρ x (.bdict m)) (hi : Ev c Γ ρ ei (.int i)) (hm : m.lookup i = some d) (hsl : ∀ l u p, ei ≠ .Slice l u none p := by intro _ _ _ q; cases q) : Es c Γ ρ (.Subscript (.Name x px) ei pos) d := Hid.mk
  fun K _ _ y => dict_get K (.inr p) hi hm hsl y

/-! while -/
theorem Ex1.whileE {test : Expr} {body : List Stmt} {pos : Pos} {Q : Post} (I : Nat → List Ent → Prop) (n : Nat) (h0 : I n ρ)
    (turn : ∀ n ρ, I n ρ → ∃ b, Tr c Γ ρ test b ∧ (b = false → Q .next ρ) ∧ (b = true → Ex c Γ ρ body (fun f ρ' => match f with | .next => ∃ m, m < n ∧ I m ρ' | .cont => ∃ m, m < n ∧ I m ρ' | .brk => Q .next ρ' | .ret d => Q (.ret d) ρ'))) :
    Ex1 c Γ ρ (.While test body [] pos) Q := Hid.mk fun K s O x => by
  refine wpAny_While ?_
  refine codeAny_whileLoop (fun n s' => ∃ ρ' O', I n ρ' ∧ St c Γ O' ρ' s' ∧ Fc O s O' s') (fun n s' z => ?_) n ⟨ρ, O, h0, x, Fc.refl O s⟩
  obtain ⟨ρ', O', hI, y, fc⟩ := z
  obtain ⟨b, hb, h1, h2⟩ := turn n ρ' hI
  refine wpAny_mono (hb.out K s' O' y) (fun r s₁ q => ?_) nono
  obtain ⟨k, rfl⟩ := q
  cases r with
  | false => exact wpAny_execs_nil ⟨.next, ρ', O', trivial, y.keeps k, fc.tr (Fc.ofKeeps k), h1 rfl⟩
  | true =>
    refine wpAny_mono ((h2 rfl).out K s₁ O' (y.keeps k)) (fun f s₂ q => ?_) nono
    obtain ⟨f', ρ₂, O₂, hf, y₂, fc₂, hq⟩ := q
    have fc' := (fc.tr (Fc.ofKeeps k)).tr fc₂
    cases f <;> cases f' <;> first | exact hf.elim | skip
    · obtain ⟨m, hm, hI'⟩ := hq; exact ⟨m, hm, ρ₂, O₂, hI', y₂, fc'⟩
    · exact ⟨.next, ρ₂, O₂, trivial, y₂, fc', hq⟩
    · obtain ⟨m, hm, hI'⟩ := hq; exact ⟨m, hm, ρ₂, O₂, hI', y₂, fc'⟩
    · exact ⟨.ret _, ρ₂, O₂, hf, y₂, fc', hq⟩
end
end Mine

namespace Mine
open PySem PySem.Calls PyProof.Rows PySem.SeqAt

def tsts (ifs : List Expr) (env : Env) : Sem Bool := forIn ifs true fun c r => if r = true then do let ok ← isTrue c env (eval c env); pure (ForInStep.yield ok) else pure (ForInStep.yield r)
section
variable (it acc : Value) (env : Env) (elt : Expr) (scope : Scope) (pos : Pos) (t₁ i₁ t₂ i₂ : Expr) (f₁ f₂ : List Expr)
/-- a turn, over what it does with an item that passes -/
def turnOf (e t i : Expr) (ifs : List Expr) (depth : Nat) (body : Sem Fin → Sem Fin) : Sem Fin := standAt i.pos >>= fun _ => pyNext it >>= fun r => match r with
  | none => pure (.done .next)
  | some v => letOwnedTupleGo t it v >>= fun _ => assign t env v >>= fun _ => tsts ifs env >>= fun ok => if ok then body (again (.compLoop e depth it acc env)) else again (.compLoop e depth it acc env)
def emitOf (k : Sem Fin) : Sem Fin := (eval elt env >>= fun x => call (.builtin "list.append") [acc, x] >>= fun _ => pure ()) >>= fun _ => k
abbrev comp1 : Expr := .ListComp elt [⟨t₁, i₁, f₁, 0⟩] scope pos
abbrev comp2 : Expr := .ListComp elt [⟨t₁, i₁, f₁, 0⟩, ⟨t₂, i₂, f₂, 0⟩] scope pos
def nestOf (k : Sem Fin) : Sem Fin := eval i₂ env >>= fun x => standAt i₂.pos >>= fun _ => foldedSetIterable i₂ env x >>= fun x => holding [x] (pyIter x) >>= fun it' =>
  runOwn (.compStart (comp2 elt scope pos t₁ i₁ t₂ i₂ f₁ f₂) 1 it' acc env) env >>= fun _ => k
theorem turn_1 : compTurn (comp1 elt scope pos t₁ i₁ f₁) 0 it acc env = turnOf it acc env (comp1 elt scope pos t₁ i₁ f₁) t₁ i₁ f₁ 0 (emitOf acc env elt) := by rfl
theorem turn_20 : compTurn (comp2 elt scope pos t₁ i₁ t₂ i₂ f₁ f₂) 0 it acc env = turnOf it acc env (comp2 elt scope pos t₁ i₁ t₂ i₂ f₁ f₂) t₁ i₁ f₁ 0 (nestOf acc env elt scope pos t₁ i₁ t₂ i₂ f₁ f₂) := by rfl
theorem turn_21 : compTurn (comp2 elt scope pos t₁ i₁ t₂ i₂ f₁ f₂) 1 it acc env = turnOf it acc env (comp2 elt scope pos t₁ i₁ t₂ i₂ f₁ f₂) t₂ i₂ f₂ 1 (emitOf acc env elt) := by rfl
end

/-- how a loop of a comprehension is run -/
def LoopRuns (M : Model) (A : Around) (e : Expr) (depth : Nat) (it acc : Value) (env : Env) : Prop :=
  (Code.compLoop e depth it acc env).quiet = true ∧ ∀ (s : Shared) (Q : PySem.Fin → Shared → Prop) (E : Value → Shared → Prop), wpAny M A (compTurn e depth it acc env) Q no s → wpAny M (A.under (.compLoop e depth it acc env)) (M.den (.compLoop e depth it acc env)) Q E s
theorem loopRuns (prog : Program) (w : World) (A : Around) (elt : Expr) (gens : List Comprehension) (scope : Scope) (pos : Pos) (depth : Nat) (it acc : Value) (env : Env) : LoopRuns (model prog w) A (.ListComp elt gens scope pos) depth it acc env :=
  ⟨rfl, fun s Q E h => by
    show wpAny _ A ((compTurn (.ListComp elt gens scope pos) depth it acc env).onRaise (fun x => do noteFrame x env; theTreesLotGoes x)) _ _ s
    exact wpAny_onRaise (wpAny_mono h (fun _ _ q => q) nono)⟩

section
variable {c : Cx} {Γ : Sig} {ρ : List Ent}
def Ts (c : Cx) (Γ : Sig) (ρ : List Ent) (ifs : List Expr) (b : Bool) : Prop := Hid (Ok c Γ → ∀ (s : Shared) (O : Addr → Prop), St c Γ O ρ s → wpAny c.M c.A (tsts ifs c.env) (fun r s' => Keeps s s' ∧ r = b) no s)
theorem ts_false {M : Model} {A : Around} {E : Value → Shared → Prop} {env : Env} : ∀ (ifs : List Expr) (s : Shared) (Q : Bool → Shared → Prop), Q false s →
    wpAny M A (forIn ifs false fun c r => if r = true then do let ok ← isTrue c env (eval c env); pure (ForInStep.yield ok) else pure (ForInStep.yield r)) Q E s
  | [], _, _, h => wpAny_pure h
  | x :: r, s, Q, h => by rw [List.forIn_cons]; exact wpAny_bind (wpAny_pure (ts_false r s Q h))
theorem Ts.nil : Ts c Γ ρ [] true := Hid.mk fun _ s _ _ => wpAny_pure ⟨kp_refl s, rfl⟩
theorem Ts.cons {e : Expr} {es : List Expr} {b b' : Bool} (h : Tr c Γ ρ e b) (h' : b = true → Ts c Γ ρ es b') : Ts c Γ ρ (e :: es) (b && b') := Hid.mk fun K s O x => by
  unfold tsts
  rw [List.forIn_cons]
  refine wpAny_bind (wpAny_bind (wpAny_mono (h.out K s O x) (fun r s' q => ?_) nono))
  obtain ⟨k, rfl⟩ := q
  cases r with
  | true => exact wpAny_pure (wpAny_mono ((h' rfl).out K s' O (x.keeps k)) (fun r s'' q => ⟨kp_tr k q.1, by rw [q.2]; rfl⟩) nono)
  | false => exact wpAny_pure (ts_false es s' _ ⟨k, rfl⟩)
theorem Ts.one {e : Expr} {b : Bool} (h : Tr c Γ ρ e b) : Ts c Γ ρ [e] b := by
  have := Ts.cons (b' := true) h fun _ => Ts.nil
  rwa [Bool.and_true] at this

def Ent.calm : Ent → Bool
  | .any | .dat _ | .blist _ | .bdict _ => true
  | _ => false
def calm (ρ : List Ent) : Bool := ρ.all Ent.calm
theorem calm_muts {V : Str → Option Value} : ∀ {vars : List (Str × Bool)} {ρ : List Ent}, calm ρ = true → muts V vars ρ = []
  | [], _, _ => by simp [muts]
  | _ :: _, [], _ => by simp [muts]
  | x :: xs, e :: es, h => by
    unfold calm at h
    rw [List.all_cons, Bool.and_eq_true] at h
    unfold muts
    rw [calm_muts (ρ := es) h.2, List.append_nil]
    cases e <;> first | rfl | cases h.1

/-- the state within a comprehension: its list at L -/
structure CS (c : Cx) (Γ : Sig) (L : Addr) (O : Addr → Prop) (out : List D) (ρ : List Ent) (s : Shared) : Prop where
  st : St c Γ O ρ s
  calm : calm ρ = true
  acc : ∃ ws, s.heap.PlainList L (List.toArray ws) ∧ RdL O s.heap ws out
structure CFix (c : Cx) (Γ : Sig) (L : Addr) (O : Addr → Prop) : Prop where
  ok : Ok c Γ
  oL : O L
  fresh : c.hB.get? L = none
  ne : L ≠ c.env.locals
  offC : ∀ x b, (x, b) ∈ c.env.cells → L ≠ b
  loc : ∀ x, (x, true) ∈ Γ.vars → c.env.kindOf x = some .local
/-- what stands elsewhere stays -/
def Fd (c : Cx) (L : Addr) (s s' : Shared) : Prop := ∀ b o, b ≠ L → b ≠ c.env.locals → s.heap.get? b = some o → s'.heap.get? b = some o
theorem Fd.tr {L : Addr} {s s' s'' : Shared} (a : Fd c L s s') (b : Fd c L s' s'') : Fd c L s s'' := fun x o h1 h2 e => b x o h1 h2 (a x o h1 h2 e)
theorem Fd.ofKeeps {L : Addr} {s s' : Shared} (k : Keeps s s') : Fd c L s s' := fun b o _ _ e => kp_kh k b o e
theorem Fd.ofLc {L : Addr} {O : Addr → Prop} {s s' : Shared} (X : CFix c Γ L O) (k : Lc c Γ s s') : Fd c L s s' := fun b o _ h e => k b o h (fun x hx hn => absurd (X.loc x hx) hn) e
theorem CS.keeps {L : Addr} {O : Addr → Prop} {out : List D} {s s' : Shared} (x : CS c Γ L O out ρ s) (k : Keeps s s') : CS c Γ L O out ρ s' :=
  ⟨x.st.keeps k, x.calm, let ⟨ws, p, r⟩ := x.acc; ⟨ws, p.at (kp_kh k L), r.keep (kp_kh k)⟩⟩
/-- one more item -/
theorem emit_ {L : Addr} {O : Addr → Prop} {out : List D} {s : Shared} {elt : Expr} {y : D} (X : CFix c Γ L O) (x : CS c Γ L O out ρ s) (h : Es c Γ ρ elt y) (hz : out.length < sizeLine) {Q : PySem.Fin → Shared → Prop} {k : Sem PySem.Fin}
    (hQ : ∀ s', CS c Γ L O (out ++ [y]) ρ s' → Fd c L s s' → wpAny c.M c.A k Q no s') : wpAny c.M c.A (emitOf (.ref L) c.env elt k) Q no s := by
  refine wpAny_bind (wpAny_bind (wpAny_mono (h.out X.ok s O x.st) (fun v s₁ q => wpAny_bind ?_) nono))
  obtain ⟨ws, p, r⟩ := (x.keeps q.1).acc
  refine wpAny_list_append_plain p (fun h' hl' hs => wpAny_pure (hQ _ ?_ ?_)) (by rw [List.size_toArray, r.length]; exact Nat.le_of_lt hz)
  · have ee := hs.extBut
    refine ⟨(x.st.keeps q.1).touch X.oL X.fresh X.ne X.offC (let ⟨V, F, E, N⟩ := (x.st.keeps q.1).frm; ⟨V, F, E, N, by rw [calm_muts x.calm]; simp⟩) ee (let ⟨n, z⟩ := hl'; ⟨_, z⟩), x.calm, ws ++ [v], ?_, (r.extBut X.oL ee).append (.cons (q.2.extBut X.oL ee) .nil)⟩
    rw [List.push_toArray] at hl'; exact hl'
  · exact fun b o h1 h2 e => hs.extBut b o h1 (kp_kh q.1 b o e)

theorem letOwned_inert {A : Around} {E : Value → Shared → Prop} {prog : Program} {w : World} {s : Shared} {t : Expr} {I : Addr} {v : Value} {o : Obj} {Q : Unit → Shared → Prop} (hI : s.heap.get? I = some o) (hn : Inert o) (h : Q () s) :
    wpAny (model prog w) A (letOwnedTupleGo t (.ref I) v) Q E s := by
  obtain ⟨n, hc, _, _, _, _, hno⟩ := hn
  unfold letOwnedTupleGo
  split
  all_goals first
    | exact wpAny_pure h
    | (cases v <;> first
        | exact wpAny_pure h
        | (refine wpAny_bind (wpAny_load hI ?_)
           rw [hc]
           split
           · rename_i e1 e2
             cases e1
             rw [if_neg (by rw [hno, Bool.false_and]; decide)]
             exact wpAny_pure h
           · exact wpAny_pure h))

/-- a loop of a comprehension -/
theorem comp_loop {L I : Addr} {O : Addr → Prop} {t i : Expr} {ifs : List Expr} {e : Expr} {depth : Nat} {body : Sem PySem.Fin → Sem PySem.Fin} {fp : List Addr} {P : Nat → Value → Prop} {T : Nat → Heap → Prop} {ds : List D} {R : Result → Shared → Prop}
    (X : CFix c Γ L O) (hturn : compTurn e depth (.ref I) (.ref L) c.env = turnOf (.ref I) (.ref L) c.env e t i ifs depth body) (hden : LoopRuns c.M c.A e depth (.ref I) (.ref L) c.env)
    (J : List D → List Ent → List D → Prop)
    (step : ∀ d ds ρ acc, J (d :: ds) ρ acc → ∃ ρ₁ b, Asg c Γ ρ t d ρ₁ ∧ calm ρ₁ = true ∧ Ts c Γ ρ₁ ifs b ∧ (b = false → J ds ρ₁ acc) ∧
      (b = true → ∀ (s : Shared) (k : Sem PySem.Fin) (Q : PySem.Fin → Shared → Prop), CS c Γ L O acc ρ₁ s → (∀ s' ρ₂ acc', CS c Γ L O acc' ρ₂ s' → Fd c L s s' → J ds ρ₂ acc' → wpAny c.M c.A k Q no s') → wpAny c.M c.A (body k) Q no s))
    {s₀ : Shared} (W : Walks c.G.prog c.G.w c.A I fp [I] ds.length P T) (hin : ∀ i h, T i h → ∃ o, h.get? I = some o ∧ Inert o) (hIO : ¬ O I) (hIB : c.hB.get? I = none) (hIc : ∀ x b, (x, b) ∈ c.env.cells → b ≠ I)
    (hfp : ∀ b ∈ fp, b ≠ L ∧ b ≠ c.env.locals) (hP : ∀ i u, P i u → i < ds.length → ∃ d, ds[i]? = some d ∧ Rd (fun b => O b ∨ b = I) s₀.heap u d)
    {ρ : List Ent} {acc : List D} (x : CS c Γ L O acc ρ s₀) (hT : T 0 s₀.heap) (hJ : J ds ρ acc)
    (hR : ∀ s ρ acc, CS c Γ L O acc ρ s → (∀ b o, b ≠ L → b ≠ c.env.locals → b ≠ I → s₀.heap.get? b = some o → s.heap.get? b = some o) → J [] ρ acc → R (.ok .next) s) :
    codeAny c.M c.A (.compLoop e depth (.ref I) (.ref L) c.env) R s₀ := by
  have hIL : I ≠ L := fun z => hIO (z ▸ X.oL)
  refine codeAny_loop hden.1 (fun n s => ∃ j ρ acc, n = ds.length + 1 - j ∧ j ≤ ds.length ∧ CS c Γ L O acc ρ s ∧ (∀ b o, b ≠ L → b ≠ c.env.locals → b ≠ I → s₀.heap.get? b = some o → s.heap.get? b = some o) ∧ T j s.heap ∧ J (ds.drop j) ρ acc) (fun n s z => ?_)
    (ds.length + 1) ⟨0, ρ, acc, rfl, Nat.zero_le _, x, fun _ _ _ _ _ e => e, hT, by simpa using hJ⟩
  obtain ⟨j, ρ, acc, rfl, hj, y, fk, hTj, hJ⟩ := z
  refine hden.2 _ _ _ ?_
  rw [hturn]
  refine wpAny_bind (wpAny_standAt (wpAny_bind ?_))
  have moved : ∀ {h' : Heap} {tk : Nat}, (∀ b o, b ∉ [I] → s.heap.get? b = some o → h'.get? b = some o) → CS c Γ L O acc ρ { s with heap := h', toks := tk } := fun {h'} {tk} hk => by
    have kI : Heap.ExtBut I s.heap h' := fun b o n e => hk b o (fun m => n (List.mem_singleton.mp m)) e
    obtain ⟨oI, hoI, hnI⟩ := hin _ _ hTj
    obtain ⟨ws, p, r⟩ := y.acc
    exact ⟨y.st.moved X.ok hIO hIB hIc hoI hnI kI, y.calm, ws, p.at fun o e => kI L o (Ne.symm hIL) e, r.skip hoI hnI kI⟩
  by_cases hlt : j < ds.length
  · refine W.item j s _ _ hlt hTj fun v h' tk hPv hT' hk => ?_
    have y' := moved (tk := tk) hk
    obtain ⟨d, hd, rd⟩ := hP j v hPv hlt
    have hdrop : ds.drop j = d :: ds.drop (j + 1) := by rw [List.drop_eq_getElem_cons hlt]; congr 1; rw [List.getElem?_eq_getElem hlt] at hd; exact Option.some.inj hd
    rw [hdrop] at hJ
    obtain ⟨ρ₁, b, ha, hc, ht, hf, hb⟩ := step _ _ _ _ hJ
    obtain ⟨oI, hoI, hnI⟩ := hin _ _ hT'
    refine wpAny_bind (letOwned_inert hoI hnI (wpAny_bind ?_))
    have rv : Rd O h' v d := rd.mono fun a o n e => ⟨fun q => n (.inl q), hk a o (fun m => n (.inr (List.mem_singleton.mp m))) (fk a o (fun z => n (.inl (z ▸ X.oL))) (fun z => n (.inl (z ▸ y.st.oL))) (fun z => n (.inr z)) e)⟩
    refine wpAny_mono (ha X.ok _ O v y'.st rv) (fun _ s₂ q => wpAny_bind ?_) nono
    have fd2 := Fd.ofLc X q.2.2
    have cs2 : CS c Γ L O acc ρ₁ s₂ := by
      obtain ⟨ws, p, r⟩ := y'.acc
      refine ⟨q.1, hc, ws, p.at fun o e => q.2.2 L o X.ne (fun x hx hn => absurd (X.loc x hx) hn) e, ?_⟩
      exact r.mono fun a o n e => ⟨n, q.2.1.kp a o n e⟩
    refine wpAny_mono (ht.out X.ok s₂ O cs2.st) (fun ok s₃ q₃ => ?_) nono
    obtain ⟨k₃, rfl⟩ := q₃
    have cs3 := cs2.keeps k₃
    have fd3 : Fd c L { s with heap := h', toks := tk } s₃ := fd2.tr (Fd.ofKeeps k₃)
    have next : ∀ {s' : Shared} {ρ₂ : List Ent} {acc' : List D}, CS c Γ L O acc' ρ₂ s' → Fd c L { s with heap := h', toks := tk } s' → J (ds.drop (j + 1)) ρ₂ acc' →
        (∃ m, m < ds.length + 1 - j ∧ ∃ j' ρ acc, m = ds.length + 1 - j' ∧ j' ≤ ds.length ∧ CS c Γ L O acc ρ s' ∧ (∀ b o, b ≠ L → b ≠ c.env.locals → b ≠ I → s₀.heap.get? b = some o → s'.heap.get? b = some o) ∧ T j' s'.heap ∧ J (ds.drop j') ρ acc) := fun {s' ρ₂ acc'} cs fd hJ =>
      ⟨ds.length + 1 - (j + 1), by omega, j + 1, ρ₂, acc', rfl, hlt, cs, fun b o h1 h2 h3 e => fd b o h1 h2 (hk b o (fun m => h3 (List.mem_singleton.mp m)) (fk b o h1 h2 h3 e)),
        W.frame _ _ _ hT' fun b hb o e => fd b o (hfp b hb).1 (hfp b hb).2 e, hJ⟩
    cases ok with
    | false => exact wpAny_pure ⟨rfl, next cs3 fd3 (hf rfl)⟩
    | true => exact hb rfl s₃ _ _ cs3 fun s' ρ₂ acc' cs fd hJ => wpAny_pure ⟨rfl, next cs (fd3.tr fd) hJ⟩
  · have hjj : j = ds.length := by omega
    subst hjj
    refine W.done s _ _ hTj fun h' tk hk => wpAny_pure (hR _ ρ acc (moved hk) (fun b o h1 h2 h3 e => hk b o (fun m => h3 (List.mem_singleton.mp m)) (fk b o h1 h2 h3 e)) ?_)
    rw [List.drop_length] at hJ; exact hJ
end
end Mine

namespace Mine
open PySem PySem.Calls PyProof.Rows PySem.SeqAt

/-! what a comprehension gives, clause by clause -/
def CL1 (c : Cx) (Γ : Sig) (t : Expr) (ifs : List Expr) (elt : Expr) : List D → List Ent → List D → (List Ent → Prop) → Prop
  | [], ρ, out, R => out = [] ∧ R ρ
  | d :: ds, ρ, out, R => ∃ ρ₁ b, Asg c Γ ρ t d ρ₁ ∧ calm ρ₁ = true ∧ Ts c Γ ρ₁ ifs b ∧ (b = false → CL1 c Γ t ifs elt ds ρ₁ out R) ∧ (b = true → ∃ y out', out = y :: out' ∧ Es c Γ ρ₁ elt y ∧ CL1 c Γ t ifs elt ds ρ₁ out' R)
def CL2 (c : Cx) (Γ : Sig) (t₁ : Expr) (f₁ : List Expr) (t₂ i₂ : Expr) (f₂ : List Expr) (elt : Expr) : List D → List Ent → List D → Prop
  | [], _, out => out = []
  | d :: ds, ρ, out => ∃ ρ₁ b, Asg c Γ ρ t₁ d ρ₁ ∧ calm ρ₁ = true ∧ Ts c Γ ρ₁ f₁ b ∧ (b = false → CL2 c Γ t₁ f₁ t₂ i₂ f₂ elt ds ρ₁ out) ∧
      (b = true → ∃ d' ds' o1 o2, out = o1 ++ o2 ∧ Es c Γ ρ₁ i₂ d' ∧ Itr d' ds' ∧ CL1 c Γ t₂ f₂ elt ds' ρ₁ o1 (fun ρ₂ => CL2 c Γ t₁ f₁ t₂ i₂ f₂ elt ds ρ₂ o2))

theorem compStart_any {prog : Program} {w : World} {A : Around} {elt : Expr} {gens : List Comprehension} {scope : Scope} {pos : Pos} {depth : Nat} {it acc : Value} {env : Env} {R : Result → Shared → Prop} {s : Shared} (hg : ((gens[depth]?).elim false (·.is_async != 0)) = false)
    (h0 : codeAny (model prog w) A (.compLoop (.ListComp elt gens scope pos) depth it acc env) R s)
    (h : wpAny (model prog w) A (pyIter it) (fun it' s' => codeAny (model prog w) A (.compLoop (.ListComp elt gens scope pos) depth it' acc env) R s') no s) :
    codeAny (model prog w) A (.compStart (.ListComp elt gens scope pos) depth it acc env) R s := by
  refine codeAny_of_tree ?_
  show wpAny _ A ((compStart (.ListComp elt gens scope pos) depth it acc env).onRaise (fun x => do noteFrame x env; standAt theWindowsPlace)) _ _ s
  refine wpAny_onRaise ?_
  unfold compStart
  have hg' : (((clausesOf (.ListComp elt gens scope pos))[depth]?).elim false (·.is_async != 0)) = false := hg
  rw [hg', if_neg (by decide)]
  refine wpAny_bind (wpAny_askSetting (wpAny_ite ?_))
  split
  · first
      | exact wpAny_bind (wpAny_pure (wpAny_pure (And.intro rfl h0)))
      | exact wpAny_pure (And.intro rfl h0)
  · refine wpAny_bind (wpAny_rule ?_)
    cases hc : (clausesOf (.ListComp elt gens scope pos))[depth]? with
    | none => exact wpAny_bind (wpAny_mono h (fun it' s' h' => wpAny_pure (And.intro rfl h')) nono)
    | some g => exact wpAny_bind (wpAny_standAt (wpAny_bind (wpAny_mono h (fun it' s' h' => wpAny_pure (And.intro rfl h')) nono)))

section
variable {c : Cx} {Γ : Sig} {ρ : List Ent}
theorem cl1_run {L I : Addr} {O : Addr → Prop} {t i elt : Expr} {ifs : List Expr} {gens : List Comprehension} {scope : Scope} {pos : Pos} {depth : Nat} {fp : List Addr} {P : Nat → Value → Prop} {T : Nat → Heap → Prop} {ds out acc : List D} {Rf : List Ent → Prop} {R : Result → Shared → Prop}
    (X : CFix c Γ L O) (hturn : compTurn (.ListComp elt gens scope pos) depth (.ref I) (.ref L) c.env = turnOf (.ref I) (.ref L) c.env (.ListComp elt gens scope pos) t i ifs depth (emitOf (.ref L) c.env elt))
    {s₀ : Shared} (W : Walks c.G.prog c.G.w c.A I fp [I] ds.length P T) (hin : ∀ i h, T i h → ∃ o, h.get? I = some o ∧ Inert o) (hIO : ¬ O I) (hIB : c.hB.get? I = none) (hIc : ∀ x b, (x, b) ∈ c.env.cells → b ≠ I)
    (hfp : ∀ b ∈ fp, b ≠ L ∧ b ≠ c.env.locals) (hP : ∀ i u, P i u → i < ds.length → ∃ d, ds[i]? = some d ∧ Rd (fun b => O b ∨ b = I) s₀.heap u d)
    (x : CS c Γ L O acc ρ s₀) (hT : T 0 s₀.heap) (hC : CL1 c Γ t ifs elt ds ρ out Rf) (hz : (acc ++ out).length ≤ sizeLine)
    (hR : ∀ s ρ, CS c Γ L O (acc ++ out) ρ s → (∀ b o, b ≠ L → b ≠ c.env.locals → b ≠ I → s₀.heap.get? b = some o → s.heap.get? b = some o) → Rf ρ → R (.ok .next) s) :
    codeAny c.M c.A (.compLoop (.ListComp elt gens scope pos) depth (.ref I) (.ref L) c.env) R s₀ := by
  refine comp_loop X hturn (loopRuns ..) (fun ds ρ a => ∃ o, CL1 c Γ t ifs elt ds ρ o Rf ∧ a ++ o = acc ++ out) (fun d ds ρ a hJ => ?_) W hin hIO hIB hIc hfp hP x hT ⟨out, hC, rfl⟩ fun s ρ a cs k hJ => ?_
  · obtain ⟨o, h, e⟩ := hJ
    obtain ⟨ρ₁, b, h1, h2, h3, h4, h5⟩ := h
    refine ⟨ρ₁, b, h1, h2, h3, fun hb => ⟨o, h4 hb, e⟩, fun hb s k Q cs hk => ?_⟩
    obtain ⟨y, o', rfl, hy, hr⟩ := h5 hb
    refine emit_ X cs hy ?_ fun s' cs' fd => hk s' ρ₁ (a ++ [y]) cs' fd ⟨o', hr, by rw [← e]; simp⟩
    have : (a ++ y :: o').length ≤ sizeLine := by rw [e]; exact hz
    rw [List.length_append, List.length_cons] at this; omega
  · obtain ⟨o, ⟨rfl, hr⟩, e⟩ := hJ
    rw [List.append_nil] at e; subst e
    exact hR s ρ cs k hr

theorem cl2_run {L I : Addr} {O : Addr → Prop} {t₁ i₁ t₂ i₂ elt : Expr} {f₁ f₂ : List Expr} {scope : Scope} {pos : Pos} {fp : List Addr} {P : Nat → Value → Prop} {T : Nat → Heap → Prop} {ds out acc : List D} {R : Result → Shared → Prop}
    (X : CFix c Γ L O) (hs : ∀ x, foldedSetIterable i₂ c.env x = pure x)
    {s₀ : Shared} (W : Walks c.G.prog c.G.w c.A I fp [I] ds.length P T) (hin : ∀ i h, T i h → ∃ o, h.get? I = some o ∧ Inert o) (hIO : ¬ O I) (hIB : c.hB.get? I = none) (hIc : ∀ x b, (x, b) ∈ c.env.cells → b ≠ I)
    (hfp : ∀ b ∈ fp, b ≠ L ∧ b ≠ c.env.locals) (hP : ∀ i u, P i u → i < ds.length → ∃ d, ds[i]? = some d ∧ Rd (fun b => O b ∨ b = I) s₀.heap u d)
    (x : CS c Γ L O acc ρ s₀) (hT : T 0 s₀.heap) (hC : CL2 c Γ t₁ f₁ t₂ i₂ f₂ elt ds ρ out) (hz : (acc ++ out).length ≤ sizeLine)
    (hR : ∀ s ρ, CS c Γ L O (acc ++ out) ρ s → R (.ok .next) s) :
    codeAny c.M c.A (.compLoop (comp2 elt scope pos t₁ i₁ t₂ i₂ f₁ f₂) 0 (.ref I) (.ref L) c.env) R s₀ := by
  refine comp_loop X (turn_20 ..) (loopRuns ..) (fun ds ρ a => ∃ o, CL2 c Γ t₁ f₁ t₂ i₂ f₂ elt ds ρ o ∧ a ++ o = acc ++ out) (fun d ds ρ a hJ => ?_) W hin hIO hIB hIc hfp hP x hT ⟨out, hC, rfl⟩ fun s ρ a cs k hJ => ?_
  · obtain ⟨o, h, e⟩ := hJ
    obtain ⟨ρ₁, b, h1, h2, h3, h4, h5⟩ := h
    refine ⟨ρ₁, b, h1, h2, h3, fun hb => ⟨o, h4 hb, e⟩, fun hb s k Q cs hk => ?_⟩
    obtain ⟨d', ds', o1, o2, rfl, hi, hit, hr⟩ := h5 hb
    refine wpAny_bind (wpAny_mono (hi.out X.ok s O cs.st) (fun v s₁ q => wpAny_bind (wpAny_standAt (wpAny_bind ?_))) nono)
    rw [hs]
    refine wpAny_pure (wpAny_bind (wpAny_holding ?_))
    have cs₁ := cs.keeps q.1
    refine wpAny_mono (hit _ _ _ O s₁ v X.ok.room.hand cs₁.st.dom (.s q.2)) (fun it s₂ q' => wpAny_bind (wpAny_runOwn ?_)) nono
    obtain ⟨k', I', fp', P', T', rfl, hin', hW', _, hT', hI', hfp', hsrc', hP'⟩ := q'
    have W' := hW' c.A X.ok.room.hand
    have hIO' : ¬ O I' := Dom.fresh cs₁.st.dom hI'
    have cs₂ := cs₁.keeps k'
    have go : codeAny c.M c.A (.compLoop (comp2 elt scope pos t₁ i₁ t₂ i₂ f₁ f₂) 1 (.ref I') (.ref L) c.env) (fun r s' => match r with | .ok f => wpAny c.M c.A k Q no s' | .error e => cameBackBy c.M c.A c.env no e s') s₂ := by
      refine cl1_run X (turn_21 ..) W' hin' hIO' (none_of_kh cs₁.st.keep hI') (cs₁.st.cellAt X.ok hI') (fun b hb => ?_) hP' cs₂ hT' hr ?_ fun s₃ ρ₃ cs₃ k₃ hR₃ => ?_
      · have nO : ¬ O b := (hsrc' b hb).elim (fun e => e ▸ hIO') fun e => by
          have z := q.2
          cases z with
          | none => cases e
          | bool => cases e
          | int => cases e
          | str => cases e
          | bytes => cases e
          | list h _ _ => cases e; exact h
          | tup h _ _ => cases e; exact h
          | rng h _ => cases e; exact h
          | obj h _ _ _ _ => cases e; exact h
        exact ⟨fun e => nO (e ▸ X.oL), fun e => nO (e ▸ cs₁.st.oL)⟩
      · have : (a ++ (o1 ++ o2)).length ≤ sizeLine := by rw [e]; exact hz
        simp only [List.length_append] at this ⊢; omega
      · exact hk s₃ ρ₃ (a ++ o1) cs₃ (fun b o h1 h2 e => k₃ b o h1 h2 (fun z => by rw [z, none_of_kh (kp_kh q.1) hI'] at e; cases e) (kp_kh k' b o (kp_kh q.1 b o e))) ⟨o2, hR₃, by rw [← e]; simp⟩
    have : codeAny c.M (c.A.mark none) (.compStart (comp2 elt scope pos t₁ i₁ t₂ i₂ f₁ f₂) 1 (.ref I') (.ref L) c.env) (fun r s' => match r with | .ok f => wpAny c.M c.A k Q no s' | .error e => cameBackBy c.M c.A c.env no e s') s₂ := by
      show codeAny c.M c.A _ _ _
      exact compStart_any rfl go (W'.self 0 _ _ _ hT' go)
    exact this
  · obtain ⟨o, rfl, e⟩ := hJ
    rw [List.append_nil] at e; subst e
    exact hR s ρ cs
end
end Mine

namespace Mine
open PySem PySem.Calls PyProof.Rows PySem.SeqAt

def cellScope (scope : Scope) : Scope := { scope with names := scope.names.map fun x => if x.2 == .free then (x.1, .cell) else x }
theorem relabel_eq {scope : Scope} {env : Env} (hk : env.scope.kind = .function) (h : ∀ n, (n, NameKind.free) ∈ scope.names → env.kindOf n = some .cell) : relabel scope env = cellScope scope := by
  unfold relabel cellScope
  congr 1
  refine List.map_congr_left fun x hx => ?_
  obtain ⟨n, k⟩ := x
  by_cases hf : k = .free
  · subst hf
    have := h n hx
    simp [hk, this]
  · have : (k == NameKind.free) = false := by simpa using hf
    simp [this]
def closOf (cells : List (Str × Addr)) : List (Str × NameKind) → List (Str × Addr) → List (Str × Addr)
  | [], acc => acc
  | (n, k) :: r, acc => closOf cells r (if k == .free then (match cells.lookup n with | some a => (n, a) :: acc | none => acc) else acc)
theorem clos_for {env : Env} : ∀ (names : List (Str × NameKind)) (acc : List (Str × Addr)), (∀ n, (n, NameKind.free) ∈ names → ∃ a, env.cells.lookup n = some a) →
    (forIn names acc fun (x : Str × NameKind) (s : List (Str × Addr)) => if (x.2 == NameKind.free) = true then (do let a ← cellOf env x.1; pure (ForInStep.yield ((x.1, a) :: s)) : Sem _) else pure (ForInStep.yield s)) = pure (closOf env.cells names acc)
  | [], _, _ => rfl
  | (n, k) :: r, acc, h => by
    rw [List.forIn_cons]
    have hr := fun acc => clos_for r acc fun m hm => h m (.tail _ hm)
    unfold closOf
    by_cases hf : (k == NameKind.free) = true
    · have hk : k = .free := by simpa using hf
      subst hk
      obtain ⟨a, ha⟩ := h n (.head _)
      have e : cellOf env n = pure a := by unfold cellOf; rw [ha]
      simp only [if_true, e, pure_bind, ha, hr, beq_self_eq_true]
    · simp only [hf, Bool.false_eq_true, if_false, pure_bind, hr]
theorem closureFor_eq {scope : Scope} {env : Env} (h : ∀ n, (n, NameKind.free) ∈ scope.names → ∃ a, env.cells.lookup n = some a) : closureFor scope env = pure (closOf env.cells scope.names []) := by
  have e : closureFor scope env = ((forIn scope.names ([] : List (Str × Addr)) fun (x : Str × NameKind) (s : List (Str × Addr)) => if (x.2 == NameKind.free) = true then (do let a ← cellOf env x.1; pure (ForInStep.yield ((x.1, a) :: s)) : Sem _) else pure (ForInStep.yield s)) >>= pure) := rfl
  rw [e, clos_for _ _ h]; rfl
theorem closOf_mem {cells : List (Str × Addr)} {x : Str} {a : Addr} : ∀ (names : List (Str × NameKind)) (acc : List (Str × Addr)), (x, a) ∈ closOf cells names acc → (x, a) ∈ acc ∨ ((x, NameKind.free) ∈ names ∧ cells.lookup x = some a)
  | [], _, h => .inl h
  | (n, k) :: r, acc, h => by
    unfold closOf at h
    have h' := closOf_mem r _ h
    clear h
    rcases h' with h | ⟨h1, h2⟩
    · by_cases hf : (k == NameKind.free) = true
      · have hk : k = .free := by simpa using hf
        subst hk
        rw [if_pos (by rfl)] at h
        cases hb : cells.lookup n with
        | none => rw [hb] at h; exact .inl h
        | some b =>
          rw [hb] at h
          rcases List.mem_cons.mp h with h | h
          · cases h; exact .inr ⟨.head _, hb⟩
          · exact .inl h
      · rw [if_neg hf] at h; exact .inl h
    · exact .inr ⟨.tail _ h1, h2⟩
theorem closOf_sub {cells : List (Str × Addr)} {y : Str × Addr} : ∀ (names : List (Str × NameKind)) (acc : List (Str × Addr)), y ∈ acc → y ∈ closOf cells names acc
  | [], _, h => h
  | (n, k) :: r, acc, h => by
    unfold closOf
    refine closOf_sub r _ ?_
    split
    · split
      · exact .tail _ h
      · exact h
    · exact h
theorem closOf_has {cells : List (Str × Addr)} {x : Str} {a : Addr} (hc : cells.lookup x = some a) : ∀ (names : List (Str × NameKind)) (acc : List (Str × Addr)), (x, NameKind.free) ∈ names → (x, a) ∈ closOf cells names acc
  | (n, k) :: r, acc, h => by
    unfold closOf
    rcases List.mem_cons.mp h with h | h
    · cases h
      refine closOf_sub r _ ?_
      rw [if_pos (by rfl), hc]; exact .head _
    · exact closOf_has hc r _ h
theorem closOf_nodup {cells : List (Str × Addr)} : ∀ (names : List (Str × NameKind)) (acc : List (Str × Addr)), (names.map (·.1)).Nodup → (acc.map (·.1)).Nodup → (∀ y ∈ acc, ∀ z ∈ names, y.1 ≠ z.1) → ((closOf cells names acc).map (·.1)).Nodup
  | [], _, _, h, _ => h
  | (n, k) :: r, acc, h1, h2, h3 => by
    unfold closOf
    rw [List.map_cons, List.nodup_cons] at h1
    refine closOf_nodup r _ h1.2 ?_ ?_
    · split
      · split
        · rw [List.map_cons, List.nodup_cons]
          refine ⟨fun hm => ?_, h2⟩
          obtain ⟨y, hy, e⟩ := List.mem_map.mp hm
          exact h3 y hy _ (.head _) e
        · exact h2
      · exact h2
    · intro y hy z hz
      have old : y ∈ acc → y.1 ≠ z.1 := fun hy => h3 y hy z (.tail _ hz)
      split at hy
      · split at hy
        · rcases List.mem_cons.mp hy with rfl | hy
          · intro e; exact h1.1 (List.mem_map.mpr ⟨z, hz, e.symm⟩)
          · exact old hy
        · exact old hy
      · exact old hy
theorem lookup_of_one {x : Str} {a : Addr} : ∀ {l : List (Str × Addr)}, (x, a) ∈ l → (∀ b, (x, b) ∈ l → b = a) → l.lookup x = some a
  | (y, b) :: r, h, u => by
    rw [List.lookup_cons]
    by_cases e : x = y
    · subst e; rw [beq_self_eq_true, u b (.head _)]
    · rw [show (x == y) = false from beq_false_of_ne e]
      rcases List.mem_cons.mp h with h | h
      · cases h; exact absurd rfl e
      · exact lookup_of_one h fun b hb => u b (.tail _ hb)
theorem lookup_cellScope {x : Str} : ∀ (names : List (Str × NameKind)), (names.map fun x => if x.2 == NameKind.free then (x.1, NameKind.cell) else x).lookup x = (names.lookup x).map fun k => if k == .free then .cell else k
  | [] => rfl
  | (n, k) :: r => by
    rw [List.map_cons]
    by_cases e : x = n
    · subst e
      by_cases hf : k = NameKind.free
      · subst hf; simp [List.lookup_cons]
      · have hf' : (k == NameKind.free) = false := by simpa using hf
        simp only [hf', List.lookup_cons, beq_self_eq_true, Option.map_some, Bool.false_eq_true, if_false]
    · have hb : (x == n) = false := beq_false_of_ne e
      have : List.lookup x ((if ((n, k) : Str × NameKind).2 == NameKind.free then (((n, k) : Str × NameKind).1, NameKind.cell) else (n, k)) :: r.map fun x => if x.2 == NameKind.free then (x.1, NameKind.cell) else x) =
          List.lookup x (r.map fun x => if x.2 == NameKind.free then (x.1, NameKind.cell) else x) := by
        split <;> simp [List.lookup_cons, hb]
      rw [this, lookup_cellScope r]
      simp [List.lookup_cons, hb]
theorem mem_of_free {x : Str} {k : NameKind} : ∀ {names : List (Str × NameKind)}, (names.map (·.1)).Nodup → (x, k) ∈ names → names.lookup x = some k
  | (n, k') :: r, hn, h => by
    rw [List.map_cons, List.nodup_cons] at hn
    rw [List.lookup_cons]
    rcases List.mem_cons.mp h with h | h
    · cases h; rw [beq_self_eq_true]
    · have : x ≠ n := fun e => hn.1 (List.mem_map.mpr ⟨(x, k), h, e⟩)
      rw [show (x == n) = false from beq_false_of_ne this]
      exact mem_of_free hn.2 h

def freeOf (names : List (Str × NameKind)) : List Str := (names.filter (·.2 == .free)).map (·.1)
/-- the names of a comprehension: its own, in their order, and those of the frames around it -/
structure Scp (scope : Scope) (tv fv : List Str) : Prop where
  kind : scope.kind = .function
  nodup : (scope.names.map (·.1)).Nodup
  nocell : ∀ x ∈ scope.names, x.2 ≠ .cell
  free : freeOf scope.names = fv
  tvs : ∀ x ∈ tv, scope.names.lookup x = some .local
  nodebug : ∀ x ∈ tv ++ fv, (x == ("__debug__" : Str)) = false
  nd : (tv ++ fv).Nodup
def scpOk (scope : Scope) (tv fv : List Str) : Bool :=
  scope.kind == .function && decide (scope.names.map (·.1)).Nodup && scope.names.all (fun x => x.2 != .cell) && decide (freeOf scope.names = fv) && tv.all (fun x => scope.names.lookup x == some .local) && (tv ++ fv).all (fun x => !(x == ("__debug__" : Str))) && decide (tv ++ fv).Nodup
theorem Scp.of {scope : Scope} {tv fv : List Str} (h : scpOk scope tv fv = true) : Scp scope tv fv := by
  simp only [scpOk, Bool.and_eq_true, List.all_eq_true, decide_eq_true_eq, Bool.not_eq_true', beq_iff_eq, bne_iff_ne] at h
  obtain ⟨⟨⟨⟨⟨⟨a, b⟩, c⟩, d⟩, e⟩, f⟩, g⟩ := h
  exact ⟨a, b, c, d, e, f, g⟩

inductive Cap : Ent → Ent → Prop
  | dat {d : D} : Cap (.dat d) (.dat d)
  | mlist {ds : List D} : Cap (.mlist ds) (.blist ds)
  | blist {ds : List D} : Cap (.blist ds) (.blist ds)
  | mdict {m : List (Int × D)} : Cap (.mdict m) (.bdict m)
  | bdict {m : List (Int × D)} : Cap (.bdict m) (.bdict m)
inductive Caps (c : Cx) (Γ : Sig) (ρ : List Ent) : List Str → List Ent → Prop
  | nil : Caps c Γ ρ [] []
  | cons {x : Str} {e e' : Ent} {r : List Str} {es : List Ent} : At Γ.vars ρ x e → c.env.kindOf x = some .cell → Cap e e' → Caps c Γ ρ r es → Caps c Γ ρ (x :: r) (e' :: es)
def inSig (tv fv : List Str) : Sig := ⟨tv.map (·, true) ++ fv.map (·, false)⟩
def anys (tv : List Str) : List Ent := tv.map fun _ => .any

section
variable {c : Cx} {Γ : Sig} {ρ : List Ent}
theorem Caps.mem {fv : List Str} {caps : List Ent} (h : Caps c Γ ρ fv caps) : ∀ x ∈ fv, c.env.kindOf x = some .cell ∧ ∃ e, At Γ.vars ρ x e := by
  induction h with
  | nil => intro x hx; cases hx
  | cons p k _ _ ih =>
    intro y hy
    rcases List.mem_cons.mp hy with rfl | hy
    · exact ⟨k, _, p⟩
    · exact ih y hy
theorem Caps.calm {fv : List Str} {caps : List Ent} (h : Caps c Γ ρ fv caps) : Mine.calm caps = true := by
  induction h with
  | nil => rfl
  | @cons x e e' r es _ _ q _ ih =>
    show (e'.calm && List.all es Ent.calm) = true
    rw [show List.all es Ent.calm = true from ih, Bool.and_true]
    cases q <;> rfl
theorem Caps.ents {fv : List Str} {caps : List Ent} (h : Caps c Γ ρ fv caps) {c' : Cx} {O O' : Addr → Prop} {h₁ h₂ : Heap} {V V' : Str → Option Value} (hB : c'.hB = h₁) (En : Ents c O h₁ V Γ.vars ρ) (k : KH h₁ h₂) (hO : ∀ a, O' a → h₁.get? a = none ∨ O a) (hV : ∀ x ∈ fv, V' x = V x) :
    Ents c' O' h₂ V' (fv.map (·, false)) caps := by
  induction h with
  | nil => trivial
  | @cons x e e' r es p _ q _ ih =>
    refine ⟨?_, ih fun y hy => hV y (.tail _ hy)⟩
    have w := p.ok En
    rw [hV x (.head _)]
    cases q with
    | dat => obtain ⟨v, e, r⟩ := w; exact ⟨v, e, (r.own hO).keep k⟩
    | mlist => obtain ⟨a, vs, e, _, l, r⟩ := w; obtain ⟨n, z⟩ := id l; exact ⟨a, vs, e, ⟨_, by rw [hB]; exact z⟩, isList_at l.isList (k a), (r.own hO).keep k⟩
    | blist => obtain ⟨a, vs, e, _, l, r⟩ := w; obtain ⟨o, z, _⟩ := id l; exact ⟨a, vs, e, ⟨_, by rw [hB]; exact z⟩, isList_at l (k a), (r.own hO).keep k⟩
    | mdict => obtain ⟨a, e, _, r⟩ := w; obtain ⟨_, ⟨o, _, _, z, _⟩, _⟩ := id r; exact ⟨a, e, ⟨_, by rw [hB]; exact z⟩, r.at (k a) fun _ _ q => (q.own hO).keep k⟩
    | bdict => obtain ⟨a, e, _, r⟩ := w; obtain ⟨_, ⟨o, _, _, z, _⟩, _⟩ := id r; exact ⟨a, e, ⟨_, by rw [hB]; exact z⟩, r.at (k a) fun _ _ q => (q.own hO).keep k⟩
theorem ents_anys {c' : Cx} {O : Addr → Prop} {h : Heap} {V : Str → Option Value} {xs : List (Str × Bool)} {es : List Ent} (r : Ents c' O h V xs es) : ∀ (tv : List Str), Ents c' O h V (tv.map (·, true) ++ xs) (anys tv ++ es)
  | [] => r
  | _ :: tv => ⟨trivial, ents_anys r tv⟩
theorem calm_anys {es : List Ent} (h : calm es = true) : ∀ (tv : List Str), calm (anys tv ++ es) = true
  | [] => h
  | _ :: tv => by
    show (true && List.all (anys tv ++ es) Ent.calm) = true
    rw [Bool.true_and]; exact calm_anys h tv

/-- the frame of a comprehension -/
def inCx (c : Cx) (scope : Scope) (h : Heap) (O : Addr → Prop) (C : Addr) : Cx := { c with env := compEnvC scope (closOf c.env.cells scope.names []) C c.env, hB := h, B := O }
theorem inCx_scope {scope : Scope} {tv fv : List Str} {caps : List Ent} (K : Ok c Γ) (S : Scp scope tv fv) (Q : Caps c Γ ρ fv caps) (h : Heap) (O : Addr → Prop) (C : Addr) : (inCx c scope h O C).env.scope = cellScope scope :=
  relabel_eq K.kind fun n hn => (Q.mem n (by rw [← S.free]; exact List.mem_map.mpr ⟨_, List.mem_filter.mpr ⟨hn, rfl⟩, rfl⟩)).1
theorem free_mem {scope : Scope} {tv fv : List Str} (S : Scp scope tv fv) {n : Str} (hn : (n, NameKind.free) ∈ scope.names) : n ∈ fv := by
  rw [← S.free]; exact List.mem_map.mpr ⟨_, List.mem_filter.mpr ⟨hn, rfl⟩, rfl⟩
theorem mem_free {scope : Scope} {tv fv : List Str} (S : Scp scope tv fv) {n : Str} (hn : n ∈ fv) : (n, NameKind.free) ∈ scope.names := by
  rw [← S.free] at hn
  obtain ⟨⟨m, k⟩, hy, e⟩ := List.mem_map.mp hn
  obtain ⟨h1, h2⟩ := List.mem_filter.mp hy
  have : k = .free := by simpa using h2
  subst this
  cases e; exact h1
theorem caps_cell {scope : Scope} {tv fv : List Str} {caps : List Ent} (K : Ok c Γ) (S : Scp scope tv fv) (Q : Caps c Γ ρ fv caps) {n : Str} (hn : n ∈ fv) : ∃ a, c.env.cells.lookup n = some a ∧ (closOf c.env.cells scope.names []).lookup n = some a := by
  obtain ⟨k, e, p⟩ := Q.mem n hn
  obtain ⟨b, hb⟩ := p.mem
  obtain ⟨_, hk⟩ := K.names n b hb
  have ⟨a, ha⟩ : ∃ a, c.env.cells.lookup n = some a := by
    rcases hk with hk | ⟨_, a, ha, _⟩
    · rw [k] at hk; cases hk
    · exact ⟨a, ha⟩
  refine ⟨a, ha, lookup_of_one (closOf_has ha _ _ (mem_free S hn)) fun b hb => ?_⟩
  rcases closOf_mem _ _ hb with h | ⟨_, h⟩
  · cases h
  · rw [ha] at h; exact (Option.some.inj h).symm

theorem inCx_ok {scope : Scope} {tv fv : List Str} {caps : List Ent} (K : Ok c Γ) (S : Scp scope tv fv) (Q : Caps c Γ ρ fv caps) {s : Shared} {O : Addr → Prop} (y : St c Γ O ρ s) {C : Addr} (hC : s.heap.get? C = none) : Ok (inCx c scope s.heap O C) (inSig tv fv) := by
  have hsc := inCx_scope K S Q s.heap O C
  have kO : ∀ x, (inCx c scope s.heap O C).env.kindOf x = (scope.names.lookup x).map fun k => if k == .free then .cell else k := fun x => by
    unfold Env.kindOf; rw [hsc]; exact lookup_cellScope _
  have cm : ∀ x a, (x, a) ∈ closOf c.env.cells scope.names [] → x ∈ fv ∧ c.env.cells.lookup x = some a := fun x a h => by
    rcases closOf_mem _ _ h with h | ⟨h1, h2⟩
    · cases h
    · exact ⟨free_mem S h1, h2⟩
  have kf : ∀ x ∈ fv, (inCx c scope s.heap O C).env.kindOf x = some .cell := fun x hx => by
    rw [kO, mem_of_free S.nodup (mem_free S hx)]; rfl
  have hcell : ∀ x a, (x, a) ∈ closOf c.env.cells scope.names [] → ∃ o, s.heap.get? a = some o := fun x a h => by
    obtain ⟨V, F, En, N⟩ := y.frm
    obtain ⟨h1, h2⟩ := cm x a h
    obtain ⟨o, ho, _⟩ := F.cel x a (by rw [(Q.mem x h1).1]; decide) h2
    exact ⟨o, ho⟩
  refine ⟨?_, ?_, ?_, ?_, ?_, ?_, hC, fun a h => y.dom a h, K.globals, K.builtins, fun b o e => y.keep b o (K.top b o e), K.room⟩
  · rw [hsc]; exact S.kind
  · intro x b hb
    have hx : x ∈ tv ++ fv := by
      rcases List.mem_append.mp hb with h | h
      · obtain ⟨z, hz, e⟩ := List.mem_map.mp h; cases e; exact List.mem_append_left _ hz
      · obtain ⟨z, hz, e⟩ := List.mem_map.mp h; cases e; exact List.mem_append_right _ hz
    refine ⟨S.nodebug x hx, ?_⟩
    rcases List.mem_append.mp hb with h | h
    · obtain ⟨z, hz, e⟩ := List.mem_map.mp h; cases e
      exact .inl (by rw [kO, S.tvs x hz]; rfl)
    · obtain ⟨z, hz, e⟩ := List.mem_map.mp h; cases e
      obtain ⟨a, _, ha⟩ := caps_cell K S Q hz
      exact .inr ⟨.inl (kf x hz), a, ha, by intro h; cases h⟩
  · show ((tv.map (·, true) ++ fv.map (·, false)).map (·.1)).Nodup
    rw [List.map_append, List.map_map, List.map_map]
    have : (tv.map ((·.1) ∘ fun x => (x, true))) ++ (fv.map ((·.1) ∘ fun x => (x, false))) = tv ++ fv := by
      congr 1
      · exact (List.map_congr_left fun _ _ => rfl).trans (List.map_id _)
      · exact (List.map_congr_left fun _ _ => rfl).trans (List.map_id _)
    rw [this]; exact S.nd
  · show (closOf c.env.cells scope.names []).Pairwise _
    have hn : ((closOf c.env.cells scope.names []).map (·.1)).Nodup := closOf_nodup _ _ S.nodup .nil (fun _ h => by cases h)
    have hp := List.pairwise_map.mp hn
    refine hp.imp_of_mem fun {p q} hp hq hne e => hne ?_
    have h1 := mem_of_lookup (cm p.1 p.2 hp).2
    have h2 := mem_of_lookup (cm q.1 q.2 hq).2
    exact name_of_addr K.apart h1 (e ▸ h2)
  · intro x a h e
    obtain ⟨o, ho⟩ := hcell x a h
    have e : a = C := e
    rw [e, hC] at ho; cases ho
  · intro x a h
    obtain ⟨h1, h2⟩ := cm x a h
    obtain ⟨a', ha', hl⟩ := caps_cell K S Q h1
    rw [h2] at ha'; cases ha'
    exact ⟨hl, by rw [kf x h1]; decide⟩
theorem inCx_fix {scope : Scope} {tv fv : List Str} {caps : List Ent} (K : Ok c Γ) (S : Scp scope tv fv) (Q : Caps c Γ ρ fv caps) {s : Shared} {O : Addr → Prop} (y : St c Γ O ρ s) {C L : Addr} (hC : s.heap.get? C = none) (hL : s.heap.get? L = none) (hne : L ≠ C) :
    CFix (inCx c scope s.heap O C) (inSig tv fv) L (fun b => O b ∨ b = L ∨ b = C) := by
  have K' := inCx_ok K S Q y hC
  have hsc := inCx_scope K S Q s.heap O C
  refine ⟨K', .inr (.inl rfl), hL, hne, fun x b hb e => ?_, fun x hx => ?_⟩
  · rcases closOf_mem _ _ hb with h | ⟨h1, h2⟩
    · cases h
    · obtain ⟨V, F, En, N⟩ := y.frm
      obtain ⟨o, ho, _⟩ := F.cel x b (by rw [(Q.mem x (free_mem S h1)).1]; decide) h2
      rw [← e, hL] at ho; cases ho
  · have hx : x ∈ tv := by
      rcases List.mem_append.mp hx with h | h
      · obtain ⟨z, hz, e⟩ := List.mem_map.mp h; cases e; exact hz
      · obtain ⟨z, hz, e⟩ := List.mem_map.mp h; cases e
    unfold Env.kindOf
    rw [hsc]
    show (scope.names.map _).lookup x = _
    rw [lookup_cellScope, S.tvs x hx]; rfl
/-- as the comprehension's first turn finds it -/
theorem inCx_start {scope : Scope} {tv fv : List Str} {caps : List Ent} (K : Ok c Γ) (S : Scp scope tv fv) (Q : Caps c Γ ρ fv caps) {s s' : Shared} {O : Addr → Prop} (y : St c Γ O ρ s) {C L : Addr} (hC : s.heap.get? C = none) (hL : s.heap.get? L = none)
    (k : Keeps s s') (hns : s'.heap.Ns C fun _ => none) (hpl : s'.heap.PlainList L #[]) : CS (inCx c scope s.heap O C) (inSig tv fv) L (fun b => O b ∨ b = L ∨ b = C) [] (anys tv ++ caps) s' := by
  have K' := inCx_ok K S Q y hC
  have kh := kp_kh k
  obtain ⟨V, F, En, N⟩ := y.frm
  have loc : ∀ x ∈ tv, (inCx c scope s.heap O C).env.kindOf x = some .local := fun x hx => by
    unfold Env.kindOf
    rw [inCx_scope K S Q s.heap O C]
    show (scope.names.map _).lookup x = _
    rw [lookup_cellScope, S.tvs x hx]; rfl
  have kf : ∀ x ∈ fv, (inCx c scope s.heap O C).env.kindOf x ≠ some .local := fun x hx => by
    unfold Env.kindOf
    rw [inCx_scope K S Q s.heap O C]
    show (scope.names.map _).lookup x ≠ _
    rw [lookup_cellScope, mem_of_free S.nodup (mem_free S hx)]; decide
  refine ⟨⟨?_, kh, fun a h => .inl h, fun a h => ?_, .inr (.inr rfl), fun x a hx hn => ?_, fun x => if (inCx c scope s.heap O C).env.kindOf x = some .local then none else V x, ⟨⟨_, hns, fun x hx => by rw [if_pos hx]⟩, fun x a hn hl => ?_⟩, ?_, ?_⟩, calm_anys Q.calm tv, [], by simpa using hpl, .nil⟩
  · obtain ⟨h', tk, rfl, _⟩ := k
    obtain ⟨h, t, rfl⟩ := y.same
    exact ⟨h', tk, rfl⟩
  · rcases h with h | rfl | rfl
    · obtain ⟨o, e⟩ := y.dom a h; exact ⟨o, kh a o e⟩
    · obtain ⟨n, z⟩ := hpl; exact ⟨_, z⟩
    · obtain ⟨o, _, _, z, _⟩ := hns; exact ⟨o, z⟩
  · have hx : x ∈ tv := by
      rcases List.mem_append.mp hx with h | h
      · obtain ⟨z, hz, e⟩ := List.mem_map.mp h; cases e; exact hz
      · obtain ⟨z, hz, e⟩ := List.mem_map.mp h; cases e
    exact absurd (loc x hx) hn
  · rw [if_neg hn]
    have hm := mem_of_lookup hl
    rcases closOf_mem _ _ hm with h | ⟨h1, h2⟩
    · cases h
    · exact (F.cel x a (by rw [(Q.mem x (free_mem S h1)).1]; decide) h2).keeps kh
  · refine ents_anys (Q.ents rfl En kh (fun a h => ?_) fun x hx => if_neg (kf x hx)) tv
    rcases h with h | rfl | rfl
    · exact .inr h
    · exact .inl hL
    · exact .inl hC
  · rw [calm_muts (calm_anys Q.calm tv)]; exact .nil
end
end Mine

namespace Mine
open PySem PySem.Calls PyProof.Rows PySem.SeqAt

/-- a comprehension's loop over ds gives out -/
def Runs (c : Cx) (Γ : Sig) (e : Expr) (ρ : List Ent) (ds out : List D) : Prop := ∀ (L I : Addr) (O : Addr → Prop) (fp : List Addr) (P : Nat → Value → Prop) (T : Nat → Heap → Prop) (s₀ : Shared) (R : Result → Shared → Prop),
  CFix c Γ L O → Walks c.G.prog c.G.w c.A I fp [I] ds.length P T → (∀ i h, T i h → ∃ o, h.get? I = some o ∧ Inert o) → ¬ O I → c.hB.get? I = none → (∀ x b, (x, b) ∈ c.env.cells → b ≠ I) →
  (∀ b ∈ fp, b ≠ L ∧ b ≠ c.env.locals) → (∀ i u, P i u → i < ds.length → ∃ d, ds[i]? = some d ∧ Rd (fun b => O b ∨ b = I) s₀.heap u d) → CS c Γ L O [] ρ s₀ → T 0 s₀.heap → (∀ s ρ, CS c Γ L O out ρ s → R (.ok .next) s) →
  codeAny c.M c.A (.compLoop e 0 (.ref I) (.ref L) c.env) R s₀
theorem runs1 {c : Cx} {Γ : Sig} {ρ : List Ent} {t i elt : Expr} {ifs : List Expr} {scope : Scope} {pos : Pos} {ds out : List D} (h : CL1 c Γ t ifs elt ds ρ out fun _ => True) (hz : out.length ≤ sizeLine) : Runs c Γ (comp1 elt scope pos t i ifs) ρ ds out :=
  fun L I O fp P T s₀ R X W hin hIO hIB hIc hfp hP x hT hR => cl1_run X (turn_1 ..) W hin hIO hIB hIc hfp hP x hT h hz fun s ρ cs _ _ => hR s ρ cs
theorem runs2 {c : Cx} {Γ : Sig} {ρ : List Ent} {t₁ i₁ t₂ i₂ elt : Expr} {f₁ f₂ : List Expr} {scope : Scope} {pos : Pos} {ds out : List D} (hs : ∀ x, foldedSetIterable i₂ c.env x = pure x) (h : CL2 c Γ t₁ f₁ t₂ i₂ f₂ elt ds ρ out) (hz : out.length ≤ sizeLine) :
    Runs c Γ (comp2 elt scope pos t₁ i₁ t₂ i₂ f₁ f₂) ρ ds out :=
  fun L I O fp P T s₀ R X W hin hIO hIB hIc hfp hP x hT hR => cl2_run X hs W hin hIO hIB hIc hfp hP x hT h hz fun s ρ cs => hR s ρ cs

/-- of a frame that is a comprehension's: what it has of the frame around it -/
structure Inn (c c' : Cx) (scope : Scope) : Prop where
  G : c'.G = c.G
  lv : c'.lv = c.lv
  sc : c'.env.scope = cellScope scope

section
variable {c : Cx} {Γ : Sig} {ρ : List Ent}
/-- an owned address that no entry stands on changes, and is owned no more -/
theorem St.drop {O : Addr → Prop} {s : Shared} (K : Ok c Γ) (x : St c Γ O ρ s) {a : Addr} {h' : Heap} {tk : Nat} (hO : O a) (hf : c.hB.get? a = none) (hL : a ≠ c.env.locals) (hC : ∀ x b, (x, b) ∈ c.env.cells → a ≠ b)
    (hm : ∃ V, Frm c Γ s.heap V ∧ Ents c O s.heap V Γ.vars ρ ∧ (muts V Γ.vars ρ).Nodup ∧ a ∉ muts V Γ.vars ρ) (k : Heap.ExtBut a s.heap h') : St c Γ (fun b => O b ∧ b ≠ a) ρ { s with heap := h', toks := tk } := by
  obtain ⟨V, F, E, N, hm⟩ := hm
  have same := x.same
  obtain ⟨h, t, rfl⟩ := same
  refine ⟨⟨h', tk, rfl⟩, fun b o e => k b o (fun z => by rw [z, hf] at e; cases e) (x.keep b o e), fun b q => ⟨x.base b q, fun z => by obtain ⟨o, e⟩ := K.ltB b q; rw [z, hf] at e; cases e⟩, fun b q => ?_, ⟨x.oL, hL.symm⟩,
    fun z b m n q => ⟨x.oC z b m n q, fun e => hC z b (mem_of_lookup q) e.symm⟩, V, ⟨?_, ?_⟩, ?_, N⟩
  · obtain ⟨o, e⟩ := x.dom b q.1; exact ⟨o, k b o q.2 e⟩
  · obtain ⟨m, n, q⟩ := F.loc; exact ⟨m, n.extBut k (Ne.symm hL), q⟩
  · intro y b n e; exact isCell_at (F.cel y b n e) fun o q => k b o (fun z => hC y b (mem_of_lookup e) z.symm) q
  · exact E.imp' fun v? e w sub => (w.ext k hO hf fun q => hm (sub a q)).grow (fun b q => .inr q.1) fun b hb ho => ⟨ho, fun z => hm (z ▸ sub b hb)⟩
theorem comp_core {elt iter : Expr} {t : Expr} {ifs : List Expr} {gs : List Comprehension} {scope : Scope} {pos : Pos} {tv fv : List Str} {caps : List Ent} {d : D} {ds out : List D} {use : Option (Value → Sem Unit)} {Qf : Value → Shared → Prop}
    (S : Scp scope tv fv) (Q : Caps c Γ ρ fv caps) (hv : Ev c Γ ρ iter d) (hi : Itr d ds) (hr : ∀ c', Inn c c' scope → Runs c' (inSig tv fv) (.ListComp elt (⟨t, iter, ifs, 0⟩ :: gs) scope pos) (anys tv ++ caps) ds out)
    (K : Ok c Γ) {s : Shared} {O : Addr → Prop} (y : St c Γ O ρ s)
    (hfin : ∀ (s' : Shared) (L C : Addr) (ws : List Value) (m : Str → Option Value), s.heap.get? L = none → s.heap.get? C = none → L ≠ C → Keeps s s' → s'.heap.PlainList L ws.toArray → RdL (fun b => O b ∨ b = L ∨ b = C) s'.heap ws out → s'.heap.Ns C m →
      compPost c.M c.A no use Qf (.ref L) C (.ok .next) s') :
    wpAny c.M c.A (eval iter c.env) (fun x s₁ => wpAny c.M c.A (pyIter x) (fun it s₂ => wpAny c.M c.A (newList []) (fun acc s₃ =>
      wpAny c.M c.A (newFunctionEnv scope c.env.globals (closOf c.env.cells scope.names []) [] c.env.qual none .none (some c.env)) (fun cenv s₄ =>
        codeAny c.M c.A (.compStart (.ListComp elt (⟨t, iter, ifs, 0⟩ :: gs) scope pos) 0 it acc { cenv with scope := relabel scope c.env }) (compPost c.M c.A no use Qf acc cenv.locals) s₄) no s₃) no s₂) no s₁) no s := by
  refine wpAny_mono (hv.out K s O y) (fun x s₁ q => wpAny_mono (hi _ _ _ O s₁ x K.room.hand (Dom.keep y.dom q.1) q.2) (fun it s₂ q' => ?_) nono) nono
  obtain ⟨k₂, I, fp, P, T, rfl, hin, hW, _, hT, hI, hfp, hsrc, hP⟩ := q'
  have y₁ := y.keeps q.1
  have W := hW c.A K.room.hand
  refine wpAny_newObj_type (wpAny_newFunctionEnv S.nocell (by intro y hy; simp at hy) (fun h₁ hns hsb => ?_) S.kind)
  dsimp only at hns hsb ⊢
  generalize hH : s₂.heap.push { cls := .type "list", dict := none, data := .seq ([] : List Value).toArray } = H at hns hsb ⊢
  have hsz : H.objs.size = s₂.heap.objs.size + 1 := by rw [← hH, Heap.size_push]
  have old : ∀ b o, s₂.heap.get? b = some o → b ≠ s₂.heap.objs.size ∧ b ≠ H.objs.size := fun b o e => by
    have := Heap.lt_size e
    rw [hsz]; exact ⟨Nat.ne_of_lt this, Nat.ne_of_lt (Nat.lt_succ_of_lt this)⟩
  have k4 : KH s₂.heap h₁ := fun b o e => hsb.extBut b o (old b o e).2 (Heap.get?_push_of_some _ (hH ▸ Heap.get?_push_of_some _ e))
  have hne : s₂.heap.objs.size ≠ H.objs.size := by rw [hsz]; exact Nat.ne_of_lt (Nat.lt_succ_self _)
  have fresh : ∀ a, s₂.heap.objs.size ≤ a → s₁.heap.get? a = none := fun a ha => none_of_kh (kp_kh k₂) (by
    cases e : s₂.heap.get? a with
    | none => rfl
    | some o' => exact absurd (Heap.lt_size e) (Nat.not_lt.mpr ha))
  have hL := fresh _ (Nat.le_refl _)
  have hC : s₁.heap.get? H.objs.size = none := fresh _ (by rw [hsz]; exact Nat.le_succ _)
  have hpl : h₁.PlainList s₂.heap.objs.size #[] := ⟨0, hsb.extBut _ _ hne (Heap.get?_push_of_some _ (hH ▸ Heap.get?_push_size _ rfl))⟩
  have kk : Keeps s₁ { s₂ with heap := h₁, toks := s₂.toks + ([] : List (Str × Value)).length } := kp_tr k₂ ⟨_, _, rfl, k4⟩
  have X := inCx_fix (L := s₂.heap.objs.size) K S Q y₁ hC hL hne
  have cs := inCx_start K S Q y₁ hC hL kk hns hpl
  have hIe : ∃ o, s₂.heap.get? I = some o := hfp I (W.sub I (List.mem_singleton.mpr rfl))
  have go : codeAny c.M c.A (.compLoop (.ListComp elt (⟨t, iter, ifs, 0⟩ :: gs) scope pos) 0 (.ref I) (.ref s₂.heap.objs.size) (inCx c scope s₁.heap O H.objs.size).env) (compPost c.M c.A no use Qf (.ref s₂.heap.objs.size) H.objs.size)
      { s₂ with heap := h₁, toks := s₂.toks + ([] : List (Str × Value)).length } := by
    refine hr (inCx c scope s₁.heap O H.objs.size) ⟨rfl, rfl, inCx_scope K S Q _ _ _⟩ s₂.heap.objs.size I (fun b => O b ∨ b = s₂.heap.objs.size ∨ b = H.objs.size) fp P T _ _ X W hin ?_ hI (fun x b hb e => ?_) (fun b hb => ?_) (fun i u hu hi => ?_) cs
      (W.frame _ _ _ hT fun b hb o e => k4 b o e) fun s' ρ' cs' => ?_
    · obtain ⟨o, ho⟩ := hIe
      rintro (h | h | h)
      · exact Dom.fresh y₁.dom hI h
      · exact (old I o ho).1 h
      · exact (old I o ho).2 h
    · rcases closOf_mem _ _ hb with h | ⟨h1, h2⟩
      · cases h
      · obtain ⟨V, F, En, N⟩ := y₁.frm
        obtain ⟨o, ho, _⟩ := F.cel x b (by rw [(Q.mem x (free_mem S h1)).1]; decide) h2
        rw [e, hI] at ho; cases ho
    · obtain ⟨o, ho⟩ := hfp b hb; exact old b o ho
    · obtain ⟨d', hd, rd⟩ := hP i u hu hi
      refine ⟨d', hd, (rd.own fun b h => ?_).keep k4⟩
      rcases h with (h | h | h) | h
      · exact .inr (.inl h)
      · left; cases e : s₂.heap.get? b with
        | none => rfl
        | some o => exact absurd h (old b o e).1
      · left; cases e : s₂.heap.get? b with
        | none => rfl
        | some o => exact absurd h (old b o e).2
      · exact .inr (.inr h)
    · obtain ⟨ws, p, r⟩ := cs'.acc
      obtain ⟨V, F, En, N⟩ := cs'.st.frm
      obtain ⟨m, hm, _⟩ := F.loc
      have ks : Keeps s s' := by
        have kh := cs'.st.keep
        obtain ⟨h', tk, e⟩ := cs'.st.same
        obtain ⟨h, t, e'⟩ := y.same
        have kh' : KH s.heap s'.heap := fun b o e => kh b o (kp_kh q.1 b o e)
        subst e'
        exact ⟨h', tk, e, fun b o z => by have := kh' b o z; rw [e] at this; exact this⟩
      exact hfin s' _ _ ws m (none_of_kh (kp_kh q.1) hL) (none_of_kh (kp_kh q.1) hC) hne ks p r hm
  exact compStart_any rfl go (W.self 0 _ _ _ (W.frame _ _ _ hT fun b hb o e => k4 b o e) go)

theorem clos_ok {scope : Scope} {tv fv : List Str} {caps : List Ent} (K : Ok c Γ) (S : Scp scope tv fv) (Q : Caps c Γ ρ fv caps) : closureFor scope c.env = pure (closOf c.env.cells scope.names []) :=
  closureFor_eq fun _ hn => let ⟨a, ha, _⟩ := caps_cell K S Q (free_mem S hn); ⟨a, ha⟩
/-- a comprehension as an expression -/
theorem El.comp {elt iter : Expr} {t : Expr} {ifs : List Expr} {gs : List Comprehension} {scope : Scope} {pos : Pos} {tv fv : List Str} {caps : List Ent} {d : D} {ds out : List D}
    (S : scpOk scope tv fv = true) (Q : Caps c Γ ρ fv caps) (hv : Ev c Γ ρ iter d) (hi : Itr d ds) (hr : ∀ c', Inn c c' scope → Runs c' (inSig tv fv) (.ListComp elt (⟨t, iter, ifs, 0⟩ :: gs) scope pos) (anys tv ++ caps) ds out)
    (hf : ∀ x, foldedSetIterable iter c.env x = pure x := by intro _; rfl) (hg : firstAsync (⟨t, iter, ifs, 0⟩ :: gs) = false := by rfl) : El c Γ ρ (.ListComp elt (⟨t, iter, ifs, 0⟩ :: gs) scope pos) out := Hid.mk fun K s O y => by
  have S := Scp.of S
  rw [eval_ListComp, hg]
  refine wpAny_comprehension_free (use := none) rfl hf (clos_ok K S Q) S.kind (fun x hx hl => by obtain ⟨n, k⟩ := x; cases hl; exact mem_of_free S.nodup hx) (comp_core S Q hv hi hr K y fun s' L C ws m hL hC hne k p r hm => ?_)
  refine ⟨m, hm, fun h' hs => ⟨?_, L, ws, rfl, hL, p.extBut hs.extBut hne, r.mono fun a o n e => ⟨fun q => q.elim (fun z => n (.inl z)) fun z => n (.inr (.inl z)), hs.extBut a o (fun z => n (.inr (.inr z))) e⟩⟩⟩
  obtain ⟨h₁, tk, rfl, kh⟩ := k
  exact ⟨h', tk, rfl, fun b o e => hs.extBut b o (fun z => by rw [z, hC] at e; cases e) (kh b o e)⟩
/-- a comprehension that is stored into a local name of its own line -/
theorem Ex1.comp {elt iter : Expr} {t : Expr} {ifs : List Expr} {gs : List Comprehension} {scope : Scope} {pos py spos : Pos} {x : Str} {tv fv : List Str} {caps : List Ent} {d : D} {ds out : List D} {ρ' : List Ent} {Qp : Post}
    (S : scpOk scope tv fv = true) (Q : Caps c Γ ρ fv caps) (hv : Ev c Γ ρ iter d) (hi : Itr d ds) (hr : ∀ c', Inn c c' scope → Runs c' (inSig tv fv) (.ListComp elt (⟨t, iter, ifs, 0⟩ :: gs) scope pos) (anys tv ++ caps) ds out)
    (hp : Put Γ.vars ρ x (.dat (.list out)) ρ') (hq : Qp .next ρ')
    (hsw : swapsWith (.ListComp elt (⟨t, iter, ifs, 0⟩ :: gs) scope pos) (some (.Name x py)) spos.line c.env = pure true)
    (hf : ∀ x, foldedSetIterable iter c.env x = pure x := by intro _; rfl) (hg : firstAsync (⟨t, iter, ifs, 0⟩ :: gs) = false := by rfl) : Ex1 c Γ ρ (.Assign [.Name x py] (.ListComp elt (⟨t, iter, ifs, 0⟩ :: gs) scope pos) spos) Qp := Hid.mk fun K s O y => by
  have S := Scp.of S
  rw [exec_Assign_Name_used _ _ _ _ hsw]
  refine wpAny_bind (wpAny_standAt (wpAny_bind ?_))
  show wpAny _ c.A (do let _ ← comprehension (.ListComp elt (⟨t, iter, ifs, 0⟩ :: gs) scope pos) scope c.env _ (newList []) (firstAsync (⟨t, iter, ifs, 0⟩ :: gs)) (eval iter c.env) (some (PySem.assign (.Name x py) c.env))) _ _ s
  rw [hg]
  refine wpAny_bind (wpAny_mono (wpAny_comprehension_free (E := no) (use := some (PySem.assign (.Name x py) c.env)) (Q := fun _ s' => ExP c Γ Qp O s .next s') rfl hf (clos_ok K S Q) S.kind (fun x hx hl => by obtain ⟨n, k⟩ := x; cases hl; exact mem_of_free S.nodup hx)
    (comp_core S Q hv hi hr K y fun s' L C ws m hL hC hne k p r hm => ?_)) (fun _ s' hq => wpAny_pure (wpAny_pure hq)) nono)
  have hCe : ∃ o, s'.heap.get? C = some o := let ⟨o, _, _, z, _⟩ := hm; ⟨o, z⟩
  obtain ⟨y₁, V, F, En, N, hoff⟩ := y.own k hC hCe
  have ow := own_new (O' := fun b => O b ∨ b = C) K y hC (.inr rfl)
  refine wpAny_assign_Name (st_storeX K y₁ hp ⟨_, rfl, .list (fun q => q.elim (Dom.fresh y.dom hL) hne) p.isList (r.less fun b q => q.imp id .inr)⟩ F En N (fun _ q => by cases q) (by exact .nil) fun s'' y₂ f l hV => ?_)
  obtain ⟨V', F', En', N', hV'⟩ := hV
  have hC2 : ∀ o, s'.heap.get? C = some o → s''.heap.get? C = some o := fun o e => l C o ow.offL (fun x _ _ e => ow.offC x C (mem_of_lookup e) rfl) e
  refine ⟨m, let ⟨o, es, ep, z, w⟩ := hm; ⟨o, es, ep, hC2 o z, w⟩, fun h' hs => ?_⟩
  refine ⟨.next, ρ', _, trivial, y₂.drop (tk := s''.toks) K (.inr rfl) ow.fresh ow.offL ow.offC ⟨V', F', En', N', fun q => (hV' C q).elim hoff fun z => by cases z⟩ hs.extBut, ?_, hq⟩
  have f2 : Fc (fun b => O b ∨ b = C) s'' (fun b => (O b ∨ b = C) ∧ b ≠ C) { s'' with heap := h' } := ⟨fun b o n e => hs.extBut b o (fun z => n (.inr z)) e, fun b q => .inl q.1⟩
  exact Fc.tr (O' := fun b => O b ∨ b = C) ⟨fun b o _ e => kp_kh k b o e, fun b q => q.elim .inl fun e => .inr (e ▸ hC)⟩ (f.tr f2)
end
end Mine

namespace Mine
open PySem PySem.Calls PyProof.Rows PySem.SeqAt

/-! clauses by functions -/
section
variable {c : Cx} {Γ : Sig}
theorem CL1.gen {α : Type} {t elt : Expr} {ifs : List Expr} (g : α → D) (p : α → Bool) (f : α → D) (Pre : List Ent → Prop) : ∀ (l : List α) (ρ : List Ent), Pre ρ →
    (∀ a ∈ l, ∀ ρ, Pre ρ → ∃ ρ₁, Asg c Γ ρ t (g a) ρ₁ ∧ calm ρ₁ = true ∧ Ts c Γ ρ₁ ifs (p a) ∧ Pre ρ₁ ∧ (p a = true → Es c Γ ρ₁ elt (f a))) → CL1 c Γ t ifs elt (l.map g) ρ ((l.filter p).map f) Pre
  | [], ρ, h, _ => ⟨rfl, h⟩
  | a :: l, ρ, h, H => by
    obtain ⟨ρ₁, h1, h2, h3, h4, h5⟩ := H a (.head _) ρ h
    have ih := CL1.gen g p f Pre l ρ₁ h4 fun b hb => H b (.tail _ hb)
    refine ⟨ρ₁, p a, h1, h2, h3, fun hb => ?_, fun hb => ⟨f a, (l.filter p).map f, ?_, h5 hb, ih⟩⟩
    · rw [List.filter_cons_of_neg (by rw [hb]; decide)]; exact ih
    · rw [List.filter_cons_of_pos hb, List.map_cons]
theorem CL2.gen {α β : Type} {t₁ t₂ i₂ elt : Expr} {f₁ f₂ : List Expr} (g : α → D) (p₁ : α → Bool) (l₂ : α → List β) (g₂ : β → D) (p₂ : α → β → Bool) (f : α → β → D) (Pre : List Ent → Prop) (Mid : α → List Ent → Prop) (hM : ∀ a ρ, Mid a ρ → Pre ρ) : ∀ (l : List α) (ρ : List Ent), Pre ρ →
    (∀ a ∈ l, ∀ ρ, Pre ρ → ∃ ρ₁, Asg c Γ ρ t₁ (g a) ρ₁ ∧ calm ρ₁ = true ∧ Ts c Γ ρ₁ f₁ (p₁ a) ∧ Mid a ρ₁ ∧ (p₁ a = true → ∃ d', Es c Γ ρ₁ i₂ d' ∧ Itr d' ((l₂ a).map g₂))) →
    (∀ a ∈ l, p₁ a = true → ∀ b ∈ l₂ a, ∀ ρ, Mid a ρ → ∃ ρ₁, Asg c Γ ρ t₂ (g₂ b) ρ₁ ∧ calm ρ₁ = true ∧ Ts c Γ ρ₁ f₂ (p₂ a b) ∧ Mid a ρ₁ ∧ (p₂ a b = true → Es c Γ ρ₁ elt (f a b))) →
    CL2 c Γ t₁ f₁ t₂ i₂ f₂ elt (l.map g) ρ ((l.filter p₁).flatMap fun a => ((l₂ a).filter (p₂ a)).map (f a))
  | [], ρ, h, _, _ => rfl
  | a :: l, ρ, h, H, H2 => by
    obtain ⟨ρ₁, h1, h2, h3, h4, h5⟩ := H a (.head _) ρ h
    have ih := fun ρ h => CL2.gen g p₁ l₂ g₂ p₂ f Pre Mid hM l ρ h (fun b hb => H b (.tail _ hb)) fun b hb => H2 b (.tail _ hb)
    refine ⟨ρ₁, p₁ a, h1, h2, h3, fun hb => ?_, fun hb => ?_⟩
    · rw [List.filter_cons_of_neg (by rw [hb]; decide)]; exact ih ρ₁ (hM a _ h4)
    · obtain ⟨d', hd, hi⟩ := h5 hb
      refine ⟨d', _, ((l₂ a).filter (p₂ a)).map (f a), (l.filter p₁).flatMap fun a => ((l₂ a).filter (p₂ a)).map (f a), ?_, hd, hi, ?_⟩
      · rw [List.filter_cons_of_pos hb, List.flatMap_cons]
      · have := CL1.gen g₂ (p₂ a) (f a) (Mid a) (l₂ a) ρ₁ h4 (H2 a (.head _) hb)
        exact cl1_mono this fun ρ hρ => ih ρ (hM a ρ hρ)
where
  cl1_mono {c : Cx} {Γ : Sig} {t elt : Expr} {ifs : List Expr} {R R' : List Ent → Prop} : ∀ {ds : List D} {ρ : List Ent} {out : List D}, CL1 c Γ t ifs elt ds ρ out R → (∀ ρ, R ρ → R' ρ) → CL1 c Γ t ifs elt ds ρ out R'
    | [], _, _, h, k => ⟨h.1, k _ h.2⟩
    | _ :: _, _, _, h, k => by
      obtain ⟨ρ₁, b, h1, h2, h3, h4, h5⟩ := h
      exact ⟨ρ₁, b, h1, h2, h3, fun hb => cl1_mono (h4 hb) k, fun hb => let ⟨y, o, e, hy, hr⟩ := h5 hb; ⟨y, o, e, hy, cl1_mono hr k⟩⟩
/-- one name, the first of the frame -/
theorem CL1.one {α : Type} {x : Str} {px : Pos} {elt : Expr} {ifs : List Expr} {fv : List Str} {caps : List Ent} (l : List α) (g : α → D) (p : α → Bool) (f : α → D) (hc : calm caps = true)
    (ht : ∀ a ∈ l, Ts c (inSig [x] fv) (.dat (g a) :: caps) ifs (p a)) (he : ∀ a ∈ l, p a = true → Es c (inSig [x] fv) (.dat (g a) :: caps) elt (f a)) :
    CL1 c (inSig [x] fv) (.Name x px) ifs elt (l.map g) (anys [x] ++ caps) ((l.filter p).map f) fun _ => True := by
  refine CL2.gen.cl1_mono (CL1.gen g p f (fun ρ => ∃ e, ρ = e :: caps) l _ ⟨.any, rfl⟩ fun a ha ρ hρ => ?_) fun _ _ => trivial
  obtain ⟨e, rfl⟩ := hρ
  exact ⟨.dat (g a) :: caps, Asg.name Put.here, hc, ht a ha, ⟨_, rfl⟩, he a ha⟩
theorem CL1.all {α : Type} {x : Str} {px : Pos} {elt : Expr} {fv : List Str} {caps : List Ent} (l : List α) (g : α → D) (f : α → D) (hc : calm caps = true)
    (he : ∀ a ∈ l, Es c (inSig [x] fv) (.dat (g a) :: caps) elt (f a)) : CL1 c (inSig [x] fv) (.Name x px) [] elt (l.map g) (anys [x] ++ caps) (l.map f) fun _ => True := by
  have := CL1.one (px := px) (elt := elt) l g (fun _ => true) f hc (fun a _ => Ts.nil) fun a ha _ => he a ha
  rwa [List.filter_eq_self.mpr fun _ _ => rfl] at this
/-- a pair, the first two of the frame -/
theorem CL1.pair {α : Type} {x y : Str} {px py pp : Pos} {kk : Nat} {elt : Expr} {ifs : List Expr} {fv : List Str} {caps : List Ent} (l : List α) (g₁ g₂ : α → D) (p : α → Bool) (f : α → D) (hc : calm caps = true)
    (ht : ∀ a ∈ l, Ts c (inSig [x, y] fv) (.dat (g₁ a) :: .dat (g₂ a) :: caps) ifs (p a)) (he : ∀ a ∈ l, p a = true → Es c (inSig [x, y] fv) (.dat (g₁ a) :: .dat (g₂ a) :: caps) elt (f a)) :
    CL1 c (inSig [x, y] fv) (.Tuple [.Name x px, .Name y py] kk pp) ifs elt (l.map fun a => .tup [g₁ a, g₂ a]) (anys [x, y] ++ caps) ((l.filter p).map f) fun _ => True := by
  refine CL2.gen.cl1_mono (CL1.gen (fun a => .tup [g₁ a, g₂ a]) p f (fun ρ => ∃ e e', ρ = e :: e' :: caps) l _ ⟨.any, .any, rfl⟩ fun a ha ρ hρ => ?_) fun _ _ => trivial
  obtain ⟨e, e', rfl⟩ := hρ
  exact ⟨.dat (g₁ a) :: .dat (g₂ a) :: caps, Asg.tup (.cons Put.here (.cons (.there .here) .nil)), hc, ht a ha, ⟨_, _, rfl⟩, he a ha⟩
end

/-! the defs of the text -/
def bodyOf (p : Program) (i : Nat) : List Stmt := match p.main.body[i]? with
  | some (.FunctionDef _ _ body ..) => body
  | _ => []
def scopeOf (p : Program) (i : Nat) : Scope := match p.main.body[i]? with
  | some (.FunctionDef (scope := sc) ..) => sc
  | _ => { kind := .module, names := [], isGenerator := false, isCoroutine := false }
def fnOk (scope : Scope) (vars : List Str) : Bool :=
  scope.kind == .function && !scope.isCoroutine && !scope.isGenerator && decide (scope.names.map (·.1)).Nodup && vars.all (fun x => (scope.names.lookup x == some .local || scope.names.lookup x == some .cell) && !(x == ("__debug__" : Str))) && decide vars.Nodup
structure FnAt (G : Gd) (f : Addr) (n : Nat) (ps : List Str) (body : List Stmt) (scope : Scope) : Prop where
  ex : ∃ o fd, G.hT.get? f = some o ∧ o.data = .func fd ∧ fd.body = .stmts body ∧ fd.scope = scope ∧ fd.closure = [] ∧ fd.globals = mainGlobals ∧ fd.builtins = builtinsNs ∧ G.hT.CodeRec fd.code fd.qualname ∧
    ∀ vals : List Value, vals.length = n → bindArgs fd ⟨vals, []⟩ = pure (ps.zip vals)

theorem cellsFrom_mem {x : Str} {a : Addr} : ∀ (names : List (Str × NameKind)) (n : Nat) (acc : List (Str × Addr)), (x, a) ∈ cellsFrom n names acc → (x, a) ∈ acc ∨ ((x, NameKind.cell) ∈ names ∧ n ≤ a)
  | [], _, _, h => .inl h
  | (y, k) :: r, n, acc, h => by
    unfold cellsFrom at h
    by_cases hk : (k == .cell) = true
    · rw [if_pos hk] at h
      have hk' : k = .cell := by simpa using hk
      subst hk'
      rcases cellsFrom_mem r _ _ h with h | ⟨h1, h2⟩
      · rcases List.mem_cons.mp h with h | h
        · cases h; exact .inr ⟨.head _, Nat.le_refl _⟩
        · exact .inl h
      · exact .inr ⟨.tail _ h1, Nat.le_of_succ_le h2⟩
    · rw [if_neg hk] at h
      rcases cellsFrom_mem r _ _ h with h | ⟨h1, h2⟩
      · exact .inl h
      · exact .inr ⟨.tail _ h1, h2⟩
theorem cellsFrom_apart {x : Str} : ∀ (names : List (Str × NameKind)) (n : Nat) (acc : List (Str × Addr)), (names.map (·.1)).Nodup → (∀ b, (x, b) ∈ acc → x ∉ names.map (·.1)) → ∀ a b, (∀ a b, (x, a) ∈ acc → (x, b) ∈ acc → a = b) → (x, a) ∈ cellsFrom n names acc → (x, b) ∈ cellsFrom n names acc → a = b
  | [], _, _, _, _, _, _, u, ha, hb => u _ _ ha hb
  | (y, k) :: r, n, acc, hn, ho, a, b, u, ha, hb => by
    rw [List.map_cons, List.nodup_cons] at hn
    unfold cellsFrom at ha hb
    have ho' : ∀ b, (x, b) ∈ acc → x ∉ r.map (·.1) := fun b h z => ho b h (.tail _ z)
    by_cases hk : (k == .cell) = true
    · rw [if_pos hk] at ha hb
      refine cellsFrom_apart r _ _ hn.2 (fun b h => ?_) a b (fun a b ha hb => ?_) ha hb
      · rcases List.mem_cons.mp h with h | h
        · cases h; exact hn.1
        · exact ho' b h
      · rcases List.mem_cons.mp ha with ha' | ha'
        · rcases List.mem_cons.mp hb with hb' | hb'
          · cases ha'; cases hb'; rfl
          · cases ha'; exact absurd (.head _) (ho b hb')
        · rcases List.mem_cons.mp hb with hb' | hb'
          · cases hb'; exact absurd (.head _) (ho a ha')
          · exact u _ _ ha' hb'
    · rw [if_neg hk] at ha hb
      exact cellsFrom_apart r _ _ hn.2 ho' a b u ha hb

theorem bind_old {k : Str → Option NameKind} {x : Str} : ∀ (binds : List (Str × Value)) (m : Str → Option Value), x ∉ binds.map (·.1) → bindL k binds m x = m x ∧ bindC k binds m x = m x
  | [], _, _ => ⟨rfl, rfl⟩
  | (n, v) :: r, m, h => by
    rw [List.map_cons, List.mem_cons, not_or] at h
    unfold bindL bindC
    have h1 := bind_old (k := k) r (if k n = some .local then fun y => if y = n then some v else m y else m) h.2
    have h2 := bind_old (k := k) r (if k n = some .local then m else fun y => if y = n then some v else m y) h.2
    rw [h1.1, h2.2]
    constructor <;> split <;> simp [h.1]
theorem bind_at {k : Str → Option NameKind} {x : Str} {v : Value} : ∀ (binds : List (Str × Value)) (m m' : Str → Option Value), (binds.map (·.1)).Nodup → (x, v) ∈ binds → (if k x = some .local then bindL k binds m x else bindC k binds m' x) = some v
  | (n, u) :: r, m, m', hn, h => by
    rw [List.map_cons, List.nodup_cons] at hn
    unfold bindL bindC
    rcases List.mem_cons.mp h with h | h
    · cases h
      by_cases hk : k x = some .local
      · rw [if_pos hk, (bind_old r _ hn.1).1, if_pos hk, if_pos rfl]
      · rw [if_neg hk, (bind_old r _ hn.1).2, if_neg hk, if_pos rfl]
    · exact bind_at r _ _ hn.2 h

theorem ents_params {c : Cx} {O O' : Addr → Prop} {h₀ h : Heap} {V : Str → Option Value} (kh : KH h₀ h) (hO : ∀ a, O' a → h₀.get? a = none ∨ O a) : ∀ (ps : List Str) (vs : List Value) (ds : List D) {xs : List (Str × Bool)} {es : List Ent}, ps.length = vs.length → RdL O h₀ vs ds → (∀ x v, (x, v) ∈ ps.zip vs → V x = some v) →
    Ents c O' h V xs es → Ents c O' h V (ps.map (·, true) ++ xs) (ds.map .dat ++ es)
  | [], [], [], _, _, _, _, _, r => r
  | p :: ps, v :: vs, _, _, _, hl, .cons rd rs, hV, r => ⟨⟨v, hV p v (.head _), (rd.own hO).keep kh⟩, ents_params kh hO ps vs _ (by simpa using hl) rs (fun x u hx => hV x u (.tail _ hx)) r⟩
  | [], _ :: _, _, _, _, hl, _, _, _ => by cases hl
  | _ :: _, [], _, _, _, hl, _, _, _ => by cases hl
theorem ents_rest {c : Cx} {O : Addr → Prop} {h : Heap} {V : Str → Option Value} : ∀ (rest : List Str), Ents c O h V (rest.map (·, true)) (anys rest)
  | [] => trivial
  | _ :: r => ⟨trivial, ents_rest r⟩
def fnPost (d : D) : Post := fun f _ => match f with | .ret d' => d' = d | _ => d = .none
theorem calm_dats : ∀ (ds : List D) (rest : List Str), calm (ds.map .dat ++ anys rest) = true
  | [], [] => rfl
  | [], _ :: r => by
    show (true && List.all (anys r) Ent.calm) = true
    rw [Bool.true_and]; exact calm_dats [] r
  | _ :: ds, r => by
    show (true && List.all (ds.map .dat ++ anys r) Ent.calm) = true
    rw [Bool.true_and]; exact calm_dats ds r

theorem fnc_of {G : Gd} {f : Addr} {ps rest : List Str} {body : List Stmt} {scope : Scope} {lv : Nat} {ds : List D} {d : D} (F : FnAt G f ps.length ps body scope) (hk : fnOk scope (ps ++ rest) = true) (hl : ds.length = ps.length)
    (hb : ∀ c : Cx, c.G = G → c.lv = lv → c.env.scope = scope → Ex c ⟨(ps ++ rest).map (·, true)⟩ (ds.map .dat ++ anys rest) body (fnPost d)) : FnC G (lv + 1) f ds d := by
  intro A O s vs R kt D rl
  obtain ⟨o, fd, ho, hfd, hbody, hsc, hclo, hgl, hbu, hcd, hbind⟩ := F.ex
  simp only [fnOk, Bool.and_eq_true, List.all_eq_true, decide_eq_true_eq, Bool.not_eq_true', beq_iff_eq, Bool.or_eq_true] at hk
  obtain ⟨⟨⟨⟨⟨k1, k2⟩, k3⟩, k4⟩, k5⟩, k6⟩ := hk
  have hvl : vs.length = ps.length := rl.length.trans hl
  have hlen : ps.length = vs.length := hvl.symm
  have hkeys : (ps.zip vs).map (·.1) = ps := by rw [List.map_fst_zip]; omega
  subst hsc
  have hpn : ((ps.zip vs).map (·.1)).Nodup := by rw [hkeys]; exact (List.nodup_append.mp k6).1
  refine wpAny_call (codeAny_call_cells (by have := R.depth; unfold recursionLimit; omega) (kt f o ho) hfd (G.lim.keeps kt) (hcd.keeps kt) hbody (hbind vs hvl) hclo (fun x hx => ?_) (fun s₁ x => ?_) k2 k3 k1)
  · have hx' : x.1 ∈ ps := by rw [← hkeys]; exact List.mem_map_of_mem hx
    have := (k5 x.1 (List.mem_append_left _ hx')).1
    rcases this with h | h
    · exact .inl h
    · exact .inr ⟨h, PySem.W.cellsFrom_some _ _ _ (.inl h)⟩
  · obtain ⟨⟨h₁, tk, rfl⟩, hns, kh, hfr⟩ := x.toInCall
    have kO : ∀ y, (callEnvC fd s.heap.objs.size f).kindOf y = fd.scope.names.lookup y := fun y => rfl
    have cm : ∀ y a, (y, a) ∈ (callEnvC fd s.heap.objs.size f).cells → (y, NameKind.cell) ∈ fd.scope.names ∧ s.heap.objs.size < a := fun y a h => by
      rcases cellsFrom_mem _ _ _ h with h | ⟨h1, h2⟩
      · cases h
      · exact ⟨h1, h2⟩
    have fresh : ∀ a, s.heap.objs.size ≤ a → s.heap.get? a = none := fun a ha => by
      cases e : s.heap.get? a with
      | none => rfl
      | some o' => exact absurd (Heap.lt_size e) (Nat.not_lt.mpr ha)
    have kcell : ∀ y a, (y, a) ∈ (callEnvC fd s.heap.objs.size f).cells → (callEnvC fd s.heap.objs.size f).cells.lookup y = some a ∧ (callEnvC fd s.heap.objs.size f).kindOf y = some .cell := fun y a h =>
      ⟨lookup_of_one h fun b hb => cellsFrom_apart _ _ _ k4 (fun _ z => by cases z) b a (fun _ _ z => by cases z) hb h, by rw [kO]; exact mem_of_free k4 (cm y a h).1⟩
    let c : Cx := { G := G, A := A.deeper (callEnvC fd s.heap.objs.size f), env := callEnvC fd s.heap.objs.size f, hB := s.heap, B := O, s₀ := s, lv := lv }
    have K : Ok c ⟨(ps ++ rest).map (·, true)⟩ := by
      refine ⟨k1, fun y b hy => ?_, ?_, x.apart, fun y a h e => ?_, fun y a h => ?_, fresh _ (Nat.le_refl _), fun a h => D a h, hgl, hbu, kt, ⟨R.hand, ?_, ?_⟩⟩
      · obtain ⟨z, hz, e⟩ := List.mem_map.mp hy; cases e
        refine ⟨(k5 y hz).2, (k5 y hz).1.imp id fun h => ⟨.inl h, ?_⟩⟩
        obtain ⟨a, ha⟩ := Option.isSome_iff_exists.mp (PySem.W.cellsFrom_some (x := y) fd.scope.names (s.heap.objs.size + 1) [] (.inl h))
        exact ⟨a, ha, fun _ => fresh a (Nat.le_of_lt (cm y a (mem_of_lookup ha)).2)⟩
      · show (((ps ++ rest).map (·, true)).map (·.1)).Nodup
        rw [List.map_map, show ((·.1) ∘ fun (x : Str) => (x, true)) = id from rfl, List.map_id]; exact k6
      · exact absurd e (Nat.ne_of_gt (cm y a h).2)
      · exact ⟨(kcell y a h).1, by rw [show c.env.kindOf y = _ from (kcell y a h).2]; decide⟩
      · have := R.depth
        show A.depth + 1 + 20 * lv ≤ 900
        omega
      · have := R.units
        show A.units + 3 + 20 * lv ≤ 9000
        omega
    have y : St c ⟨(ps ++ rest).map (·, true)⟩ (fun b => O b ∨ b = s.heap.objs.size ∨ ∃ y, (y, b) ∈ c.env.cells) (ds.map .dat ++ anys rest) { s with heap := h₁, toks := tk } := by
      refine ⟨⟨h₁, tk, rfl⟩, kh, fun a h => .inl h, fun a h => ?_, .inr (.inl rfl), fun y a _ _ h => .inr (.inr ⟨y, mem_of_lookup h⟩), fun y => if c.env.kindOf y = some .local then bindL c.env.kindOf (ps.zip vs) (fun _ => none) y else bindC c.env.kindOf (ps.zip vs) (fun _ => none) y, ⟨⟨_, hns, fun y hy => by rw [if_pos hy]⟩, fun y a hn h => ?_⟩, ?_, ?_⟩
      · rcases h with h | rfl | ⟨y, h⟩
        · obtain ⟨o, e⟩ := D a h; exact ⟨o, kh a o e⟩
        · obtain ⟨o, _, _, z, _⟩ := hns; exact ⟨o, z⟩
        · obtain ⟨o, z, _⟩ := x.cell y a (kcell y a h).1; exact ⟨o, z⟩
      · rw [if_neg hn]; exact x.cell y a h
      · show Ents c _ _ _ ((ps ++ rest).map (·, true)) _
        rw [List.map_append]
        refine ents_params (h₀ := s.heap) (O := O) kh (fun a h => ?_) ps vs ds hlen rl (fun z v hz => bind_at _ _ _ hpn hz) (ents_rest rest)
        rcases h with h | rfl | ⟨y, h⟩
        · exact .inr h
        · exact .inl (fresh _ (Nat.le_refl _))
        · exact .inl (fresh _ (Nat.le_of_lt (cm y a h).2))
      · rw [calm_muts (calm_dats ds rest)]; exact .nil
    refine wpAny_mono ((hb c rfl rfl rfl).out K _ _ y) (fun fl s' q => ?_) nono
    obtain ⟨f', ρ', O', hf, y', fc, hq⟩ := q
    have ks : Keeps s s' := by
      have kk := y'.keep
      obtain ⟨h', tk', rfl⟩ := y'.same
      exact ⟨h', tk', rfl, kk⟩
    cases fl <;> cases f' <;> first | exact hf.elim | skip
    · exact ⟨ks, by rw [show d = .none from hq]; exact .none⟩
    · exact ⟨ks, by rw [show d = .none from hq]; exact .none⟩
    · exact ⟨ks, by rw [show d = .none from hq]; exact .none⟩
    · exact ⟨ks, by rw [← show _ = d from hq]; exact hf⟩
end Mine

namespace Mine
open PySem PySem.Calls PyProof.Rows PySem.SeqAt

/-! methods of texts and of own lists -/
section
variable {c : Cx} {Γ : Sig} {ρ : List Ent}
theorem mid_call {id : String} {es : List Expr} {ds : List D} {d₁ : D} {pos : Pos} {O : Addr → Prop} {s₁ : Shared} {ov : Value} {P : Value → Shared → Prop} (K : Ok c Γ) (x : St c Γ O ρ s₁) (ha : Evs c Γ ρ es ds) (w : W O s₁.heap ov d₁)
    (hn : (starEach es c.env).any (·.1) = false) (h : ∀ (s₂ : Shared) (vs : List Value), Keeps s₁ s₂ → Dom O s₂ → WL O s₂.heap vs (d₁ :: ds) → wpAny c.M c.A (call (.builtin id) vs []) P no s₂) :
    wpAny c.M c.A (callWith pos (.builtin id) [ov] (backTo pos (starEach es c.env)) []) P no s₁ := by
  have hp := noStars (ds := ds) hn pos
  refine callWith_builtin hp (evalArgs_all hp (wpAny_mono (ha.out K s₁ O pos x) (fun vs s₂ q => ?_) nono))
  exact h s₂ (ov :: vs) q.1 (Dom.keep x.dom q.1) (.cons (w.keep (kp_kh q.1)) q.2)
theorem Es.smeth {o : Expr} {name : Str} {apos pos : Pos} {es : List Expr} {ds : List D} {y : Str} {d : D} {id : String} (ho : Ev c Γ ρ o (.str y)) (slot : Slot "str" name id) (hty : typeOf (.builtin id) = pure (.type "method_descriptor")) (ha : Evs c Γ ρ es ds) (h : Cal (.builtin id) (.str y :: ds) d)
    (hn : (starEach es c.env).any (·.1) = false := by rfl) (hbase : attributeBase o name c.env (eval o c.env) = eval o c.env := by rfl)
    (hfew : ((backTo pos (starEach es c.env)).all (fun x => !x.1) && (backToKw pos (keywordEach [] c.env)).all (fun x => x.1.isSome) && decide (es.length + ([] : List Keyword).length + (if ([] : List Keyword).isEmpty then 0 else 1) < 30)) = true := by rfl)
    (hline : (apos.endLine == pos.line) = true := by rfl) : Es c Γ ρ (.Call (.Attribute o name apos) es [] pos) d := Hid.mk fun K s O x =>
  wpAny_Call_method hbase hfew hline PySem.F.plainAttrs_str slot hty (wpAny_mono (ho.out K s O x) (fun ov s₁ q => by
    have w := q.2
    obtain ⟨t, rfl⟩ := q.2.strE
    refine ⟨typeIs_str _ _ _, (fun a e => by cases e), mid_call (ρ := ρ) K (x.keeps q.1) ha w hn fun s₂ vs k D wl => ?_⟩
    exact wpAny_mono (h _ _ _ O s₂ vs K.r0 D wl) (fun v s₃ z => ⟨kp_tr (kp_tr q.1 k) z.1, z.2⟩) nono) nono)
theorem El.smeth {o : Expr} {name : Str} {apos pos : Pos} {es : List Expr} {ds : List D} {y : Str} {r : List D} {id : String} (ho : Ev c Γ ρ o (.str y)) (slot : Slot "str" name id) (hty : typeOf (.builtin id) = pure (.type "method_descriptor")) (ha : Evs c Γ ρ es ds) (h : CalL (.builtin id) (.str y :: ds) r)
    (hn : (starEach es c.env).any (·.1) = false := by rfl) (hbase : attributeBase o name c.env (eval o c.env) = eval o c.env := by rfl)
    (hfew : ((backTo pos (starEach es c.env)).all (fun x => !x.1) && (backToKw pos (keywordEach [] c.env)).all (fun x => x.1.isSome) && decide (es.length + ([] : List Keyword).length + (if ([] : List Keyword).isEmpty then 0 else 1) < 30)) = true := by rfl)
    (hline : (apos.endLine == pos.line) = true := by rfl) : El c Γ ρ (.Call (.Attribute o name apos) es [] pos) r := Hid.mk fun K s O x =>
  wpAny_Call_method hbase hfew hline PySem.F.plainAttrs_str slot hty (wpAny_mono (ho.out K s O x) (fun ov s₁ q => by
    have w := q.2
    obtain ⟨t, rfl⟩ := q.2.strE
    refine ⟨typeIs_str _ _ _, (fun a e => by cases e), mid_call (ρ := ρ) K (x.keeps q.1) ha w hn fun s₂ vs k D wl => ?_⟩
    exact wpAny_mono (h _ _ _ O s₂ vs K.r0 D wl) (fun v s₃ ⟨k', a, vs, e, n, z⟩ => ⟨kp_tr (kp_tr q.1 k) k', a, vs, e, none_of_kh (kp_kh (kp_tr q.1 k)) n, z⟩) nono) nono)
theorem Es.lmeth {x name : Str} {px apos pos : Pos} {es : List Expr} {ls ds : List D} {d : D} {id : String} (p : At Γ.vars ρ x (.mlist ls)) (slot : Slot "list" name id) (hty : typeOf (.builtin id) = pure (.type "method_descriptor")) (ha : Evs c Γ ρ es ds) (h : Cal (.builtin id) (.list ls :: ds) d)
    (hn : (starEach es c.env).any (·.1) = false := by rfl) (hbase : attributeBase (.Name x px) name c.env (eval (.Name x px) c.env) = eval (.Name x px) c.env := by rfl)
    (hfew : ((backTo pos (starEach es c.env)).all (fun x => !x.1) && (backToKw pos (keywordEach [] c.env)).all (fun x => x.1.isSome) && decide (es.length + ([] : List Keyword).length + (if ([] : List Keyword).isEmpty then 0 else 1) < 30)) = true := by rfl)
    (hline : (apos.endLine == pos.line) = true := by rfl) : Es c Γ ρ (.Call (.Attribute (.Name x px) name apos) es [] pos) d := Hid.mk fun K s O y =>
  wpAny_Call_method hbase hfew hline PySem.F.plainAttrs_list slot hty (st_name K y p (by intro q; cases q) fun v V F En N hv w => by
    obtain ⟨a, vs, e', ow, hl, r⟩ := w; cases e'
    refine ⟨hl.isList.typeIs, (fun b e => by cases e; exact let ⟨_, z⟩ := hl; ⟨_, z, rfl⟩), mid_call (ρ := ρ) K y ha (.l hl.isList r) hn fun s₂ vs k D wl => ?_⟩
    exact wpAny_mono (h _ _ _ O s₂ vs K.r0 D wl) (fun v s₃ z => ⟨kp_tr k z.1, z.2⟩) nono)
end

section
variable {x y : Str} {a b : Int}
/-! find between two places -/
def find4 (x y : Str) (lo hi : Nat) : Int := match Builtin.Str.occurrences x y lo hi 1 with | k :: _ => (k : Int) | [] => -1
theorem gives_find4 (x y : Str) (i j : Nat) (hj : j ≤ x.length) (t u v w : Tok) : Gives (Builtin.«str.find» ⟨[.str x t, .str y u, .int i v, .int j w], []⟩) (.int (find4 x y i j)) := by
  have e1 : (max 0 (if (i : Int) < 0 then (i : Int) + x.length else i)).toNat = i := by rw [if_neg (by omega)]; omega
  have e2 : min (max 0 (if (j : Int) < 0 then (j : Int) + x.length else j)).toNat x.length = j := by rw [if_neg (by omega)]; omega
  show Gives (match Builtin.Str.occurrences x y (max 0 (if (i : Int) < 0 then (i : Int) + x.length else i)).toNat (min (max 0 (if (j : Int) < 0 then (j : Int) + x.length else j)).toNat x.length) 1 with | k :: _ => PySem.retInt k | [] => (do rule "str.find.not-found"; PySem.retInt (-1))) _
  rw [e1, e2]
  unfold find4
  cases Builtin.Str.occurrences x y i j 1 with
  | nil => exact .rule (.of_eq rfl)
  | cons k _ => exact .of_eq rfl
theorem cal_find4 {i j : Nat} (hj : j ≤ x.length) : Cal (.builtin "str.find") [.str x, .str y, .int i, .int j] (.int (find4 x y i j)) := fun _ _ A O s vs R D wl => by
  cases wl with | cons w1 wl => cases wl with | cons w2 wl => cases wl with | cons w3 wl => cases wl with | cons w4 wl =>
  cases wl
  obtain ⟨t, rfl⟩ := w1.strE
  obtain ⟨t2, rfl⟩ := w2.strE
  obtain ⟨t3, rfl⟩ := w3.intE
  obtain ⟨t4, rfl⟩ := w4.intE
  exact call_gives PySem.F.slot_str_find (typeIs_str _ _ _) PySem.F.entry_str_find (PySem.F.args_str_find_4 _ _ _ _) (gives_find4 x y i j hj _ _ _ _) ⟨kp_tok s _, .int _ _⟩
theorem rdl_strs {O : Addr → Prop} {h : Heap} : ∀ (l : List Str) (n : Nat), RdL O h (strsFrom n l) (sL l)
  | [], _ => .nil
  | _ :: l, n => .cons (.str _ _) (rdl_strs l (n + 1))
theorem cal_split (h1 : (decide (x.length < y.length) || decide (Builtin.Str.strKind x < Builtin.Str.strKind y)) = false) (hy : (y.length == 0) = false) (hf : (Builtin.Str.occurrences x y 0 x.length (x.length + 1)).isEmpty = false) (hx : x.length ≤ sizeLine)
    {l : List Str} (hl : Builtin.Str.partsBetween x (Builtin.Str.occurrences x y 0 x.length (x.length + 1)) y.length = l) (hz : l.length ≤ sizeLine) : CalL (.builtin "str.split") [.str x, .str y] (sL l) := fun _ _ A O s vs R D wl => by
  cases wl with | cons w1 wl => cases wl with | cons w2 wl =>
  cases wl
  obtain ⟨t, rfl⟩ := w1.strE
  obtain ⟨t2, rfl⟩ := w2.strE
  refine call_meets PySem.F.slot_str_split (typeIs_str _ _ _) PySem.F.entry_str_split (PySem.F.args_str_split_2 _ _) (meets_str_split_sep x y t t2 h1 hy hf hx (hl ▸ hz)) ?_
  rw [hl]
  exact ⟨⟨_, _, rfl, fun _ _ e => Heap.get?_push_of_some _ e⟩, _, _, rfl, get_size _, ⟨_, Heap.get?_push_size _ rfl⟩, rdl_strs l _⟩
theorem cal_join {ys : List Str} (hok : (ys.map (·.length)).sum + ys.length * x.length ≤ 16777216) : Cal (.builtin "str.join") [.str x, .list (sL ys)] (.str (Txt.join x ys)) := fun _ _ A O s vs R D wl => by
  cases wl with | cons w1 wl => cases wl with | cons w2 wl =>
  cases wl
  obtain ⟨t, rfl⟩ := w1.strE
  obtain ⟨a, vs, rfl, hl, r⟩ := w2.lst
  exact join_list hl (strsAre r) hok fun t' k => ⟨kp_tok s k, .str _ _⟩
theorem cal_count {l : List Int} : Cal (.builtin "list.count") [.list (iL l), .int a] (.int (l.count a : Nat)) := fun _ _ A O s vs R D wl => by
  cases wl with | cons w1 wl => cases wl with | cons w2 wl =>
  cases wl
  obtain ⟨t, rfl⟩ := w2.intE
  obtain ⟨a, vs, rfl, hl, r⟩ := w1.lst
  exact count_list_ints hl (intsAre r) ⟨kp_tok s _, .int _ _⟩
theorem ints_nums {vs : List Value} {ns : List Int} (hi : IntsAre vs ns) : ∃ xs : Array (Int × Tok), vs.toArray = intItems xs ∧ ns = xs.toList.map (·.1) := by
  obtain ⟨xs, e⟩ := hi.allInts.items
  exact ⟨xs, e, by rw [← hi.numsOf, ← nums_intItems, ← e]⟩
theorem cal_sum {l : List Int} : Cal (.builtin "sum") [.list (iL l)] (.int l.sum) := cal1 fun _ _ A O s v R D w => by
  obtain ⟨a, vs, rfl, hl, r⟩ := w.lst
  obtain ⟨xs, e, rfl⟩ := ints_nums (intsAre r)
  rw [e] at hl
  refine sum_intListG R.hand hl fun h' tk t' hk => ?_
  rw [preSum_eq, List.take_of_length_le (by simp)]
  exact ⟨⟨_, _, rfl, hk⟩, .int _ _⟩
theorem cal_max {l : List Int} {M : Int} (hM : M ∈ l) (hle : ∀ a ∈ l, a ≤ M) : Cal (.builtin "max") [.list (iL l)] (.int M) := cal1 fun _ _ A O s v R D w => by
  obtain ⟨a, vs, rfl, hl, r⟩ := w.lst
  obtain ⟨xs, e, rfl⟩ := ints_nums (intsAre r)
  rw [e] at hl
  have hne := List.length_pos_of_mem hM
  rw [List.length_map, Array.length_toList] at hne
  refine max_intList R.hand hl hne fun v h' tk hv hk => ?_
  obtain ⟨t, rfl⟩ := intItems_at hv
  obtain ⟨h1, h2⟩ := argBest_gt (numAt xs) (xs.size - 1)
  have e : numAt xs (argBest (fun i j => decide (numAt xs i > numAt xs j)) (xs.size - 1)) = M := by
    apply Int.le_antisymm
    · refine hle _ ?_
      rw [numAt_eq]; exact getD_mem (by rw [List.length_map, Array.length_toList]; omega)
    · obtain ⟨j, hj, rfl⟩ := mem_getD hM
      rw [List.length_map, Array.length_toList] at hj
      rw [← numAt_eq]; exact h2 j (by omega)
  refine ⟨⟨_, _, rfl, hk⟩, ?_⟩
  rw [show argBest (fun i j => decide (numAt xs i > numAt xs j)) (xs.size - 1) = _ from rfl] at e
  rw [← e]; exact .int _ _
end
end Mine

namespace Mine
open PySem PySem.Calls PyProof.Rows PySem.SeqAt

/-! how data of one shape compare -/
structure EqF {α : Type} [BEq α] (F : α → D) (k : Nat) : Prop where
  law : ∀ a b : α, (a == b) = true ↔ a = b
  eq : ∀ (A : Around) (s : Shared) (O : Addr → Prop) (v u : Value) (a b : α), A.units + k < cLine → W O s.heap v (F a) → W O s.heap u (F b) → EqAt A s v u (a == b)
  uq : ∀ (h : Heap) (O : Addr → Prop) (v : Value) (a b : α), W O h v (F a) → W O h v (F b) → a = b
theorem eqf_int : EqF D.int 0 := ⟨fun _ _ => beq_iff_eq, fun A s O v u a b _ w1 w2 => by
  obtain ⟨t, rfl⟩ := w1.intE
  obtain ⟨t', rfl⟩ := w2.intE
  exact EqAt.int_int a t b t', fun h O v a b w1 w2 => by
  obtain ⟨t, rfl⟩ := w1.intE
  obtain ⟨t', e⟩ := w2.intE
  cases e; rfl⟩
theorem wl_of {O : Addr → Prop} {h : Heap} {vs : List Value} {ds : List D} (r : RdL O h vs ds) {i : Nat} {d : D} (e : ds[i]? = some d) (hi : i < vs.toArray.size) : W O h vs.toArray[i] d := by
  obtain ⟨v, hv, rd⟩ := r.get e
  have hi' : i < vs.length := by simpa using hi
  rw [List.getElem?_eq_getElem hi'] at hv
  cases hv
  exact .s rd
theorem map_eq_of {α : Type} {F : α → D} {h : Heap} {O : Addr → Prop} (uq : ∀ (h : Heap) (O : Addr → Prop) (v : Value) (a b : α), W O h v (F a) → W O h v (F b) → a = b) : ∀ {vs : List Value} {xs ys : List α}, RdL O h vs (xs.map F) → RdL O h vs (ys.map F) → xs = ys
  | [], [], [], _, _ => rfl
  | [], _ :: _, _, r, _ => by cases r
  | [], [], _ :: _, _, r => by cases r
  | _ :: _, [], _, r, _ => by cases r
  | _ :: _, _ :: _, [], _, r => by cases r
  | _ :: _, _ :: _, _ :: _, .cons a r, .cons b q => by rw [uq h O _ _ _ (.s a) (.s b), map_eq_of uq r q]
section
variable {α : Type} [BEq α] {F : α → D} {k : Nat} (X : EqF F k)
include X
theorem eqf_lawful : LawfulBEq α := { eq_of_beq := fun h => (X.law _ _).mp h, rfl := (X.law _ _).mpr rfl }
omit X in
theorem all_same {xs ys : List α} (h : xs.length = ys.length) : (List.range xs.length).all (fun j => (xs[j]?.bind fun a => ys[j]?.map fun b => a == b).getD true) = (xs == ys) := by
  induction xs generalizing ys with
  | nil => cases ys with
    | nil => rfl
    | cons y ys => cases h
  | cons x xs ih => cases ys with
    | nil => cases h
    | cons y ys =>
      have h' : xs.length = ys.length := by simpa using h
      rw [List.length_cons, List.range_succ_eq_map, List.all_cons, List.all_map]
      have := ih h'
      show ((x == y) && _) = (x == y && xs == ys)
      rw [← this]
      rfl
/-- two lists, address by address -/
theorem lists_at {A : Around} {s : Shared} {O : Addr → Prop} {l b : Addr} {vs us : List Value} {xs ys : List α} (hu : A.units + (k + 1) < cLine) (hl : s.heap.IsList l vs.toArray) (hb : s.heap.IsList b us.toArray) (r : RdL O s.heap vs (xs.map F)) (q : RdL O s.heap us (ys.map F)) :
    RcAt A s (.ref l) (.ref b) (xs == ys) ∧ RcNeAt A s (.ref l) (.ref b) (xs != ys) := by
  have L1 := r.length
  have L2 := q.length
  rw [List.length_map] at L1 L2
  have hu1 : A.units < cLine := by omega
  by_cases hz : xs.length = ys.length
  · have e := all_same hz
    have hsz : vs.toArray.size = us.toArray.size := by simp; omega
    have hN : vs.toArray.size = xs.length := by simp; omega
    have he : ∀ j (h1 : j < vs.toArray.size) (h2 : j < us.toArray.size), EqAt A.in1 s vs.toArray[j] us.toArray[j] ((xs[j]?.bind fun a => ys[j]?.map fun b => a == b).getD true) := fun j h1 h2 => by
      have j1 : j < xs.length := by omega
      have j2 : j < ys.length := by omega
      have w1 := wl_of r (d := F xs[j]) (by rw [List.getElem?_map, List.getElem?_eq_getElem j1]; rfl) h1
      have w2 := wl_of q (d := F ys[j]) (by rw [List.getElem?_map, List.getElem?_eq_getElem j2]; rfl) h2
      have := X.eq A.in1 s O _ _ _ _ (by show A.units + 1 + k < cLine; omega) w1 w2
      rw [List.getElem?_eq_getElem j1, List.getElem?_eq_getElem j2]
      exact this
    have z1 := RcAt.lists hl hb hsz hu1 he
    have z2 := RcNeAt.lists hl hb hsz hu1 he
    rw [hN, e] at z1 z2
    exact ⟨z1, z2⟩
  · have hsz : (vs.toArray.size != us.toArray.size) = true := by simp; omega
    have e : (xs == ys) = false := by
      have := eqf_lawful X
      apply beq_false_of_ne
      rintro rfl; exact hz rfl
    rw [bne, e]
    exact ⟨RcAt.lists_lengths hl hb hsz hu1, RcNeAt.lists_lengths hl hb hsz hu1⟩
omit [BEq α] X in
theorem room_ok {A : Around} (R : Room 0 A) {j : Nat} (hj : j ≤ 800) : A.units + j < cLine := by
  have := R.units; unfold cLine; omega
theorem cmp_leq {xs ys : List α} (hk : k ≤ 50 := by decide) : Cmp .Eq (.list (xs.map F)) (.list (ys.map F)) (xs == ys) := fun prog w A O s v u R D wa wb => by
  obtain ⟨l, vs, rfl, hl, r⟩ := wa.lst
  obtain ⟨m, us, rfl, hm, q⟩ := wb.lst
  exact PySem.EqBoolInt.of_rc (lists_at X (room_ok R (by omega)) hl hm r q).1 ⟨kp_refl s, rfl⟩
theorem cmp_lne {xs ys : List α} (hk : k ≤ 50 := by decide) : Cmp .NotEq (.list (xs.map F)) (.list (ys.map F)) (xs != ys) := fun prog w A O s v u R D wa wb => by
  obtain ⟨l, vs, rfl, hl, r⟩ := wa.lst
  obtain ⟨m, us, rfl, hm, q⟩ := wb.lst
  exact PySem.EqBoolInt.of_rcne (lists_at X (room_ok R (by omega)) hl hm r q).2 ⟨kp_refl s, rfl⟩
end
theorem cal_tup {ds : List D} (hz : ds.length ≤ sizeLine) : Cal (.type "tuple") [.list ds] (.tup ds) := cal1 fun _ _ A O s v R D w => by
  obtain ⟨a, vs, rfl, hl, r⟩ := w.lst
  refine call_tuple_list hl (fun h' k => ⟨⟨_, _, rfl, fun b o e => Heap.get?_push_of_some _ (k b o e)⟩, ?_⟩) (by rw [List.size_toArray, r.length]; exact hz)
  refine .tup (fun q => ?_) ⟨_, Heap.get?_push_size _ rfl, rfl, _, rfl⟩ (r.keep fun b o e => Heap.get?_push_of_some _ (k b o e))
  obtain ⟨o, e⟩ := D _ q
  exact absurd (Heap.lt_size (k _ _ e)) (Nat.lt_irrefl _)

/-! bytes: parts, walks -/
section
variable {c : Cx} {Γ : Sig} {ρ : List Ent}
theorem Es.bslice {b : Array UInt8} {value : Expr} {l u : Option Expr} {p pos : Pos} {lo hi : Option Int} (hv : Ev c Γ ρ value (.bytes b)) (h1 : Pt c Γ ρ l lo) (h2 : Pt c Γ ρ u hi) (hz : b.size ≤ sizeLine)
    (ht : ∀ o r, letTemporaryGo value o r = pure () := by intro _ _; rfl) : Es c Γ ρ (.Subscript value (.Slice l u none p) pos) (.bytes (PySem.W.KBy.picked b lo hi)) := Hid.mk fun K s O x =>
  wpAny_Subscript_Slice PySem.W.FB.slot_bytes_getitem.lookup (wpAny_mono (hv.out K s O x) (fun o s₁ q => wpAny_mono (ev_slice (p := p) h1 h2 Pt.none K (x.keeps q.1)) (fun i s₂ q' => by
    obtain ⟨k, sl, vl, vu, vs', rfl, hs, p1, p2, p3⟩ := q'
    obtain ⟨t, rfl⟩ := (q.2.keep (kp_kh k)).bytesE
    cases p3
    refine ⟨PySem.W.typeIs_bytes _ _ _, getItem_meets (PySem.W.typeIs_bytes _ _ _) (by decide) PySem.W.FB.slot_bytes_getitem PySem.W.FB.entry_bytes_getitem (PySem.W.FB.args_bytes_getitem_2 _ _) (PySem.W.KBc.meets_slice2 b t sl p1 p2) ⟨hs, Nat.le_trans (PySem.W.KBc.size_picked_le b lo hi) hz, fun t' k' => ?_⟩⟩
    exact ⟨kp_tr (kp_tr q.1 k) (kp_tok s₂ k'), .bytes _ _⟩) nono) nono) ht
end
theorem itr_bytes {b : Array UInt8} (hz : b.size ≤ sizeLine) : Itr (.bytes b) (iL (PySem.W.KBw.bInts b)) := fun prog w A O s v hh D z => by
  obtain ⟨t, rfl⟩ := z.bytesE
  have hlen : (iL (PySem.W.KBw.bInts b)).length = b.size := by rw [iL, List.length_map, PySem.W.KBw.ints_length]
  refine PySem.W.KBw.pyIter_bytes ⟨kp_push _ _, s.heap.objs.size, [s.heap.objs.size], fun i v => ∃ c u, b[i]? = some c ∧ v = .int (c.toNat : Int) u, fun i h => PySem.W.KBw.IsBytesIter h s.heap.objs.size b t i, rfl, fun i h z => ?_, fun A' hA => ?_, by rw [hlen]; exact hz, ⟨_, Heap.get?_push_size _ rfl, rfl, rfl⟩, get_size _, fun b' hb => ?_, fun b' hb => ?_, fun i u hu hi => ?_⟩
  · obtain ⟨o, ho, hc, _⟩ := z; exact ⟨o, ho, _, hc, by decide⟩
  · rw [hlen]; exact PySem.W.KBw.walks hA _ b t
  · rw [List.mem_singleton.mp hb]; exact ⟨_, Heap.get?_push_size _ rfl⟩
  · rw [List.mem_singleton.mp hb]; exact .inl rfl
  · obtain ⟨c, t', hc, rfl⟩ := hu
    refine ⟨.int (c.toNat : Int), ?_, .int _ _⟩
    rw [iL, List.getElem?_map, PySem.W.KBw.ints_get hc]; rfl
end Mine

namespace Mine
open PySem PySem.Calls PyProof.Rows PySem.SeqAt

/-- the built-in names that the texts use -/
def bfs : List Str := ["abs", "divmod", "len", "sum", "max", "chr", "isinstance", "sorted"]
def bts : List Str := ["int", "range", "bytes", "tuple", "bool", "zip"]
structure Bs (G : Gd) : Prop where
  f : ∀ x ∈ bfs, G.look x = some (.builtin x.toString)
  t : ∀ x ∈ bts, G.look x = some (.type x.toString)
theorem kd {c : Cx} {sc : Scope} {x : Str} {k : Option NameKind} (hsc : c.env.scope = sc) (h : sc.names.lookup x = k) : c.env.kindOf x = k := by unfold Env.kindOf; rw [hsc]; exact h
theorem bf {G : Gd} (B : Bs G) {x : Str} {i : String} (h : (bfs.contains x && x.toString == i) = true) : G.look x = some (.builtin i) := by
  rw [Bool.and_eq_true, beq_iff_eq] at h
  rw [B.f x (List.contains_iff_mem.mp h.1), h.2]
theorem bt {G : Gd} (B : Bs G) {x : Str} {i : String} (h : (bts.contains x && x.toString == i) = true) : G.look x = some (.type i) := by
  rw [Bool.and_eq_true, beq_iff_eq] at h
  rw [B.t x (List.contains_iff_mem.mp h.1), h.2]
def envOf (sc : Scope) : Env := { scope := sc, locals := 0, globals := 0, cells := [] }
theorem sw_env {ts : List Expr} {e : Expr} {env : Env} {sc : Scope} (h : env.scope = sc) : swappedStores ts e env = swappedStores ts e (envOf sc) := by cases env; cases h; rfl
theorem sww_env {t : Option Expr} {e : Expr} {l : Nat} {env : Env} {sc : Scope} (h : env.scope = sc) : swapsWith e t l env = swapsWith e t l (envOf sc) := by cases env; cases h; rfl
section
variable {c : Cx} {Γ : Sig} {ρ : List Ent}
/-- calls of built-in names -/
theorem Es.bi {x : Str} {p pos : Pos} {es : List Expr} {ds : List D} {d : D} {i : String} (B : Bs c.G) (hk : c.env.kindOf x = some .globalImplicit) (hi : (bfs.contains x && x.toString == i) = true) (ha : Evs c Γ ρ es ds) (h : Cal (.builtin i) ds d)
    (hn : (starEach es c.env).any (·.1) = false := by rfl) (hd : (x == ("__debug__" : Str)) = false := by decide +kernel) : Es c Γ ρ (.Call (.Name x p) es [] pos) d :=
  Es.callB (bf B hi) hk (.inl ⟨i, rfl⟩) ha h hn hd
theorem Es.ty {x : Str} {p pos : Pos} {es : List Expr} {ds : List D} {d : D} {i : String} (B : Bs c.G) (hk : c.env.kindOf x = some .globalImplicit) (hi : (bts.contains x && x.toString == i) = true) (ha : Evs c Γ ρ es ds) (h : Cal (.type i) ds d)
    (hn : (starEach es c.env).any (·.1) = false := by rfl) (hd : (x == ("__debug__" : Str)) = false := by decide +kernel) : Es c Γ ρ (.Call (.Name x p) es [] pos) d :=
  Es.callB (bt B hi) hk (.inr ⟨i, rfl⟩) ha h hn hd
theorem Evs.one {e : Expr} {d : D} (h : Ev c Γ ρ e d) (he : ∀ env, starEach [e] env = (false, eval e env) :: starEach [] env := by intro _; rfl) : Evs c Γ ρ [e] [d] := Evs.cons h Evs.nil he
theorem Evs.two {e f : Expr} {d d' : D} (h : Ev c Γ ρ e d) (h' : Ev c Γ ρ f d') (he : ∀ env, starEach [e, f] env = (false, eval e env) :: starEach [f] env := by intro _; rfl) (hf : ∀ env, starEach [f] env = (false, eval f env) :: starEach [] env := by intro _; rfl) : Evs c Γ ρ [e, f] [d, d'] := Evs.cons h (Evs.one h' hf) he
theorem Ess.one {e : Expr} {d : D} (h : Es c Γ ρ e d) (he : ∀ env, starEach [e] env = (false, eval e env) :: starEach [] env := by intro _; rfl) : Ess c Γ ρ [e] [d] := Ess.cons h Ess.nil he
end

/-! the digits of a number, base 16 -/
def digs : Nat → List Nat
  | 0 => []
  | n + 1 => digs ((n + 1) / 16) ++ [(n + 1) % 16]
decreasing_by omega
theorem digs_pos {n : Nat} (h : 0 < n) : digs n = digs (n / 16) ++ [n % 16] := by
  cases n with
  | zero => cases h
  | succ n => rw [digs]
/-- letters of digits -/
def lets (l : List Nat) : List Int := l.map fun (d : Nat) => (65 + (d : Int) : Int)
def apB : Array UInt8 := byteArr (lets (List.range 16))
theorem ap_at : ∀ d : Nat, d < 16 → PySem.W.KBy.picked apB (some (d : Int)) (some ((d : Int) + 1)) = byteArr (lets [d]) := by
  intro d hd
  have : (List.range 16).all (fun (d : Nat) => PySem.W.KBy.picked apB (some (d : Int)) (some ((d : Int) + 1)) == byteArr (lets [d])) = true := by decide +kernel
  have := List.all_eq_true.mp this d (List.mem_range.mpr hd)
  exact eq_of_beq this
theorem byteArr_app (k l : List Int) : byteArr (k ++ l) = byteArr k ++ byteArr l := by unfold byteArr; simp
theorem byteArr_size (l : List Int) : (byteArr l).size = l.length := by unfold byteArr; simp
theorem lets_app (k l : List Nat) : lets (k ++ l) = lets k ++ lets l := by unfold lets; simp
theorem bInts_byteArr (l : List Nat) (h : ∀ d ∈ l, d < 16) : PySem.W.KBw.bInts (byteArr (lets l)) = lets l := by
  unfold PySem.W.KBw.bInts byteArr lets
  simp only [List.map_map]
  apply List.map_congr_left
  intro d hd
  have := h d hd
  show (((65 + (d : Int)).toNat.toUInt8).toNat : Int) = 65 + d
  have e : (65 + (d : Int)).toNat = 65 + d := by omega
  rw [e, Nat.toUInt8, UInt8.toNat_ofNat']
  omega
end Mine

namespace Mine
open PySem PySem.Calls PyProof.Rows PySem.SeqAt

/-- a loop by an invariant over what is left of the list -/
theorem Lp.gen {c : Cx} {Γ : Sig} {α : Type} {t : Expr} {body : List Stmt} {Q : Post} (g : α → D) (I : List α → List Ent → Prop) : ∀ (l : List α) (ρ : List Ent), I l ρ →
    (∀ a l ρ, I (a :: l) ρ → ∃ ρ₁, Asg c Γ ρ t (g a) ρ₁ ∧ Ex c Γ ρ₁ body (fun f ρ' => match f with | .next => I l ρ' | .cont => I l ρ' | .brk => Q .next ρ' | .ret d => Q (.ret d) ρ')) →
    (∀ ρ, I [] ρ → Q .next ρ) → Lp c Γ t body Q (l.map g) ρ
  | [], ρ, h0, _, fin => fin ρ h0
  | a :: l, ρ, h0, step, fin => by
    obtain ⟨ρ₁, h1, h2⟩ := step a l ρ h0
    refine ⟨ρ₁, h1, h2.mono fun f ρ' q => ?_⟩
    cases f with
    | next => exact Lp.gen g I l ρ' q step fin
    | cont => exact Lp.gen g I l ρ' q step fin
    | brk => exact q
    | ret d => exact q

/-! texts as lists of code points -/
def tx (l : List Nat) : Str := ⟨l.toArray⟩
theorem tx_len (l : List Nat) : (tx l).length = l.length := by simp [tx, Str.length]
theorem tx_list (l : List Nat) : (tx l).cps.toList = l := rfl
theorem sL_tx (l : List (List Nat)) : sL (l.map tx) = l.map fun m => .str (tx m) := by rw [sL, List.map_map]; rfl
theorem tx_app (k l : List Nat) : tx k ++ tx l = tx (k ++ l) := by
  apply Str.ext'
  rw [Str.cps_append]
  simp [tx]
theorem strSub_tx (l : List Nat) (i j : Nat) : Builtin.Str.strSub (tx l) i j = tx ((l.drop i).take (j - i)) := by
  apply Str.ext'
  apply Array.toList_inj.mp
  rw [StrLaws.strSub_toList]
  rfl

/-! the first place of a text in another -/
def atL (m g : List Nat) (i : Nat) : Bool := (g.drop i).take m.length == m
def findL (m g : List Nat) (p : Nat) : Option Nat := (List.range' p (g.length + 1 - p)).find? fun i => decide (i + m.length ≤ g.length) && atL m g i
theorem subAt_tx (m g : List Nat) (i : Nat) : Builtin.Str.subAt (tx g) (tx m) i = atL m g i := by
  rw [StrLaws.subAt_eq]
  rw [tx_list, tx_list, tx_len]; rfl
theorem occ_full (s sub : Str) (hi : Nat) : ∀ (l : List Nat) (st : Array Nat × Nat), st.1.size = 1 → (forIn l st (StrLaws.occBody s sub hi 1)).run.fst = st.1
  | [], _, _ => rfl
  | a :: l, st, h => by
    rw [List.forIn_cons]
    unfold StrLaws.occBody
    rw [if_neg (fun z => by have := z.1.1.1; omega)]
    exact occ_full s sub hi l (st.1, st.2) h
theorem occ_first (s sub : Str) (hi : Nat) : ∀ (l : List Nat) (free : Nat), (∀ i ∈ l, free ≤ i) →
    (forIn l ((#[] : Array Nat), free) (StrLaws.occBody s sub hi 1)).run.fst.toList = (l.find? fun i => decide (i + sub.length ≤ hi) && Builtin.Str.subAt s sub i).toList
  | [], _, _ => rfl
  | a :: l, free, h => by
    rw [List.forIn_cons, List.find?_cons]
    unfold StrLaws.occBody
    by_cases hc : a + sub.length ≤ hi ∧ Builtin.Str.subAt s sub a = true
    · rw [if_pos ⟨⟨⟨by simp, h a (.head _)⟩, hc.1⟩, hc.2⟩]
      have e : (decide (a + sub.length ≤ hi) && Builtin.Str.subAt s sub a) = true := by rw [hc.2, decide_eq_true hc.1]; rfl
      rw [e]
      refine (congrArg Array.toList (occ_full s sub hi l ((#[] : Array Nat).push a, a + sub.length) (by simp))).trans ?_
      simp
    · rw [if_neg (fun z => hc ⟨z.1.2, z.2⟩)]
      have e : (decide (a + sub.length ≤ hi) && Builtin.Str.subAt s sub a) = false := by
        rw [Bool.and_eq_false_iff]
        by_cases h1 : a + sub.length ≤ hi
        · exact .inr (by simpa using fun z => hc ⟨h1, z⟩)
        · exact .inl (decide_eq_false h1)
      rw [e]
      exact occ_first s sub hi l free fun i hi' => h i (.tail _ hi')
theorem occ_findL (m g : List Nat) (p : Nat) : Builtin.Str.occurrences (tx g) (tx m) p g.length 1 = (findL m g p).toList := by
  rw [StrLaws.occ_eq, occ_first _ _ _ _ _ (fun i hi => by simp [List.mem_range'] at hi; omega)]
  unfold findL
  congr 2
  funext i
  rw [tx_len, subAt_tx]
theorem find4_tx (m g : List Nat) (p : Nat) : find4 (tx g) (tx m) p g.length = (match findL m g p with | some i => (i : Int) | none => -1) := by
  unfold find4
  rw [occ_findL]
  cases findL m g p <;> rfl
theorem findL_le {m g : List Nat} {p i : Nat} (h : findL m g p = some i) : p ≤ i ∧ i + m.length ≤ g.length := by
  unfold findL at h
  have h1 := List.mem_of_find?_eq_some h
  have h2 := List.find?_some h
  simp [List.mem_range'] at h1
  simp at h2
  omega
/-- one piece behind the other -/
def mtch : List (List Nat) → List Nat → Nat → Bool
  | [], _, _ => true
  | m :: ms, g, p => match findL m g p with
    | some i => mtch ms g (i + m.length)
    | none => false

theorem findL_nil (g : List Nat) {p : Nat} (h : p ≤ g.length) : findL [] g p = some p := by
  unfold findL
  have : g.length + 1 - p = (g.length - p) + 1 := by omega
  rw [this, List.range'_succ, List.find?_cons]
  simp [atL, h]
theorem mtch_end : ∀ (ms : List (List Nat)) (g : List Nat) (p : Nat), p ≤ g.length → mtch (ms ++ [[]]) g p = mtch ms g p
  | [], g, p, h => by
    show mtch [[]] g p = true
    rw [mtch, findL_nil g h]; rfl
  | m :: ms, g, p, h => by
    rw [List.cons_append, mtch, mtch]
    cases hf : findL m g p with
    | none => rfl
    | some i => exact mtch_end ms g _ (findL_le hf).2

/-! parts between dots -/
def dots : List Nat := [46, 46, 46]
def tailOf (ms : List (List Nat)) : List Nat := dots ++ ms.flatMap fun m => m ++ dots
def cutsAt : Nat → List (List Nat) → List Nat
  | a, [] => [a]
  | a, m :: ms => a :: cutsAt (a + 3 + m.length) ms
theorem at_dots {X : List Nat} {k : Nat} (h : StrLaws.At (tx X) (tx dots) X.length k) : X[k]? = some 46 := by
  have h2 := h.2
  rw [subAt_tx] at h2
  have h3 : (X.drop k).take 3 = [46, 46, 46] := eq_of_beq h2
  have : ((X.drop k).take 3)[0]? = some 46 := by rw [h3]; rfl
  simpa using this
theorem at_tail (P : List Nat) (ms : List (List Nat)) : StrLaws.At (tx (P ++ tailOf ms)) (tx dots) (P ++ tailOf ms).length P.length := by
  refine ⟨?_, ?_⟩
  · rw [tx_len]; simp [tailOf, dots]
  · rw [subAt_tx]
    unfold atL
    rw [List.drop_left, tailOf, List.take_left]
    simp
theorem chain_tail : ∀ (ms : List (List Nat)) (P : List Nat) (start : Nat), (∀ m ∈ ms, ∀ x ∈ m, x ≠ 46) → start ≤ P.length → (∀ k, start ≤ k → k < P.length → P[k]? ≠ some 46) →
    StrLaws.ChainG (tx (P ++ tailOf ms)) (tx dots) (P ++ tailOf ms).length start (cutsAt P.length ms) (P ++ tailOf ms).length ∧
    StrLaws.partsFrom (tx (P ++ tailOf ms)) 3 start (cutsAt P.length ms) = (P.drop start :: ms ++ [[]]).map tx
  | [], P, start, _, hs, hn => by
    have hA := at_tail P []
    refine ⟨⟨hs, hA, fun k h1 h2 h3 => ?_, ?_⟩, ?_⟩
    · have := at_dots h3
      rw [List.getElem?_append_left h2] at this
      exact hn k h1 h2 this
    · show _ = P.length + (tx dots).length
      rw [tx_len]; simp [tailOf, dots]
    · show [_, _] = _
      rw [strSub_tx, strSub_tx]
      simp [tailOf, dots, List.drop_append]
      rw [List.drop_of_length_le (by omega), List.take_nil]
  | m :: ms, P, start, hm, hs, hn => by
    have hA := at_tail P (m :: ms)
    have e : P ++ tailOf (m :: ms) = (P ++ dots ++ m) ++ tailOf ms := by simp [tailOf]
    have el : (P ++ dots ++ m).length = P.length + 3 + m.length := by simp [dots]; omega
    have ih := chain_tail ms (P ++ dots ++ m) (P.length + 3) (fun m' h => hm m' (.tail _ h)) (by rw [el]; omega) (fun k h1 h2 h3 => ?_)
    · rw [el, ← e] at ih
      refine ⟨⟨hs, hA, fun k h1 h2 h3 => ?_, ?_⟩, ?_⟩
      · have := at_dots h3
        rw [List.getElem?_append_left h2] at this
        exact hn k h1 h2 this
      · rw [tx_len]; exact ih.1
      · show Builtin.Str.strSub _ start P.length :: StrLaws.partsFrom _ 3 (P.length + 3) (cutsAt (P.length + 3 + m.length) ms) = _
        rw [ih.2, strSub_tx, List.drop_append, List.take_append]
        have e2 : (P ++ dots ++ m).drop (P.length + 3) = m := by
          have : P.length + 3 = (P ++ dots).length := by simp [dots]
          rw [this, List.drop_left]
        rw [e2, List.take_of_length_le (by simp)]
        simp
    · rw [List.getElem?_append_right (by simp [dots]; omega)] at h3
      have := List.mem_of_getElem? h3
      exact hm m (.head _) _ this rfl
theorem chainG_unique {x y : Str} {hi : Nat} (hy : 1 ≤ y.length) : ∀ {l l' : List Nat} {a f f' : Nat}, StrLaws.ChainG x y hi a l f → StrLaws.ChainG x y hi a l' f' → (∀ k, f ≤ k → ¬ StrLaws.At x y hi k) → (∀ k, f' ≤ k → ¬ StrLaws.At x y hi k) → l = l'
  | [], [], _, _, _, _, _, _, _ => rfl
  | [], c :: r, a, f, f', h, h', n, n' => by
    have e : f = a := h
    subst e
    exact absurd h'.2.1 (n c h'.1)
  | c :: r, [], a, f, f', h, h', n, n' => by
    have e : f' = a := h'
    subst e
    exact absurd h.2.1 (n' c h.1)
  | c :: r, c' :: r', a, f, f', h, h', n, n' => by
    have e : c = c' := by
      rcases Nat.lt_trichotomy c c' with z | z | z
      · exact absurd h.2.1 (h'.2.2.1 c h.1 z)
      · exact z
      · exact absurd h'.2.1 (h.2.2.1 c' h'.1 z)
    subst e
    rw [chainG_unique hy h.2.2.2 h'.2.2.2 n n']
theorem cuts_want (ms : List (List Nat)) (hm : ∀ m ∈ ms, ∀ x ∈ m, x ≠ 46) : Builtin.Str.occurrences (tx (tailOf ms)) (tx dots) 0 (tx (tailOf ms)).length ((tx (tailOf ms)).length + 1) = cutsAt 0 ms ∧
    Builtin.Str.partsBetween (tx (tailOf ms)) (cutsAt 0 ms) 3 = ([] :: ms ++ [[]]).map tx := by
  have h := chain_tail ms [] 0 hm (Nat.le_refl _) (fun k _ h => absurd h (Nat.not_lt_zero _))
  rw [List.nil_append, List.length_nil] at h
  obtain ⟨f, h1, h2⟩ := StrLaws.occ_tight (tx (tailOf ms)) (tx dots) (by decide)
  rw [tx_len] at h1 h2 ⊢
  refine ⟨chainG_unique (by decide) h1 h.1 h2 fun k hk hA => ?_, ?_⟩
  · have := hA.1
    rw [tx_len] at this
    simp [dots] at this
    omega
  · rw [StrLaws.partsBetween_eq, h.2]; rfl
theorem cuts_ne (a : Nat) (ms : List (List Nat)) : (cutsAt a ms).isEmpty = false := by cases ms <;> rfl
end Mine

namespace Mine
open PySem PySem.Calls PyProof.Rows PySem.SeqAt PySem.W

/-! objects of a class -/
structure Cls (G : Gd) (K : Frag) (C : Addr) : Prop where
  X : K.In G.hT
  mks : makesIn K C = true
  kp : keepIn K (.ref C) = true
  gets : plainGet K C "" = true
  dict : hasDictIn K C = true
  sets : findIn K (.ref C) "__setattr__" = some (some (.builtin "object.__setattr__"))
  over : plainOver K C = true

theorem str_isStr (x n : Str) (t : Tok) : (Value.str x t).isStr n = (n == x) := by
  show (x == n) = (n == x)
  rw [Bool.eq_iff_iff, beq_iff_eq, beq_iff_eq]; exact eq_comm
theorem getL_some {O : Addr → Prop} {h : Heap} {n : Str} {d : D} : ∀ {es : List DictEntry} {fs : List (Str × D)}, RdF O h es fs → fs.lookup n = some d → ∃ v, getL n es = some (some v) ∧ Rd O h v d
  | _, _, .nil, e => by cases e
  | e :: es, (x, d') :: fs, .cons (t := t) hk hr r, hl => by
    unfold getL
    rw [List.find?_cons, hk, str_isStr]
    rw [List.lookup_cons] at hl
    cases hx : n == x with
    | true => rw [hx] at hl; cases hl; exact ⟨_, rfl, hr⟩
    | false =>
      rw [hx] at hl
      obtain ⟨v, hv, rv⟩ := getL_some r hl
      refine ⟨v, ?_, rv⟩
      unfold getL at hv
      dsimp only
      cases hf : es.find? (fun e => e.key.isStr n) with
      | some e' => rw [hf] at hv; exact hv
      | none =>
        rw [hf] at hv
        exfalso
        revert hv
        dsimp only
        split <;> intro hv <;> cases hv
theorem noRefs {O : Addr → Prop} {h : Heap} : ∀ {es : List DictEntry} {fs : List (Str × D)}, RdF O h es fs → es.any (·.refKey) = false
  | _, _, .nil => rfl
  | e :: es, _, .cons hk _ r => by
    rw [List.any_cons, noRefs r, Bool.or_false]
    unfold DictEntry.refKey
    rw [hk]
theorem find_none {O : Addr → Prop} {h : Heap} {n : Str} : ∀ {es : List DictEntry} {fs : List (Str × D)}, RdF O h es fs → fs.lookup n = none → es.find? (fun e => e.key.isStr n) = none
  | _, _, .nil, _ => rfl
  | e :: es, (x, d') :: fs, .cons hk hr r, hl => by
    rw [List.lookup_cons] at hl
    rw [List.find?_cons, hk, str_isStr]
    cases hx : n == x with
    | true => rw [hx] at hl; cases hl
    | false => rw [hx] at hl; exact find_none r hl
theorem getL_none {O : Addr → Prop} {h : Heap} {n : Str} {es : List DictEntry} {fs : List (Str × D)} (r : RdF O h es fs) (hl : fs.lookup n = none) : getL n es = some none := by
  unfold getL
  rw [find_none r hl, noRefs r]; rfl
theorem getL_isSome {O : Addr → Prop} {h : Heap} (n : Str) {es : List DictEntry} {fs : List (Str × D)} (r : RdF O h es fs) : (getL n es).isSome = true := by
  cases e : fs.lookup n with
  | none => rw [getL_none r e]; rfl
  | some d => obtain ⟨v, hv, _⟩ := getL_some r e; rw [hv]; rfl
def putF (n : Str) (d : D) : List (Str × D) → List (Str × D)
  | [] => [(n, d)]
  | (x, e) :: r => if n == x then (x, d) :: r else (x, e) :: putF n d r
theorem rdf_put {O : Addr → Prop} {h : Heap} {n : Str} {d : D} {v : Value} {k : Int} {t : Tok} (hv : Rd O h v d) : ∀ {es : List DictEntry} {fs : List (Str × D)}, RdF O h es fs → RdF O h (putL n k (.str n t) v es) (putF n d fs)
  | _, _, .nil => .cons rfl hv .nil
  | e :: es, (x, d') :: fs, .cons (t := t') hk hr r => by
    unfold putL putF
    rw [hk, str_isStr]
    cases n == x with
    | true => exact .cons rfl hv r
    | false => exact .cons hk hr (rdf_put hv r)
theorem putL_length (n : Str) (k : Int) (key v : Value) : ∀ es : List DictEntry, (putL n k key v es).length ≤ es.length + 1
  | [] => Nat.le_refl _
  | e :: r => by
    unfold putL
    split
    · simp
    · have := putL_length n k key v r; simp only [List.length_cons]; omega
theorem RdF.length {O : Addr → Prop} {h : Heap} : ∀ {es : List DictEntry} {fs : List (Str × D)}, RdF O h es fs → es.length = fs.length
  | _, _, .nil => rfl
  | _, _, .cons _ _ r => by rw [List.length_cons, List.length_cons, r.length]
theorem rd_handed {O : Addr → Prop} {h : Heap} {v : Value} {d : D} (r : Rd O h v d) : handedIn v = true := by cases r <;> rfl
theorem inst_at {h : Heap} {x C dx : Addr} {es : List DictEntry} {n : Nat} (ex : h.get? x = some (instO C dx)) (ed : h.get? dx = some (dictO es.toArray n)) : InstAt h x (instO C dx) C (some (dictOf es n)) := ⟨ex, rfl, rfl, ed⟩

section
variable {c : Cx} {Γ : Sig} {ρ : List Ent} {K : Frag} {C : Addr}
theorem top_keeps (Kc : Ok c Γ) {s : Shared} (h : KH c.hB s.heap) : KH c.G.hT s.heap := fun b o e => h b o (Kc.top b o e)
/-- a field of an object -/
theorem Es.attr (Y : Cls c.G K C) {x n : Str} {px pos : Pos} {fs : List (Str × D)} {d : D} (ho : Es c Γ ρ (.Name x px) (.obj C fs)) (hl : fs.lookup n = some d) (hf : findIn K (.ref C) n = some none) : Es c Γ ρ (.Attribute (.Name x px) n pos) d := Hid.mk fun Kc s O y =>
  Attribute_name (wpAny_mono (ho.out Kc s O y) (fun v s₁ q => by
    obtain ⟨k, q⟩ := q
    cases q with
    | obj hx hd ex ed r =>
      obtain ⟨u, hu, ru⟩ := getL_some r hl
      exact get_value (Y.X.keeps (top_keeps Kc (y.keeps k).keep)) (inst_at ex ed) (plainGet_of Y.gets).1 (findObj_own Y.dict hf rfl (by rw [lookIn_dict]; exact hu)) (rd_handed ru) ⟨kp_tr k (kp_tok _ _), ru⟩) nono)
/-- a field of the object that is being made -/
theorem Es.sattr (Y : Cls c.G K C) {x n : Str} {px pos : Pos} {a dx : Addr} {fs : List (Str × D)} {d : D} (p : At Γ.vars ρ x (.mobj C a dx fs)) (hl : fs.lookup n = some d) (hf : findIn K (.ref C) n = some none) : Es c Γ ρ (.Attribute (.Name x px) n pos) d := Hid.mk fun Kc s O y =>
  Attribute_name (st_name Kc y p (by intro q; cases q) fun v V F E N hv w => by
    obtain ⟨es, n', e, o1, o2, ex, ed, r⟩ := w; cases e
    obtain ⟨u, hu, ru⟩ := getL_some r hl
    exact get_value (Y.X.keeps (top_keeps Kc y.keep)) (inst_at ex ed) (plainGet_of Y.gets).1 (findObj_own Y.dict hf rfl (by rw [lookIn_dict]; exact hu)) (rd_handed ru) ⟨kp_tok _ _, ru⟩)
/-- a text that the class itself holds -/
theorem Es.cattr (Y : Cls c.G K C) {x n y : Str} {px pos : Pos} {t : Tok} (hl : c.G.look x = some (.ref C)) (hk : c.env.kindOf x = some .globalImplicit) (hr : readsIn K C (.type "type") = true) (e : findCls K (.ref C) (.type "type") n = some (.val (.str y t)))
    (hd : (x == ("__debug__" : Str)) = false := by decide +kernel) : Es c Γ ρ (.Attribute (.Name x px) n pos) (.str y) := Hid.mk fun Kc _ _ z =>
  Attribute_name (look_name Kc z.keep hl hk hd (cls_value (Y.X.keeps (top_keeps Kc z.keep)) hr e rfl ⟨kp_tok _ _, .str _ _⟩))

theorem osa_own {prog : Program} {w : World} {A : Around} {s : Shared} {x dx : Addr} {es : List DictEntry} {n : Nat} {name : Str} {tk : Tok} {v : Value} {R : Result → Shared → Prop} (X : K.In s.heap) (ex : s.heap.get? x = some (instO C dx)) (ed : s.heap.get? dx = some (dictO es.toArray n))
    (hp : plainOver K C = true) (ht : takerIn K C name = some none) (hh : hasDictIn K C = true) (hl : (getL name es).isSome = true) (hz : es.length ≤ 999)
    (h : ∀ h' k n', Heap.ExtBut dx s.heap h' → h'.get? dx = some (dictO (putL name k (.str name s.toks) v es).toArray n') → R (.ok (.ret .none)) { s with heap := h', toks := s.toks + 1 }) :
    codeAny (model prog w) A (.call (.builtin "object.__setattr__") ⟨[.ref x, .str name tk, v], []⟩) R s := by
  refine osa_open X (inst_at ex ed) hp ht fun b => ?_
  obtain ⟨cd, hc, hd'⟩ := any_some hh
  refine wpAny_bind (wpAny_pure (wpAny_bind (wpAny_bind (wpAny_loadPart ex (wpAny_bind ((looks_clsIn X hc).here ?_))))))
  rw [hd']
  refine wpAny_pure (a := some dx) (wpAny_bind (wpAny_pure (wpAny_bind ?_)))
  unfold nsSet
  refine wpAny_bind (wpAny_bind (wpAny_askSetting (wpAny_pure (wpAny_bind (wpAny_mkText (wpAny_bind (wpAny_loadPart ed ?_)))))))
  dsimp only
  have c0 : (!es.toArray.any (·.key.isStr name) && es.toArray.any (·.refKey)) = false := by
    rw [List.any_toArray, List.any_toArray]
    unfold getL at hl
    split at hl
    · rename_i en he
      rw [List.any_eq_true.mpr ⟨en, List.mem_of_find?_eq_some he, List.find?_some he⟩]; rfl
    · split at hl
      · cases hl
      · rename_i z; rw [Bool.not_eq_true] at z; rw [z, Bool.and_false]
  rw [aRefKeyMayBeTheName_at, c0]
  refine wpAny_updatePart ed ?_
  have eput := putName_dict name (PyData.keyHash w.params name) (.str name s.toks) v es n
  have e' : (s.heap.update dx (Obj.putName name (PyData.keyHash w.params name) (.str name s.toks) v)).get? dx = some (dictOf (putL name (PyData.keyHash w.params name) (.str name s.toks) v es) (putN name es n)) := by
    rw [Heap.get?_update_self _ ed (by rw [eput]; rfl), eput]
  refine wpAny_bind (wpAny_lookBehind e' (pastItsLine_dict (by have := putL_length name (PyData.keyHash w.params name) (.str name s.toks) v es; rw [List.size_toArray, sizeLine_eq]; omega)) ?_)
  exact wpAny_pure (h _ _ _ (Heap.SameBut.update ..).extBut e')
theorem Ex1.setAttr (Y : Cls c.G K C) {x n : Str} {px ap pos : Pos} {a dx : Addr} {fs : List (Str × D)} {e : Expr} {d : D} {ρ' : List Ent} {Q : Post} (p : At Γ.vars ρ x (.mobj C a dx fs)) (h : Es c Γ ρ e d) (ht : takerIn K C n = some none) (hz : fs.length ≤ 900)
    (p' : Put Γ.vars ρ x (.mobj C a dx (putF n d fs)) ρ') (hq : Q .next ρ') (hs : swapsWith e (some (.Attribute (.Name x px) n ap)) pos.line c.env = pure false := by rfl) : Ex1 c Γ ρ (.Assign [.Attribute (.Name x px) n ap] e pos) Q := Hid.mk fun Kc s O y =>
  plainObj_wpAny_Assign_Attribute (wpAny_mono (h.out Kc s O y) (fun v s₁ q => by
    have y₁ := y.keeps q.1
    refine st_name Kc y₁ p (by intro q; cases q) fun u V F En N hv w => ?_
    obtain ⟨es, n', e', o1, o2, ex, ed, r⟩ := w; cases e'
    have X := Y.X.keeps (top_keeps Kc y₁.keep)
    have hlen := r.length
    refine PySem.W.set_plain X (inst_at ex ed) Y.sets (osa_own (s := { s₁ with toks := s₁.toks + 1 }) X ex ed Y.over ht Y.dict (getL_isSome n r) (by omega) fun h' k n'' ee ed' => ?_)
    refine ⟨.next, ρ', O, trivial, ?_, (Fc.ofKeeps q.1).tr (Fc.ext o2.o ee), hq⟩
    have hm : a ∈ (Ent.mobj C a dx fs).addrs (V x) := .head _
    have hxd : a ≠ dx := fun e => by rw [e, ed] at ex; cases ex
    refine y₁.upd Kc p p' F En N (a := dx) (.tail _ (.head _)) rfl o2 ee ⟨_, ed'⟩ ⟨_, _, hv, o1, o2, ee a _ hxd ex, ed', ?_⟩
    exact rdf_put (q.2.extBut o2.o ee) (r.mono fun b o n e => ⟨n, ee b o (fun z => n (z ▸ o2.o)) e⟩)) nono) hs
end
end Mine

namespace Mine
open PySem PySem.Calls PyProof.Rows PySem.SeqAt PySem.W

section
variable {c : Cx} {Γ : Sig} {ρ : List Ent} {K : Frag} {C : Addr}
theorem call_method {M : Model} {A : Around} {E : Value → Shared → Prop} {s : Shared} {env : Env} {o : Expr} {name : Str} {apos pos : Pos} {args : List Expr} {pl : Sem Bool} {Q : Value → Shared → Prop}
    (h : wpAny M A (eval o env) (fun ov s₁ => wpAny M A (getMethod ov name pl) (fun fx s₂ => wpAny M A (callWith pos fx.1 fx.2 (backTo pos (starEach args env)) []) Q E s₂) E s₁) E s)
    (he : eval (.Call (.Attribute o name apos) args [] pos) env = (eval o env >>= fun ov => standAt apos.atName >>= fun _ => holding [ov] (getMethod ov name pl) >>= fun fx => callWith pos fx.1 fx.2 (backTo pos (starEach args env)) [])) :
    wpAny M A (eval (.Call (.Attribute o name apos) args [] pos) env) Q E s := by
  rw [he]
  exact wpAny_bind (wpAny_mono h (fun ov s₁ h₁ => wpAny_bind (wpAny_standAt (wpAny_bind (wpAny_holding (wpAny_mono h₁ (fun fx s₂ h₂ => h₂) fun _ _ x => x))))) fun _ _ x => x)
/-- a method of an object -/
theorem Es.meth (Y : Cls c.G K C) {o : Expr} {name : Str} {apos pos : Pos} {es : List Expr} {ds : List D} {fs : List (Str × D)} {f : Addr} {lv : Nat} {d : D} {pl : Sem Bool} (ho : Es c Γ ρ o (.obj C fs)) (hl : fs.lookup name = none) (hf : findIn K (.ref C) name = some (some (.ref f)))
    (ht : typeIn K (.ref f) = some (.type "function")) (hk : keepIn K (.ref f) = true) (hlv : lv ≤ c.lv) (ha : Ess c Γ ρ es ds) (h : FnC c.G lv f (.obj C fs :: ds) d) (hn : (starEach es c.env).any (·.1) = false := by rfl)
    (he : eval (.Call (.Attribute o name apos) es [] pos) c.env = (eval o c.env >>= fun ov => standAt apos.atName >>= fun _ => holding [ov] (getMethod ov name pl) >>= fun fx => callWith pos fx.1 fx.2 (backTo pos (starEach es c.env)) []) := by rfl) :
    Es c Γ ρ (.Call (.Attribute o name apos) es [] pos) d := Hid.mk fun Kc s O y =>
  call_method (wpAny_mono (ho.out Kc s O y) (fun ov s₁ q => by
    obtain ⟨k, q⟩ := q
    have y₁ := y.keeps k
    have X := Y.X.keeps (top_keeps Kc y₁.keep)
    have q' := q
    cases q' with
    | obj hx hd ex ed r =>
      refine method_fn X (inst_at ex ed) (plainGet_of Y.gets).1 (plainGet_of Y.gets).2 hf ht (by show (lookIn name (dictOf _ _)).map _ = _; rw [lookIn_dict, getL_none r hl]; rfl) ?_
      have hp := noStars (ds := ds) hn pos
      refine callWith_of (P := K.In) (by rw [hp]; rfl) (keeps_K hk) (evalArgs_all hp (wpAny_mono (ha.out Kc s₁ O pos y₁) (fun vs s₂ q₂ => ?_) nono))
      have kt := top_keeps Kc (y₁.keeps q₂.1).keep
      exact ⟨Y.X.keeps kt, wpAny_mono (h c.A O s₂ (_ :: vs) (Kc.room.mono hlv) kt (y₁.keeps q₂.1).dom (.cons (q.keep (kp_kh q₂.1)) q₂.2)) (fun v s₃ z => ⟨kp_tr (kp_tr k q₂.1) z.1, z.2⟩) nono⟩) nono) he

/-- what the making of an object gives: from the state ahead of it -/
def InC (G : Gd) (lv : Nat) (fI C : Addr) (ds : List D) (fs : List (Str × D)) : Prop := ∀ (A : Around) (O : Addr → Prop) (s s' : Shared) (vs : List Value) (x dx : Addr), Room lv A → KH G.hT s.heap → Dom O s → RdL O s.heap vs ds → Keeps s s' →
  s.heap.get? x = none → s.heap.get? dx = none → x ≠ dx → s'.heap.get? x = some (instO C dx) → s'.heap.get? dx = some (dictO #[] 0) →
  codeAny G.M A (.call (.ref fI) ⟨.ref x :: vs, []⟩) (InitBack x (fun r s'' => match r with | .ok (.ret v) => OutS s O (.obj C fs) v s'' | _ => False)) s'
theorem Es.make (Y : Cls c.G K C) {id : Str} {p pos : Pos} {es : List Expr} {ds : List D} {fI : Addr} {lv : Nat} {fs : List (Str × D)} (hl : c.G.look id = some (.ref C)) (hkind : c.env.kindOf id = some .globalImplicit) (hi : findIn K (.ref C) "__init__" = some (some (.ref fI)))
    (ht : typeIn K (.ref fI) = some (.type "function")) (hlv : lv + 1 ≤ c.lv) (ha : Ess c Γ ρ es ds) (h : InC c.G lv fI C ds fs) (hn : (starEach es c.env).any (·.1) = false := by rfl) (hd : (id == ("__debug__" : Str)) = false := by decide +kernel) :
    Es c Γ ρ (.Call (.Name id p) es [] pos) (.obj C fs) := Hid.mk fun Kc s O y => by
  refine wpAny_Call_Name_kw (look_name Kc y.keep hl hkind hd ?_)
  have hp := noStars (ds := ds) hn pos
  refine callWith_of (P := K.In) (by rw [hp]; rfl) (keeps_K Y.kp) (evalArgs_all hp (wpAny_mono (ha.out Kc s O pos y) (fun vs s₂ q₂ => ?_) nono))
  have y₂ := y.keeps q₂.1
  have kt := top_keeps Kc y₂.keep
  have X := Y.X.keeps kt
  refine ⟨X, wpAny_call ?_⟩
  obtain ⟨h₂, g, d, t, os⟩ := s₂
  refine make_core (makes_of X Y.mks) (looks_findIn X hi) (fun self => bind_fn X self ht) (.inl rfl) ?_
  have R : Room lv (c.A.under (.builtin "type.__call__" ⟨.ref C :: ([] ++ vs), []⟩)) := by
    have r := Kc.room
    have w1 : (Code.builtin "type.__call__" ⟨.ref C :: ([] ++ vs), []⟩).weight ≤ 9 := Nat.le_of_ble_eq_true (by kernel_rfl)
    have w2 : (Code.builtin "type.__call__" ⟨.ref C :: ([] ++ vs), []⟩).cUnits ≤ 9 := Nat.le_of_ble_eq_true (by kernel_rfl)
    refine ⟨r.hand, ?_, ?_⟩
    · have := r.depth
      show c.A.depth + (Code.builtin "type.__call__" ⟨.ref C :: ([] ++ vs), []⟩).weight + 20 * lv ≤ 900
      omega
    · have := r.units
      show c.A.units + (Code.builtin "type.__call__" ⟨.ref C :: ([] ++ vs), []⟩).cUnits + 20 * lv ≤ 9000
      omega
  have e1 : h₂.get? (h₂.objs.size + 1) = none := by
    cases e : h₂.get? (h₂.objs.size + 1) with
    | none => rfl
    | some o => exact absurd (Heap.lt_size e) (Nat.not_lt.mpr (Nat.le_succ _))
  have z := h _ O ⟨h₂, g, d, t, os⟩ ⟨(h₂.push emptyDict).push (instObj C h₂.objs.size), g, d, t, os⟩ vs (h₂.objs.size + 1) h₂.objs.size R kt y₂.dom q₂.2
    ⟨_, _, rfl, fun b o e => Heap.get?_push_of_some _ (Heap.get?_push_of_some _ e)⟩ e1 (get_size _) (Nat.succ_ne_self _) (by heap_get) (by heap_get)
  refine codeAny_mono z fun r s' z => ?_
  rcases r with e | (v | _ | _ | _) <;> first | exact z.elim | skip
  exact ⟨z.1, kp_tr q₂.1 z.2.1, z.2.2⟩
end

theorem ents_cons {c : Cx} {O : Addr → Prop} {h : Heap} {V : Str → Option Value} {x : Str} {b : Bool} {e : Ent} {xs : List (Str × Bool)} {es : List Ent} (he : EntOk c O h (V x) e) (r : Ents c O h V xs es) : Ents c O h V ((x, b) :: xs) (e :: es) := ⟨he, r⟩
def inPost (C x dx : Addr) (fs : List (Str × D)) : Post := fun f ρ' => f = .next ∧ ∃ rest, ρ' = .mobj C x dx fs :: rest
theorem inc_of {G : Gd} {f C : Addr} {p0 : Str} {ps rest : List Str} {body : List Stmt} {scope : Scope} {lv : Nat} {ds : List D} {fs : List (Str × D)} (F : FnAt G f (ps.length + 1) (p0 :: ps) body scope) (hk : fnOk scope (p0 :: ps ++ rest) = true) (hl : ds.length = ps.length)
    (hb : ∀ (c : Cx) (x dx : Addr), c.G = G → c.lv = lv → c.env.scope = scope → Ex c ⟨(p0 :: ps ++ rest).map (·, true)⟩ (.mobj C x dx [] :: (ds.map .dat ++ anys rest)) body (inPost C x dx fs)) : InC G (lv + 1) f C ds fs := by
  intro A O s₀ s vs x dx R kt₀ D₀ rl₀ k₀ nx ndx hne hx hdx
  have kt : KH G.hT s.heap := fun b o e => kp_kh k₀ b o (kt₀ b o e)
  obtain ⟨o, fd, ho, hfd, hbody, hsc, hclo, hgl, hbu, hcd, hbind⟩ := F.ex
  simp only [fnOk, Bool.and_eq_true, List.all_eq_true, decide_eq_true_eq, Bool.not_eq_true', beq_iff_eq, Bool.or_eq_true] at hk
  obtain ⟨⟨⟨⟨⟨k1, k2⟩, k3⟩, k4⟩, k5⟩, k6⟩ := hk
  have hvl : vs.length = ps.length := rl₀.length.trans hl
  have hkeys : ((p0 :: ps).zip (.ref x :: vs)).map (·.1) = p0 :: ps := by rw [List.map_fst_zip]; simp; omega
  subst hsc
  have hpn : (((p0 :: ps).zip (.ref x :: vs)).map (·.1)).Nodup := by rw [hkeys]; exact (List.nodup_append.mp k6).1
  refine codeAny_call_cells (by have := R.depth; unfold recursionLimit; omega) (kt f o ho) hfd (G.lim.keeps kt) (hcd.keeps kt) hbody (hbind (.ref x :: vs) (by simp [hvl])) hclo (fun z hz => ?_) (fun s₁ w => ?_) k2 k3 k1
  · have hx' : z.1 ∈ p0 :: ps := by rw [← hkeys]; exact List.mem_map_of_mem hz
    have := (k5 z.1 (List.mem_append_left _ hx')).1
    rcases this with h | h
    · exact .inl h
    · exact .inr ⟨h, PySem.W.cellsFrom_some _ _ _ (.inl h)⟩
  · obtain ⟨⟨h₁, tk, rfl⟩, hns, kh, hfr⟩ := w.toInCall
    have kO : ∀ y, (callEnvC fd s.heap.objs.size f).kindOf y = fd.scope.names.lookup y := fun y => rfl
    have cm : ∀ y a, (y, a) ∈ (callEnvC fd s.heap.objs.size f).cells → (y, NameKind.cell) ∈ fd.scope.names ∧ s.heap.objs.size < a := fun y a h => by
      rcases cellsFrom_mem _ _ _ h with h | ⟨h1, h2⟩
      · cases h
      · exact ⟨h1, h2⟩
    have fresh : ∀ a, s.heap.objs.size ≤ a → s.heap.get? a = none := fun a ha => by
      cases e : s.heap.get? a with
      | none => rfl
      | some o' => exact absurd (Heap.lt_size e) (Nat.not_lt.mpr ha)
    have fresh₀ : ∀ a, s.heap.objs.size ≤ a → s₀.heap.get? a = none := fun a ha => none_of_kh (kp_kh k₀) (fresh a ha)
    have kcell : ∀ y a, (y, a) ∈ (callEnvC fd s.heap.objs.size f).cells → (callEnvC fd s.heap.objs.size f).cells.lookup y = some a ∧ (callEnvC fd s.heap.objs.size f).kindOf y = some .cell := fun y a h =>
      ⟨lookup_of_one h fun b hb => cellsFrom_apart _ _ _ k4 (fun _ z => by cases z) b a (fun _ _ z => by cases z) hb h, by rw [kO]; exact mem_of_free k4 (cm y a h).1⟩
    have xlt := Heap.lt_size hx
    have dlt := Heap.lt_size hdx
    let c : Cx := { G := G, A := A.deeper (callEnvC fd s.heap.objs.size f), env := callEnvC fd s.heap.objs.size f, hB := s₀.heap, B := O, s₀ := s, lv := lv }
    have Kc : Ok c ⟨(p0 :: ps ++ rest).map (·, true)⟩ := by
      refine ⟨k1, fun y b hy => ?_, ?_, w.apart, fun y a h e => ?_, fun y a h => ?_, fresh₀ _ (Nat.le_refl _), fun a h => D₀ a h, hgl, hbu, kt₀, ⟨R.hand, ?_, ?_⟩⟩
      · obtain ⟨z, hz, e⟩ := List.mem_map.mp hy; cases e
        refine ⟨(k5 y hz).2, (k5 y hz).1.imp id fun h => ⟨.inl h, ?_⟩⟩
        obtain ⟨a, ha⟩ := Option.isSome_iff_exists.mp (PySem.W.cellsFrom_some (x := y) fd.scope.names (s.heap.objs.size + 1) [] (.inl h))
        exact ⟨a, ha, fun _ => fresh₀ a (Nat.le_of_lt (cm y a (mem_of_lookup ha)).2)⟩
      · show (((p0 :: ps ++ rest).map (·, true)).map (·.1)).Nodup
        rw [List.map_map, show ((·.1) ∘ fun (x : Str) => (x, true)) = id from rfl, List.map_id]; exact k6
      · exact absurd e (Nat.ne_of_gt (cm y a h).2)
      · exact ⟨(kcell y a h).1, by rw [show c.env.kindOf y = _ from (kcell y a h).2]; decide⟩
      · have := R.depth
        show A.depth + 1 + 20 * lv ≤ 900
        omega
      · have := R.units
        show A.units + 3 + 20 * lv ≤ 9000
        omega
    have own : ∀ a, a = x ∨ a = dx → Own c (fun b => O b ∨ b = s.heap.objs.size ∨ (∃ y, (y, b) ∈ c.env.cells) ∨ b = x ∨ b = dx) a := fun a ha => by
      have hlt : a < s.heap.objs.size := by rcases ha with rfl | rfl <;> assumption
      refine ⟨.inr (.inr (.inr ha)), by rcases ha with rfl | rfl <;> assumption, Nat.ne_of_lt hlt, fun y b hb e => ?_⟩
      have := (cm y b hb).2
      subst e
      exact absurd hlt (Nat.not_lt.mpr (Nat.le_of_lt this))
    have y : St c ⟨(p0 :: ps ++ rest).map (·, true)⟩ (fun b => O b ∨ b = s.heap.objs.size ∨ (∃ y, (y, b) ∈ c.env.cells) ∨ b = x ∨ b = dx) (.mobj C x dx [] :: (ds.map .dat ++ anys rest)) { s with heap := h₁, toks := tk } := by
      refine ⟨⟨h₁, tk, rfl⟩, fun b o e => kh b o (kp_kh k₀ b o e), fun a h => .inl h, fun a h => ?_, .inr (.inl rfl), fun y a _ _ h => .inr (.inr (.inl ⟨y, mem_of_lookup h⟩)), fun y => if c.env.kindOf y = some .local then bindL c.env.kindOf ((p0 :: ps).zip (.ref x :: vs)) (fun _ => none) y else bindC c.env.kindOf ((p0 :: ps).zip (.ref x :: vs)) (fun _ => none) y, ⟨⟨_, hns, fun y hy => by rw [if_pos hy]⟩, fun y a hn h => ?_⟩, ?_, ?_⟩
      · rcases h with h | rfl | ⟨y, h⟩ | rfl | rfl
        · obtain ⟨o, e⟩ := D₀ a h; exact ⟨o, kh a o (kp_kh k₀ a o e)⟩
        · obtain ⟨o, _, _, z, _⟩ := hns; exact ⟨o, z⟩
        · obtain ⟨o, z, _⟩ := w.cell y a (kcell y a h).1; exact ⟨o, z⟩
        · exact ⟨_, kh _ _ hx⟩
        · exact ⟨_, kh _ _ hdx⟩
      · rw [if_neg hn]; exact w.cell y a h
      · show Ents c _ _ _ ((p0 :: (ps ++ rest)).map (·, true)) _
        rw [List.map_cons, List.map_append]
        refine ents_cons ⟨[], 0, bind_at _ _ _ hpn (.head _), own x (.inl rfl), own dx (.inr rfl), kh _ _ hx, kh _ _ hdx, .nil⟩ ?_
        refine ents_params (h₀ := s₀.heap) (O := O) (fun b o e => kh b o (kp_kh k₀ b o e)) (fun a h => ?_) ps vs ds hvl.symm rl₀ (fun z v hz => bind_at _ _ _ hpn (.tail _ hz)) (ents_rest rest)
        rcases h with h | rfl | ⟨y, h⟩ | rfl | rfl
        · exact .inr h
        · exact .inl (fresh₀ _ (Nat.le_refl _))
        · exact .inl (fresh₀ _ (Nat.le_of_lt (cm y a h).2))
        · exact .inl nx
        · exact .inl ndx
      · show ((Ent.mobj C x dx []).addrs _ ++ muts _ ((ps ++ rest).map (·, true)) (ds.map .dat ++ anys rest)).Nodup
        rw [calm_muts (calm_dats ds rest), List.append_nil]
        exact List.nodup_cons.mpr ⟨by simpa using hne, List.nodup_cons.mpr ⟨by simp, .nil⟩⟩
    refine wpAny_mono ((hb c x dx rfl rfl rfl).out Kc _ _ y) (fun fl s' q => ?_) nono
    obtain ⟨f', ρ', O', hf, y', fc, hq⟩ := q
    have ks : Keeps s₀ s' := by
      have kk := y'.keep
      obtain ⟨h', tk', rfl⟩ := y'.same
      obtain ⟨h₀, t₀, e, _⟩ := k₀
      have e : s = { s₀ with heap := h₀, toks := t₀ } := e
      exact ⟨h', tk', by show ({ s with heap := h', toks := tk' } : Shared) = _; rw [e], kk⟩
    obtain ⟨rfl, rest', rfl⟩ := hq
    cases fl <;> first | exact hf.elim | skip
    obtain ⟨V', F', En', N'⟩ := y'.frm
    obtain ⟨es, n, e, o1, o2, ex, ed, r⟩ := En'.1
    refine ⟨rfl, ks, .obj (fun q => ?_) (fun q => ?_) ex ed (r.mono fun a o n e => ⟨fun q => n (y'.base a q), e⟩)⟩
    · obtain ⟨o, e⟩ := D₀ _ q; rw [nx] at e; cases e
    · obtain ⟨o, e⟩ := D₀ _ q; rw [ndx] at e; cases e
end Mine

namespace Mine
open PySem PySem.Calls PyProof.Rows PySem.SeqAt PySem.W

/-! what the top holds, read off the fragment -/
theorem ns_in {K : Frag} {h : Heap} {N : Addr} {m : Str → Option Value} {n : Str} {r : Option Value} (X : K.In h) (G : h.Ns N m) (e : nsIn K N n = some r) : m n = r := by
  obtain ⟨o, es, ep, ho, hd, _, hf⟩ := G
  unfold nsIn at e
  split at e
  · rename_i q
    have := X _ _ q
    rw [ho] at this
    cases this
    cases hd
    rw [← hf]
    unfold nsFind findBy
    rw [← Array.find?_toList]
    split at e
    · rename_i he
      rw [he]; cases e; rfl
    · rename_i he
      rw [he]
      split at e <;> cases e
      rfl
  · cases e
def fdOf (K : Frag) (f : Addr) : Option FuncData := match K.lookup f with
  | some ⟨_, _, .func fd, _⟩ => some fd
  | _ => none
theorem fdOf_at {K : Frag} {f : Addr} {fd : FuncData} (e : fdOf K f = some fd) : ∃ o, K.lookup f = some o ∧ o.data = .func fd := by
  unfold fdOf at e
  split at e
  · rename_i q; cases e; exact ⟨_, q, rfl⟩
  · cases e
def refIn (K : Frag) (x : Str) : Addr := match nsIn K mainGlobals x with
  | some (some (.ref a)) => a
  | _ => 0
def fdIn (K : Frag) (f : Addr) : FuncData := match fdOf K f with
  | some fd => fd
  | none => default
theorem fnAt_of {G : Gd} {K : Frag} {f : Addr} {ps : List Str} {body : List Stmt} {scope : Scope} (X : K.In G.hT) (e : fdOf K f = some (fdIn K f)) (h1 : (fdIn K f).body = .stmts body) (h2 : (fdIn K f).scope = scope) (h3 : (fdIn K f).closure = []) (h4 : (fdIn K f).globals = mainGlobals) (h5 : (fdIn K f).builtins = builtinsNs)
    (hc : codeIn K (fdIn K f).code (fdIn K f).qualname = true) (hb : ∀ vals : List Value, vals.length = ps.length → bindArgs (fdIn K f) ⟨vals, []⟩ = pure (ps.zip vals)) : FnAt G f ps.length ps body scope := by
  obtain ⟨o, ho, hd⟩ := fdOf_at e
  exact ⟨o, fdIn K f, X _ _ ho, hd, h1, h2, h3, h4, h5, codeRec_of X hc, hb⟩
theorem bind1 {fd : FuncData} {p : Str} (h : ∀ v, bindArgs fd ⟨[v], []⟩ = pure [(p, v)]) : ∀ vals : List Value, vals.length = [p].length → bindArgs fd ⟨vals, []⟩ = pure ([p].zip vals)
  | [v], _ => h v
theorem bind2 {fd : FuncData} {p q : Str} (h : ∀ v u, bindArgs fd ⟨[v, u], []⟩ = pure [(p, v), (q, u)]) : ∀ vals : List Value, vals.length = [p, q].length → bindArgs fd ⟨vals, []⟩ = pure ([p, q].zip vals)
  | [v, u], _ => h v u

/-- the whole of the top, as the law finds it -/
structure Tp (G : Gd) (K : Frag) : Prop where
  X : K.In G.hT
  free : ∀ x : Str, nsIn K mainGlobals x = some none → G.mg x = none
  boot : ∀ x : Str, x ≠ "__name__" → G.mb x = bootBuiltins x
theorem Tp.ref {G : Gd} {K : Frag} (T : Tp G K) {x : Str} {v : Value} (e : nsIn K mainGlobals x = some (some v)) : G.look x = some v := by
  unfold Gd.look
  rw [ns_in T.X G.ns e]; rfl
theorem Tp.bs {G : Gd} {K : Frag} (T : Tp G K) (h : ((bfs ++ bts).all fun x => nsIn K mainGlobals x == some none) = true) : Bs G := by
  rw [List.all_eq_true] at h
  have k : ∀ x ∈ bfs ++ bts, G.look x = bootBuiltins x := fun x hx => by
    have e := eq_of_beq (h x hx)
    unfold Gd.look
    rw [T.free x e]
    refine (T.boot x ?_)
    rintro rfl
    revert hx; decide
  have kf : ∀ x ∈ bfs, bootBuiltins x = some (.builtin x.toString) := by decide +kernel
  have kt : ∀ x ∈ bts, bootBuiltins x = some (.type x.toString) := by decide +kernel
  exact ⟨fun x hx => (k x (List.mem_append_left _ hx)).trans (kf x hx), fun x hx => (k x (List.mem_append_right _ hx)).trans (kt x hx)⟩
end Mine

namespace Mine
open PySem PySem.Calls PyProof.Rows PySem.SeqAt

section
variable {x y : Str} {a : Int}
theorem inp_adds (h : x.length + y.length ≤ sizeLine) : Inp .Add (.str x) (.str y) (.str (x ++ y)) := fun _ _ A O s _ _ _ _ wa wb => by
  obtain ⟨t, rfl⟩ := wa.strE
  obtain ⟨t', rfl⟩ := wb.strE
  exact PyProof.Rows.iadd_str (fun t' tk => ⟨kp_tok s tk, .str _ _⟩) h
theorem cmp_sgt : Cmp .Gt (.str x) (.str y) (decide (y.cps.toList < x.cps.toList)) := fun _ _ A O s _ _ _ _ wa wb => by
  obtain ⟨t, rfl⟩ := wa.strE
  obtain ⟨t', rfl⟩ := wb.strE
  exact PySem.P.gt_str ⟨kp_refl s, rfl⟩
theorem cal_lent {ds : List D} (h : ds.length < 2 ^ 63) : Cal (.builtin "len") [.tup ds] (.int ds.length) := cal1 fun _ _ A O s _ _ _ z => by
  obtain ⟨c, vs, rfl, l, r⟩ := z.tupl
  have e := r.length
  exact len_tuple l (by rw [List.size_toArray]; omega) ⟨kp_tok s _, by rw [List.size_toArray, e]; exact .int _ _⟩
theorem itm_tup {ds : List D} {i : Int} {d : D} {j : Nat} (hi : i = j) (hj : j < 2 ^ 63) (h : ds[j]? = some d) : Itm (.tup ds) (.int i) d :=
  itm_of (T := "tuple") (fun _ s _ x => by obtain ⟨t, vs, rfl, l, _⟩ := x.tupl; exact l.typeIs) slot_tuple_getitem.lookup fun _ _ A O s a b _ _ wa wb => by
    obtain ⟨c, vs, rfl, l, r⟩ := wa.tupl
    obtain ⟨t, rfl⟩ := wb.intE
    obtain ⟨v, hv, rv⟩ := r.get h
    subst hi
    have hlt : j < vs.length := (List.getElem?_eq_some_iff.mp hv).1
    exact getItem_tuple l (by omega) (by omega) (j := j) (x := v) (by
      rw [List.size_toArray]
      unfold seqIndex?
      simp
      omega) (by simpa using hv) ⟨kp_refl s, rv⟩
end
theorem rep_one {α : Type} (l : List α) : rep 1 l = l := by rw [rep_succ]; simp [rep]
theorem bin_smulA {x : Str} {i : Int} {n : Nat} (hi : i = n) (hn : n < 2 ^ 20) (hx : x.length < 2 ^ 20) (hs : x.length * n ≤ 2 ^ 24) : Bin .Mult (.str x) (.int i) (.str ⟨(rep n x.cps.toList).toArray⟩) := by
  match n with
  | 0 =>
    subst hi
    exact fun _ _ A O s _ _ _ _ wa wb => by
      obtain ⟨t, rfl⟩ := wa.strE
      obtain ⟨t', rfl⟩ := wb.intE
      exact PySem.P.mul_str_none (by decide) (by decide) ⟨kp_tok s _, .str _ _⟩
  | 1 =>
    subst hi
    exact fun _ _ A O s _ _ _ _ wa wb => by
      obtain ⟨t, rfl⟩ := wa.strE
      obtain ⟨t', rfl⟩ := wb.intE
      refine PySem.P.mul_str (by decide) (fun _ h => by cases h) (fun _ h => by cases h) ?_
      have e : (⟨(rep 1 x.cps.toList).toArray⟩ : Str) = x := by rw [rep_one]
      rw [e]
      show (Made.val (.str x t)).post _ s
      exact ⟨kp_refl s, .str x t⟩
  | n + 2 => exact bin_smul hi (by omega) hn hx hs
theorem iL_length (l : List Int) : (iL l).length = l.length := List.length_map _
theorem iL_app (k l : List Int) : iL (k ++ l) = iL k ++ iL l := List.map_append
theorem iL_set (l : List Int) (i : Nat) (v : Int) : (iL l).set i (.int v) = iL (l.set i v) := by rw [iL, iL, List.map_set]
theorem iL_get {l : List Int} {i : Nat} {v : Int} (h : l[i]? = some v) : (iL l)[i]? = some (.int v) := by rw [iL, List.getElem?_map, h]; rfl
theorem iL_rep (n : Nat) (v : Int) : rep n [D.int v] = iL (List.replicate n v) := by
  unfold rep iL
  induction n with
  | zero => rfl
  | succ n ih => rw [List.replicate_succ, List.flatten_cons, ih]; rfl
/-- a loop by an invariant, with a way out -/
theorem Lp.genB {c : Cx} {Γ : Sig} {α : Type} {t : Expr} {body : List Stmt} {Q : Post} (g : α → D) (I : List α → List Ent → Prop) (B : List Ent → Prop) : ∀ (l : List α) (ρ : List Ent), I l ρ →
    (∀ a l ρ, I (a :: l) ρ → ∃ ρ₁, Asg c Γ ρ t (g a) ρ₁ ∧ Ex c Γ ρ₁ body (fun f ρ' => match f with | .next => I l ρ' | .cont => I l ρ' | .brk => B ρ' | .ret d => Q (.ret d) ρ')) →
    (∀ ρ, I [] ρ → B ρ) → (∀ ρ, B ρ → Q .next ρ) → Lp c Γ t body Q (l.map g) ρ
  | [], ρ, h0, _, hB, fin => fin ρ (hB ρ h0)
  | a :: l, ρ, h0, step, hB, fin => by
    obtain ⟨ρ₁, h1, h2⟩ := step a l ρ h0
    refine ⟨ρ₁, h1, h2.mono fun f ρ' q => ?_⟩
    cases f with
    | next => exact Lp.genB g I B l ρ' q step hB fin
    | cont => exact Lp.genB g I B l ρ' q step hB fin
    | brk => exact fin _ q
    | ret d => exact q
/-- on by what holds behind a statement -/
theorem Ex.via {c : Cx} {Γ : Sig} {ρ : List Ent} {st : Stmt} {rest : List Stmt} {Q : Post} (J : List Ent → Prop) (h : Ex1 c Γ ρ st (fun f ρ' => f = .next ∧ J ρ')) (k : ∀ ρ', J ρ' → Ex c Γ ρ' rest Q) : Ex c Γ ρ (st :: rest) Q :=
  Ex.cons (h.mono fun f ρ' q => by obtain ⟨rfl, q⟩ := q; exact k ρ' q)
end Mine

namespace Mine
open PySem PySem.Calls PyProof.Rows PySem.SeqAt PySem.W

theorem rdl_ints {O : Addr → Prop} {h : Heap} : ∀ {vs : List Value} {xs : List Int}, IntsAre vs xs → RdL O h vs (iL xs)
  | [], _, hi => by cases hi; exact .nil
  | v :: vs, _, hi => by
    cases hi with
    | cons x t r => exact .cons (.int _ _) (rdl_ints r)
theorem cells_pair : ∀ (names : List (Str × NameKind)) (n : Nat) (acc : List (Str × Addr)), acc.Pairwise (fun x y => x.2 ≠ y.2) → (∀ p ∈ acc, p.2 < n) → (cellsFrom n names acc).Pairwise fun x y => x.2 ≠ y.2
  | [], _, _, h, _ => h
  | (y, k) :: r, n, acc, h, hlt => by
    unfold cellsFrom
    by_cases hk : (k == .cell) = true
    · rw [if_pos hk]
      refine cells_pair r _ _ (List.pairwise_cons.mpr ⟨fun p hp e => ?_, h⟩) fun p hp => ?_
      · have := hlt p hp
        have e : n = p.2 := e
        rw [← e] at this
        exact Nat.lt_irrefl _ this
      · rcases List.mem_cons.mp hp with rfl | hp
        · exact Nat.lt_succ_self _
        · exact Nat.lt_succ_of_lt (hlt p hp)
    · rw [if_neg hk]; exact cells_pair r _ _ h hlt
/-- the law's own frame, as the head leaves it -/
theorem law_begin {G : Gd} {s₁ : Shared} {h₁ : Heap} {tk₁ : Nat} {name : Str} {scope : Scope} {fa D : Addr} {cd : Value} {binds : List (Str × Value)} {cells : List (Addr × Obj)} {p0 : Str} {rest : List Str} {body : List Stmt} {vs : List Value} {xs : List Int} {Qf : Flow → Shared → Prop} {Ef : Value → Shared → Prop}
    (hT : G.hT = s₁.heap) (F : Fr s₁.heap s₁.heap.objs.size h₁ (bindL (envOfC name scope s₁.heap.objs.size fa cd).kindOf binds fun _ => none)) (N : News s₁.heap s₁.heap.objs.size h₁ cells)
    (X : CellsAre (bindC (envOfC name scope s₁.heap.objs.size fa cd).kindOf binds fun _ => none) (cellsFrom (s₁.heap.objs.size + 1) scope.names []) cells)
    (hL : s₁.heap.IsList D vs.toArray) (hI : IntsAre vs xs) (hb : binds = [(p0, .ref D)]) (hk : fnOk scope (p0 :: rest) = true)
    (hE : ∀ c : Cx, c.G = G → c.lv = 2 → c.env.scope = scope → Ex c ⟨(p0 :: rest).map (·, true)⟩ (.dat (.list (iL xs)) :: anys rest) body (fnPost (.bool true)))
    (hQ : ∀ s' : Shared, KH s₁.heap s'.heap → s'.gens = s₁.gens → s'.os = s₁.os → Qf (.ret (.bool true)) s') :
    wpAny (model G.prog G.w) (callerA.deeper (envOfC name scope s₁.heap.objs.size fa cd)) (execs body (envOfC name scope s₁.heap.objs.size fa cd)) Qf Ef { heap := h₁, gens := s₁.gens, drawn := s₁.drawn, toks := tk₁, os := s₁.os } := by
  subst hb
  simp only [fnOk, Bool.and_eq_true, List.all_eq_true, decide_eq_true_eq, Bool.not_eq_true', beq_iff_eq, Bool.or_eq_true] at hk
  obtain ⟨⟨⟨⟨⟨k1, k2⟩, k3⟩, k4⟩, k5⟩, k6⟩ := hk
  have L0 : Cl s₁.heap.objs.size (cellsFrom (s₁.heap.objs.size + 1) scope.names []) h₁ (bindC (envOfC name scope s₁.heap.objs.size fa cd).kindOf [(p0, .ref D)] fun _ => none) := by
    have fresh : ∀ y a, (y, a) ∈ cellsFrom (s₁.heap.objs.size + 1) scope.names [] → s₁.heap.objs.size < a := fun y a h => by
      rcases cellsFrom_mem _ _ _ h with h | ⟨h1, h2⟩
      · cases h
      · exact h2
    exact Cl.of_news (own := []) N X (cells_pair _ _ _ .nil fun _ h => by cases h) fresh
  let env := envOfC name scope s₁.heap.objs.size fa cd
  have kO : ∀ y, env.kindOf y = scope.names.lookup y := fun y => rfl
  have cm : ∀ y a, (y, a) ∈ env.cells → (y, NameKind.cell) ∈ scope.names ∧ s₁.heap.objs.size < a := fun y a h => by
    rcases cellsFrom_mem _ _ _ h with h | ⟨h1, h2⟩
    · cases h
    · exact ⟨h1, h2⟩
  have fresh : ∀ a, s₁.heap.objs.size ≤ a → s₁.heap.get? a = none := fun a ha => by
    cases e : s₁.heap.get? a with
    | none => rfl
    | some o' => exact absurd (Heap.lt_size e) (Nat.not_lt.mpr ha)
  have kcell : ∀ y a, (y, a) ∈ env.cells → env.cells.lookup y = some a ∧ env.kindOf y = some .cell := fun y a h =>
    ⟨lookup_of_one h fun b hb => cellsFrom_apart _ _ _ k4 (fun _ z => by cases z) b a (fun _ _ z => by cases z) hb h, by rw [kO]; exact mem_of_free k4 (cm y a h).1⟩
  let c : Cx := { G := G, A := callerA.deeper env, env := env, hB := s₁.heap, B := fun _ => False, s₀ := { heap := h₁, gens := s₁.gens, drawn := s₁.drawn, toks := tk₁, os := s₁.os }, lv := 2 }
  have K : Ok c ⟨(p0 :: rest).map (·, true)⟩ := by
    refine ⟨k1, fun y b hy => ?_, ?_, L0.apart, fun y a h e => ?_, fun y a h => ?_, fresh _ (Nat.le_refl _), fun a h => h.elim, rfl, rfl, fun b o e => (by have e : G.hT.get? b = some o := e; rw [hT] at e; exact e), ⟨rfl, ?_, ?_⟩⟩
    · obtain ⟨z, hz, e⟩ := List.mem_map.mp hy; cases e
      refine ⟨(k5 y hz).2, (k5 y hz).1.imp id fun h => ⟨.inl h, ?_⟩⟩
      obtain ⟨a, ha⟩ := Option.isSome_iff_exists.mp (PySem.W.cellsFrom_some (x := y) scope.names (s₁.heap.objs.size + 1) [] (.inl h))
      exact ⟨a, ha, fun _ => fresh a (Nat.le_of_lt (cm y a (mem_of_lookup ha)).2)⟩
    · show (((p0 :: rest).map (·, true)).map (·.1)).Nodup
      rw [List.map_map, show ((·.1) ∘ fun (x : Str) => (x, true)) = id from rfl, List.map_id]; exact k6
    · exact absurd e (Nat.ne_of_gt (cm y a h).2)
    · exact ⟨(kcell y a h).1, by rw [show c.env.kindOf y = _ from (kcell y a h).2]; decide⟩
    · show callerA.depth + 1 + 20 * 2 ≤ 900
      decide
    · show callerA.units + 3 + 20 * 2 ≤ 9000
      decide
  have y : St c ⟨(p0 :: rest).map (·, true)⟩ (fun b => b = s₁.heap.objs.size ∨ ∃ y, (y, b) ∈ c.env.cells) (.dat (.list (iL xs)) :: anys rest) { heap := h₁, gens := s₁.gens, drawn := s₁.drawn, toks := tk₁, os := s₁.os } := by
    refine ⟨⟨h₁, tk₁, rfl⟩, F.keep, fun a h => h.elim, fun a h => ?_, .inl rfl, fun y a _ _ h => .inr ⟨y, mem_of_lookup h⟩, fun y => if c.env.kindOf y = some .local then bindL c.env.kindOf [(p0, .ref D)] (fun _ => none) y else bindC c.env.kindOf [(p0, .ref D)] (fun _ => none) y, ⟨⟨_, F.ns, fun y hy => by rw [if_pos hy]⟩, fun y a hn h => ?_⟩, ?_, ?_⟩
    · rcases h with rfl | ⟨y, h⟩
      · obtain ⟨o, _, _, z, _⟩ := F.ns; exact ⟨o, z⟩
      · obtain ⟨o, z, _⟩ := L0.cell y a (kcell y a h).1; exact ⟨o, z⟩
    · rw [if_neg hn]; exact L0.cell y a h
    · refine ⟨⟨.ref D, bind_at [(p0, .ref D)] _ _ (List.nodup_cons.mpr ⟨by simp, .nil⟩) (.head _), .list (fun q => ?_) (isList_at hL (F.keep D)) (rdl_ints hI)⟩, ents_rest rest⟩
      have := isList_lt hL
      rcases q with e | ⟨y, h⟩
      · rw [e] at this; exact Nat.lt_irrefl _ this
      · exact absurd this (Nat.not_lt.mpr (Nat.le_of_lt (cm y D h).2))
    · show (muts _ (rest.map (·, true)) (anys rest)).Nodup
      rw [calm_muts (show calm (anys rest) = true from calm_dats [] rest)]; exact .nil
  refine wpAny_mono ((hE c rfl rfl rfl).out K _ _ y) (fun fl s' q => ?_) nono
  obtain ⟨f', ρ', O', hf, y', fc, hq⟩ := q
  have ks := y'.keep
  obtain ⟨h', tk', e⟩ := y'.same
  have hv : fl = .ret (.bool true) := by
    cases f' with
    | next => have hq : Mine.D.bool true = Mine.D.none := hq; cases hq
    | brk => have hq : Mine.D.bool true = Mine.D.none := hq; cases hq
    | cont => have hq : Mine.D.bool true = Mine.D.none := hq; cases hq
    | ret d =>
      have hq : d = Mine.D.bool true := hq
      subst hq
      cases fl with
      | ret v => have hf : Rd c.B s'.heap v (.bool true) := hf; cases hf; rfl
      | _ => exact hf.elim
  rw [hv]
  subst e
  exact hQ _ ks rfl rfl
end Mine

namespace Mine
open PySem PySem.Calls PyProof.Rows PySem.SeqAt
local macro_rules | `(tactic| trivial) => `(tactic| first | with_reducible exact At.here | with_reducible exact Put.here | (with_reducible apply At.there; trivial) | (with_reducible apply Put.there; trivial))
local macro_rules | `(tactic| get_elem_tactic_trivial) => `(tactic| first | decide +kernel | kernel_rfl)

abbrev P2 := PySem.Challenge.pw_sc0062_02
abbrev vAP : List (Str × Bool) := [("num", true), ("val", true), ("AP", true), ("mod", true)]
theorem ex_int2ap {c : Cx} (B : Bs c.G) (hsc : c.env.scope = scopeOf P2 7) {n : Int} (hn : n.natAbs < 2 ^ 24) : Ex c ⟨vAP⟩ [.dat (.int n), .any, .any, .any] (bodyOf P2 7) (fnPost (.bytes (byteArr (lets (digs n.natAbs))))) := by
  refine Ex.cons (Ex1.assign Es.bytes (Asg.name (by trivial)) ?_)
  refine Ex.cons (Ex1.assign (Es.bytes.cast (d' := .bytes apB) (by kernel_rfl)) (Asg.name (by trivial)) ?_)
  refine Ex.cons (Ex1.assign (Es.ty (i := "int") B (kd hsc (by kernel_rfl)) (by decide +kernel) (.one (Es.bi (i := "abs") B (kd hsc (by kernel_rfl)) (by decide +kernel) (.one (Es.name (by trivial)).w) cal_abs).w) cal_int) (Asg.name (by trivial)) ?_)
  have e0 : (if n < 0 then -n else n) = (n.natAbs : Int) := by split <;> omega
  rw [e0]
  refine Ex.cons (Ex1.whileE (fun k ρ => ∃ v e, ρ = [.dat (.int (k : Nat)), .dat (.bytes v), .dat (.bytes apB), e] ∧ byteArr (lets (digs k)) ++ v = byteArr (lets (digs n.natAbs)) ∧ v.size + k ≤ 2 ^ 24) n.natAbs
    ⟨_, _, rfl, by simp, by simp; omega⟩ fun k ρ hI => ?_)
  obtain ⟨v, e, rfl, hv, hz⟩ := hI
  refine ⟨_, Tr.val (Es.name (by trivial)).w tru_int, fun hb => ?_, fun hb => ?_⟩
  · have hk : k = 0 := by simpa using hb
    subst hk
    refine Ex.cons (Ex1.ret (Es.name (by trivial)) ?_)
    have : v = byteArr (lets (digs n.natAbs)) := by rw [← hv, digs]; show v = byteArr [] ++ v; simp [byteArr]
    rw [this]; rfl
  · have hk : 0 < k := by have : (k : Int) ≠ 0 := by simpa using hb
                          omega
    have e1 : ((k : Int)).fdiv 16 = ((k / 16 : Nat) : Int) := by rw [Int.fdiv_eq_ediv_of_nonneg _ (by omega)]; rfl
    have e2 : ((k : Int)).fmod 16 = ((k % 16 : Nat) : Int) := by rw [Int.fmod_eq_emod_of_nonneg _ (by omega)]; rfl
    refine Ex.cons (Ex1.assign (Es.bi (i := "divmod") B (kd hsc (by kernel_rfl)) (by decide +kernel) (.two (Es.name (by trivial)).w Es.int.w) (cal_divmod (by decide) (by decide))) (Asg.tup (.cons (by trivial) (.cons (by trivial) .nil))) ?_)
    rw [e1, e2]
    have hd : k % 16 < 16 := Nat.mod_lt _ (by decide)
    refine Ex.cons (Ex1.assign (Es.bin ((Es.bslice (Es.name (by trivial)).w (Pt.some (Es.name (by trivial)).w) (Pt.some (Es.bin (Es.name (by trivial)).w Es.int.w bin_add).w) (by decide +kernel)).cast (by rw [ap_at _ hd])).w (Es.name (by trivial)).w (bin_addb ?_)) (Asg.name (by trivial)) ?_)
    · rw [byteArr_size]
      show 1 + v.size ≤ _
      omega
    refine Ex.nil ⟨k / 16, by omega, _, _, rfl, ?_, ?_⟩
    · rw [← hv, digs_pos hk, lets_app, byteArr_app, Array.append_assoc]
    · rw [Array.size_append, byteArr_size]
      show 1 + v.size + k / 16 ≤ _
      omega
end Mine

namespace Mine
open PySem PySem.Calls PyProof.Rows PySem.SeqAt
local macro_rules | `(tactic| trivial) => `(tactic| first | with_reducible exact At.here | with_reducible exact Put.here | (with_reducible apply At.there; trivial) | (with_reducible apply Put.there; trivial))

abbrev vEM : List (Str × Bool) := [("want", true), ("got", true), ("ws", true), ("startpos", true), ("endpos", true), ("w", true)]
theorem dots_lit : (Str.ofString "...") = tx dots := by kernel_rfl
theorem sL_get {l : List (List Nat)} {i : Nat} {m : List Nat} (h : l[i]? = some m) : (sL (l.map tx))[i]? = some (.str (tx m)) := by
  rw [sL, List.map_map, List.getElem?_map, h]; rfl
theorem strKind_pos (x : Str) : 1 ≤ Builtin.Str.strKind x := by
  unfold Builtin.Str.strKind
  split
  · exact Nat.le_refl _
  · split <;> decide
theorem ex_ellipsis {c : Cx} (B : Bs c.G) {t : Tok} (hE : c.G.look "ELLIPSIS_MARKER" = some (.str (tx dots) t)) (hsc : c.env.scope = scopeOf PySem.Challenge.pw_sc0062_02 5) (ms : List (List Nat)) (g : List Nat) (hm : ∀ m ∈ ms, ∀ x ∈ m, x ≠ 46) (hmz : (tailOf ms).length ≤ 10000) (hne : 0 < ms.length) (hgz : g.length ≤ 10000) (hms : ms.length ≤ 1000) :
    Ex c ⟨vEM⟩ [.dat (.str (tx (tailOf ms))), .dat (.str (tx g)), .any, .any, .any, .any] (bodyOf PySem.Challenge.pw_sc0062_02 5) (fnPost (.bool (mtch ms g 0))) := by
  have hcut := cuts_want ms hm
  have hin : (!(Builtin.Str.occurrences (tx (tailOf ms)) (tx dots) 0 (tx (tailOf ms)).length 1).isEmpty) = true := by
    rw [StrLaws.found_iff]
    have := at_tail [] ms
    rw [List.nil_append] at this
    exact ⟨0, by rw [tx_len]; exact this.1, this.2⟩
  refine Ex.cons (Ex1.ife (Tr.cmp (Es.gstr hE (kd hsc (by kernel_rfl)) (by decide +kernel)).w (Es.name (by trivial)).w cmp_snotin) (fun hb => ?_) fun _ => Ex.nil ?_)
  · rw [hin] at hb; cases hb
  have hlen : ([] :: ms ++ [[]] : List (List Nat)).length = ms.length + 2 := by simp
  refine Ex.cons (Ex1.assignL (El.smeth (Es.name (by trivial)).w PySem.F.slot_str_split PySem.F.type_str_split (.one (Es.gstr hE (kd hsc (by kernel_rfl)) (by decide +kernel)).w) (cal_split (l := ([] :: ms ++ [[]] : List (List Nat)).map tx) ?_ (by decide +kernel) (by rw [hcut.1]; exact cuts_ne _ _) (by rw [tx_len]; unfold sizeLine; omega) (by rw [hcut.1]; exact hcut.2) (by rw [List.length_map, hlen]; unfold sizeLine; omega))) (by trivial) ?_)
  · rw [Bool.or_eq_false_iff]
    refine ⟨decide_eq_false (by rw [tx_len, tx_len]; simp [tailOf, dots]), decide_eq_false ?_⟩
    have : Builtin.Str.strKind (tx dots) = 1 := by decide +kernel
    have := strKind_pos (tx (tailOf ms))
    omega
  have hsl : (sL (([] :: ms ++ [[]] : List (List Nat)).map tx)).length = ms.length + 2 := by rw [sL, List.length_map, List.length_map, hlen]
  refine Ex.cons (Ex1.asrt ((Tr.cmp (Es.bi (i := "len") B (kd hsc (by kernel_rfl)) (by decide +kernel) (.one (Ev.mname (by trivial))) (cal_len (by rw [hsl]; omega))).w Es.int.w cmp_ge).cast (by rw [hsl]; simp; omega)) ?_)
  refine Ex.cons (Ex1.swapped (Es.tup (.cons Es.int (.one (Es.bi (i := "len") B (kd hsc (by kernel_rfl)) (by decide +kernel) (.one (Es.name (by trivial)).w) (cal_lens (by rw [tx_len]; omega))))) (by show 2 ≤ sizeLine; decide)) (by trivial) (by trivial) ?_ ((sw_env hsc).trans (by kernel_rfl)))
  refine Ex.cons (Ex1.assign (Es.sub (Ev.mname (by trivial)) Es.int.w (itm_list (j := 0) rfl (by omega) (sL_get (m := []) rfl))) (Asg.name (by trivial)) ?_)
  refine Ex.cons (Ex1.ife (Tr.val (Es.name (by trivial)).w (tru_str (by rw [tx_len]; decide))) (fun hb => ?_) fun _ => Ex.nil ?_)
  · rw [tx_len] at hb; cases hb
  refine Ex.cons (Ex1.assign (Es.sub (Ev.mname (by trivial)) (Es.una Es.int.w una_neg).w (itm_list_neg (by omega) (by rw [hsl]; omega) (by omega) (sL_get (m := []) ?_))) (Asg.name (by trivial)) ?_)
  · rw [hsl]
    have : (-1 + ((ms.length + 2 : Nat) : Int)).toNat = ms.length + 1 := by omega
    rw [this]
    show (ms ++ [[]])[ms.length]? = _
    simp
  refine Ex.cons (Ex1.ife (Tr.val (Es.name (by trivial)).w (tru_str (by rw [tx_len]; decide))) (fun hb => ?_) fun _ => Ex.nil ?_)
  · rw [tx_len] at hb; cases hb
  refine Ex.cons (Ex1.ife (Tr.cmp (Es.name (by trivial)).w (Es.name (by trivial)).w cmp_gt) (fun hb => ?_) fun _ => Ex.nil ?_)
  · have := of_decide_eq_true hb; omega
  refine Ex.freeze (y := "ws") (by trivial) (by trivial) ?_
  rw [sL_tx]
  refine Ex.cons (Ex1.forE (Es.name (by trivial)) (itr_list (by rw [List.length_map, hlen]; unfold sizeLine; omega)) (Lp.gen (fun m => .str (tx m)) (fun l ρ => ∃ (p : Nat) (e : Ent) (e' : Ent), ρ = [.dat (.str (tx (tailOf ms))), .dat (.str (tx g)), e, .dat (.int p), .dat (.int (tx g).length), e'] ∧ p ≤ g.length ∧ mtch l g p = mtch ms g 0)
    _ _ ⟨0, _, _, rfl, Nat.zero_le _, ?_⟩ (fun m l ρ hI => ?_) fun ρ hI => ?_))
  · rw [List.cons_append, mtch, findL_nil g (Nat.zero_le _)]; exact mtch_end ms g 0 (Nat.zero_le _)
  · obtain ⟨p, e, e', rfl, hp, hr⟩ := hI
    refine ⟨_, Asg.name (by trivial), ?_⟩
    refine Ex.cons (Ex1.assign (Es.smeth (Es.name (by trivial)).w PySem.F.slot_str_find PySem.F.type_str_find (.cons (Es.name (by trivial)).w (.two (Es.name (by trivial)).w (Es.name (by trivial)).w)) (cal_find4 (Nat.le_refl _))) (Asg.name (by trivial)) ?_)
    rw [tx_len, find4_tx]
    rw [mtch] at hr
    cases hf : findL m g p with
    | none =>
      rw [hf] at hr
      refine Ex.cons (Ex1.ife (Tr.cmp (Es.name (by trivial)).w Es.int.w cmp_lt) (fun hb => Ex.cons (Ex1.ret Es.bool ?_)) fun hb => ?_)
      · rw [← hr]; rfl
      · cases hb
    | some i =>
      rw [hf] at hr
      have hle := findL_le hf
      refine Ex.cons (Ex1.ife (Tr.cmp (Es.name (by trivial)).w Es.int.w cmp_lt) (fun hb => ?_) fun hb => Ex.nil ?_)
      · have := of_decide_eq_true hb
        simp only at this
        omega
      refine Ex.cons (Ex1.aug (by trivial) (Es.bi (i := "len") B (kd hsc (by kernel_rfl)) (by decide +kernel) (.one (Es.name (by trivial)).w) (cal_lens (by rw [tx_len]; omega))).w inp_add (by trivial) ?_)
      refine Ex.nil ⟨i + m.length, e, .dat (.str (tx m)), ?_, hle.2, hr⟩
      have e1 : ((i : Int) + ((tx m).length : Int)) = ((i + m.length : Nat) : Int) := by rw [tx_len]; push_cast; rfl
      show [_, _, _, Ent.dat (.int ((i : Int) + ((tx m).length : Int))), _, _] = _
      rw [e1]
  · obtain ⟨p, e, e', rfl, hp, hr⟩ := hI
    rw [mtch] at hr
    exact Ex.cons (Ex1.ret Es.bool (by rw [← hr]; rfl))
end Mine

namespace Mine
open PySem PySem.W PyProof.Rows
set_option maxHeartbeats 8000000 in
open_top hd2 for PySem.Challenge.rw_sc0062_02
end Mine

namespace Mine
open PySem PySem.Calls PyProof.Rows PySem.SeqAt PySem.W

abbrev Pr2 : Program := PySem.Challenge.pw_sc0062_02
noncomputable abbrev K2 (P : Params) : Frag := hd2.heap_39 P
def methIn (K : Frag) (C : Addr) (x : Str) : Addr := match findIn K (.ref C) x with
  | some (some (.ref a)) => a
  | _ => 0
def methBody (p : Program) (i j : Nat) : List Stmt := match p.main.body[i]? with
  | some (.ClassDef (body := b) ..) => (match b[j]? with
    | some (.FunctionDef _ _ body ..) => body
    | _ => [])
  | _ => []
def methScope (p : Program) (i j : Nat) : Scope := match p.main.body[i]? with
  | some (.ClassDef (body := b) ..) => (match b[j]? with
    | some (.FunctionDef (scope := sc) ..) => sc
    | _ => { kind := .module, names := [], isGenerator := false, isCoroutine := false })
  | _ => { kind := .module, names := [], isGenerator := false, isCoroutine := false }
def tokIn : Option (Option Value) → Tok
  | some (some (.str _ t)) => t
  | _ => 0
def tokCl : Option CFound → Tok
  | some (.val (.str _ t)) => t
  | _ => 0
section
variable {G : Gd} {P : Params}
theorem at_ap (X : (K2 P).In G.hT) : FnAt G (refIn (K2 P) "Int2AP") 1 ["num"] (bodyOf Pr2 7) (scopeOf Pr2 7) :=
  fnAt_of X (by kernel_rfl) (by kernel_rfl) (by kernel_rfl) (by kernel_rfl) (by kernel_rfl) (by kernel_rfl) (by kernel_rfl) (bind1 fun v => by kernel_rfl)
theorem at_em (X : (K2 P).In G.hT) : FnAt G (refIn (K2 P) "_ellipsis_match") 2 ["want", "got"] (bodyOf Pr2 5) (scopeOf Pr2 5) :=
  fnAt_of X (by kernel_rfl) (by kernel_rfl) (by kernel_rfl) (by kernel_rfl) (by kernel_rfl) (by kernel_rfl) (by kernel_rfl) (bind2 fun v u => by kernel_rfl)
theorem at_rows (X : (K2 P).In G.hT) : FnAt G (refIn (K2 P) "_law_rows") 2 ["counts", "places"] (bodyOf Pr2 9) (scopeOf Pr2 9) :=
  fnAt_of X (by kernel_rfl) (by kernel_rfl) (by kernel_rfl) (by kernel_rfl) (by kernel_rfl) (by kernel_rfl) (by kernel_rfl) (bind2 fun v u => by kernel_rfl)
theorem at_lead (X : (K2 P).In G.hT) : FnAt G (refIn (K2 P) "_law_lead") 1 ["word"] (bodyOf Pr2 10) (scopeOf Pr2 10) :=
  fnAt_of X (by kernel_rfl) (by kernel_rfl) (by kernel_rfl) (by kernel_rfl) (by kernel_rfl) (by kernel_rfl) (by kernel_rfl) (bind1 fun v => by kernel_rfl)
theorem at_init (X : (K2 P).In G.hT) : FnAt G (methIn (K2 P) (refIn (K2 P) "Whitespace") "__init__") 2 ["self", "ws"] (methBody Pr2 2 1) (methScope Pr2 2 1) :=
  fnAt_of X (by kernel_rfl) (by kernel_rfl) (by kernel_rfl) (by kernel_rfl) (by kernel_rfl) (by kernel_rfl) (by kernel_rfl) (bind2 fun v u => by kernel_rfl)
theorem at_il (X : (K2 P).In G.hT) : FnAt G (methIn (K2 P) (refIn (K2 P) "Whitespace") "indent_level") 2 ["self", "tabsize"] (methBody Pr2 2 3) (methScope Pr2 2 3) :=
  fnAt_of X (by kernel_rfl) (by kernel_rfl) (by kernel_rfl) (by kernel_rfl) (by kernel_rfl) (by kernel_rfl) (by kernel_rfl) (bind2 fun v u => by kernel_rfl)
theorem cls_ws (X : (K2 P).In G.hT) : Cls G (K2 P) (refIn (K2 P) "Whitespace") := ⟨X, by kernel_rfl, by kernel_rfl, by kernel_rfl, by kernel_rfl, by kernel_rfl, by kernel_rfl⟩
theorem bs2 (T : Tp G (K2 P)) : Bs G := T.bs (by kernel_rfl)
theorem look_ws (T : Tp G (K2 P)) : G.look "Whitespace" = some (.ref (refIn (K2 P) "Whitespace")) := T.ref (by kernel_rfl)
theorem look_em (T : Tp G (K2 P)) : G.look "ELLIPSIS_MARKER" = some (.str (Str.ofString "...") (tokIn (nsIn (K2 P) mainGlobals "ELLIPSIS_MARKER"))) := T.ref (by kernel_rfl)
theorem ws_S : findCls (K2 P) (.ref (refIn (K2 P) "Whitespace")) (.type "type") "S" = some (.val (.str (Str.ofString " ") (tokCl (findCls (K2 P) (.ref (refIn (K2 P) "Whitespace")) (.type "type") "S")))) := by kernel_rfl
theorem ws_T : findCls (K2 P) (.ref (refIn (K2 P) "Whitespace")) (.type "type") "T" = some (.val (.str (Str.ofString "\t") (tokCl (findCls (K2 P) (.ref (refIn (K2 P) "Whitespace")) (.type "type") "T")))) := by kernel_rfl
theorem ws_reads : readsIn (K2 P) (refIn (K2 P) "Whitespace") (.type "type") = true := by kernel_rfl
end
end Mine

namespace Mine
open PySem PySem.Calls PyProof.Rows PySem.SeqAt PySem.W
local macro_rules | `(tactic| trivial) => `(tactic| first | with_reducible exact At.here | with_reducible exact Put.here | (with_reducible apply At.there; trivial) | (with_reducible apply Put.there; trivial))

def bump (c : List Int) (b : Nat) : List Int := (if c.length ≤ b then c ++ List.replicate (b - c.length + 1) 0 else c).set b ((if c.length ≤ b then c ++ List.replicate (b - c.length + 1) 0 else c).getD b 0 + 1)
def scan : List Nat → List Int → Nat → Nat → Nat → List Int × Nat × Nat × Nat
  | [], c, b, n, t => (c, b, n, t)
  | k :: r, c, b, n, t => if k = 32 then scan r c (b + 1) (n + 1) t else if k = 9 then scan r (bump c b) 0 (n + 1) (t + 1) else (c, b, n, t)
def wsFs (l : List Nat) (r : List Int × Nat × Nat × Nat) : List (Str × D) :=
  putF "is_simple" (.bool (decide (((iL r.1).length : Int) ≤ 1))) (putF "norm" (.tup [.tup (iL r.1), .int r.2.1]) (putF "nt" (.int r.2.2.2) (putF "n" (.int r.2.2.1) (putF "raw" (.str (tx l)) []))))
abbrev vWS : List (Str × Bool) := [("self", true), ("ws", true), ("S", true), ("T", true), ("count", true), ("b", true), ("n", true), ("nt", true), ("ch", true)]
noncomputable abbrev C2 (P : Params) : Addr := refIn (K2 P) "Whitespace"
theorem ex_init {c : Cx} {P : Params} (T : Tp c.G (K2 P)) (hsc : c.env.scope = methScope Pr2 2 1) {x dx : Addr} {l : List Nat} (hl : l.length ≤ 1000) :
    Ex c ⟨vWS⟩ [.mobj (C2 P) x dx [], .dat (.str (tx l)), .any, .any, .any, .any, .any, .any, .any] (methBody Pr2 2 1) (inPost (C2 P) x dx (wsFs l (scan l [] 0 0 0))) := by
  have B := bs2 T
  have Y := cls_ws T.X
  have e32 : (Str.ofString " ").cps.toList = [32] := by kernel_rfl
  have e9 : (Str.ofString "\t").cps.toList = [9] := by kernel_rfl
  refine Ex.cons (Ex1.setAttr Y (by trivial) (Es.name (by trivial)) (by kernel_rfl) (by decide) (by trivial) ?_)
  refine Ex.cons (Ex1.swapped (Es.tup (.cons (Es.cattr Y (look_ws T) (kd hsc (by kernel_rfl)) ws_reads ws_S) (.one (Es.cattr Y (look_ws T) (kd hsc (by kernel_rfl)) ws_reads ws_T))) (by show 2 ≤ sizeLine; decide)) (by trivial) (by trivial) ?_ ((sw_env hsc).trans (by kernel_rfl)))
  refine Ex.cons (Ex1.assignL (El.list .nil) (by trivial) ?_)
  refine Ex.cons (Ex1.three Es.int (by trivial) (by trivial) (by trivial) ?_)
  have Bd : ∃ I : List Nat → List Ent → Prop, I = fun rest ρ => ∃ (cnt : List Int) (b n nt : Nat) (e : Ent), ρ = [.mobj (C2 P) x dx (putF "raw" (.str (tx l)) []), .dat (.str (tx l)), .dat (.str (Str.ofString " ")), .dat (.str (Str.ofString "\t")), .mlist (iL cnt), .dat (.int b), .dat (.int n), .dat (.int nt), e] ∧
    scan rest cnt b n nt = scan l [] 0 0 0 ∧ cnt.length ≤ 1001 ∧ b + rest.length ≤ 1000 := ⟨_, rfl⟩
  obtain ⟨I, hI⟩ := Bd
  have Bb : ∃ J : List Ent → Prop, J = fun ρ => ∃ (cnt : List Int) (b n nt : Nat) (e : Ent), ρ = [.mobj (C2 P) x dx (putF "raw" (.str (tx l)) []), .dat (.str (tx l)), .dat (.str (Str.ofString " ")), .dat (.str (Str.ofString "\t")), .mlist (iL cnt), .dat (.int b), .dat (.int n), .dat (.int nt), e] ∧
    (cnt, b, n, nt) = scan l [] 0 0 0 ∧ cnt.length ≤ 1001 := ⟨_, rfl⟩
  obtain ⟨J, hJ⟩ := Bb
  refine Ex.cons (Ex1.forE (Es.sattr (d := .str (tx l)) Y (by trivial) (by kernel_rfl) (by kernel_rfl)) (itr_str (by rw [tx_len]; unfold sizeLine; omega)) (Lp.genB (fun k => .str ⟨#[k]⟩) I J l _ ?_ (fun k rest ρ h => ?_) (fun ρ h => ?_) fun ρ h => ?_))
  · rw [hI]; exact ⟨[], 0, 0, 0, _, rfl, rfl, by simp, by simpa using hl⟩
  · rw [hI] at h ⊢
    obtain ⟨cnt, b, n, nt, e, rfl, hs, h1, h2⟩ := h
    rw [List.length_cons] at h2
    rw [scan] at hs
    refine ⟨_, Asg.name (by trivial), ?_⟩
    refine Ex.cons (Ex1.ife (Tr.cmp (Es.name (by trivial)).w (Es.name (by trivial)).w cmp_seq) (fun hb => ?_) (fun hb => ?_))
    · rw [e32] at hb
      have hk : k = 32 := by simpa using hb
      rw [if_pos hk] at hs
      refine Ex.cons (Ex1.assign (Es.bin (Es.name (by trivial)).w Es.int.w bin_add) (Asg.name (by trivial)) ?_)
      refine Ex.cons (Ex1.assign (Es.bin (Es.name (by trivial)).w Es.int.w bin_add) (Asg.name (by trivial)) ?_)
      exact Ex.nil (Ex.nil ⟨cnt, b + 1, n + 1, nt, _, rfl, hs, h1, by omega⟩)
    · rw [e32] at hb
      have hk : k ≠ 32 := by simpa using hb
      rw [if_neg hk] at hs
      refine Ex.cons (Ex1.ife (Tr.cmp (Es.name (by trivial)).w (Es.name (by trivial)).w cmp_seq) (fun hb => ?_) (fun hb => ?_))
      · rw [e9] at hb
        have hk : k = 9 := by simpa using hb
        rw [if_pos hk] at hs
        refine Ex.cons (Ex1.assign (Es.bin (Es.name (by trivial)).w Es.int.w bin_add) (Asg.name (by trivial)) ?_)
        refine Ex.cons (Ex1.assign (Es.bin (Es.name (by trivial)).w Es.int.w bin_add) (Asg.name (by trivial)) ?_)
        have hlen : ((iL cnt).length : Int) = cnt.length := by rw [iL_length]
        refine Ex.via (fun ρ' => ∃ c' : List Int, c' = (if cnt.length ≤ b then cnt ++ List.replicate (b - cnt.length + 1) 0 else cnt) ∧ ρ' = [.mobj (C2 P) x dx (putF "raw" (.str (tx l)) []), .dat (.str (tx l)), .dat (.str (Str.ofString " ")), .dat (.str (Str.ofString "\t")), .mlist (iL c'), .dat (.int b), .dat (.int ((n : Int) + 1)), .dat (.int ((nt : Int) + 1)), .dat (.str ⟨#[k]⟩)])
          (Ex1.ife (Tr.cmp (Es.name (by trivial)).w (Es.bi (i := "len") B (kd hsc (by kernel_rfl)) (by decide +kernel) (.one (Ev.mname (by trivial))) (cal_len (by rw [iL_length]; omega))).w cmp_ge) (fun hb => ?_) (fun hb => ?_)) ?_
        · have hle : cnt.length ≤ b := by rw [hlen] at hb; have := of_decide_eq_true hb; omega
          refine Ex.cons (Ex1.assignL (El.bin (Ev.mname (by trivial)) (El.mul (n := b - cnt.length + 1) (El.list (.one Es.int)) (Es.bin (Es.bin (Es.name (by trivial)).w (Es.bi (i := "len") B (kd hsc (by kernel_rfl)) (by decide +kernel) (.one (Ev.mname (by trivial))) (cal_len (by rw [iL_length]; omega))).w bin_sub).w Es.int.w bin_add).w (by rw [hlen]; omega) (by rw [hlen]; omega) (by rw [hlen]; omega) (by simp; omega)).s.w (binL_add ?_)) (by trivial) ?_)
          · rw [iL_rep, iL_length, iL_length, List.length_replicate]; unfold sizeLine; omega
          · exact Ex.nil ⟨rfl, _, by rw [if_pos hle], by rw [iL_app, iL_rep]⟩
        · have hle : ¬ cnt.length ≤ b := by rw [hlen] at hb; have := of_decide_eq_false hb; omega
          exact Ex.nil ⟨rfl, _, by rw [if_neg hle], rfl⟩
        · rintro ρ' ⟨c', hc', rfl⟩
          have hb : b < c'.length := by rw [hc']; split <;> first | omega | (simp; omega)
          have hz : c'.length ≤ 1001 := by rw [hc']; split <;> first | omega | (simp; omega)
          have hg : c'[b]? = some (c'.getD b 0) := by rw [List.getD, List.getElem?_eq_getElem hb]; rfl
          refine Ex.cons (Ex1.setItem (j := b) (by trivial) (Es.bin (Es.sub (Ev.mname (by trivial)) (Es.name (by trivial)).w (itm_list rfl (by omega) (iL_get hg))).w Es.int.w bin_add) (Es.name (by trivial)).w rfl (by rw [iL_length]; exact hb) (by rw [iL_length]; omega) (by trivial) ?_)
          refine Ex.cons (Ex1.assign Es.int (Asg.name (by trivial)) ?_)
          refine Ex.nil (Ex.nil (Ex.nil ⟨bump cnt b, 0, n + 1, nt + 1, .dat (.str ⟨#[k]⟩), ?_, hs, ?_, by omega⟩))
          · rw [iL_set, bump, ← hc']; rfl
          · unfold bump; rw [List.length_set, ← hc']; exact hz
      · rw [e9] at hb
        have hk : k ≠ 9 := by simpa using hb
        rw [if_neg hk] at hs
        refine Ex.cons (Ex1.brk ?_)
        rw [hJ]
        exact ⟨cnt, b, n, nt, _, rfl, hs, h1⟩
  · rw [hI] at h; rw [hJ]
    obtain ⟨cnt, b, n, nt, e, rfl, hs, h1, h2⟩ := h
    exact ⟨cnt, b, n, nt, e, rfl, hs, h1⟩
  · rw [hJ] at h
    obtain ⟨cnt, b, n, nt, e, rfl, hs, h1⟩ := h
    refine Ex.cons (Ex1.setAttr Y (by trivial) (Es.name (by trivial)) (by kernel_rfl) (Nat.le_of_ble_eq_true (by kernel_rfl)) (by trivial) ?_)
    refine Ex.cons (Ex1.setAttr Y (by trivial) (Es.name (by trivial)) (by kernel_rfl) (Nat.le_of_ble_eq_true (by kernel_rfl)) (by trivial) ?_)
    refine Ex.cons (Ex1.setAttr Y (by trivial) (Es.tup (.cons (Es.ty (i := "tuple") B (kd hsc (by kernel_rfl)) (by decide +kernel) (.one (Ev.mname (by trivial))) (cal_tup (by rw [iL_length]; unfold sizeLine; omega))) (.one (Es.name (by trivial)))) (by show 2 ≤ sizeLine; decide)) (by kernel_rfl) (Nat.le_of_ble_eq_true (by kernel_rfl)) (by trivial) ?_)
    refine Ex.cons (Ex1.setAttr Y (by trivial) (Es.cmp (Es.bi (i := "len") B (kd hsc (by kernel_rfl)) (by decide +kernel) (.one (Ev.mname (by trivial))) (cal_len (by rw [iL_length]; omega))).w Es.int.w cmp_le) (by kernel_rfl) (Nat.le_of_ble_eq_true (by kernel_rfl)) (by trivial) ?_)
    exact Ex.nil ⟨rfl, _, by rw [← hs]; rfl⟩
end Mine

namespace Mine
open PySem PySem.Calls PyProof.Rows PySem.SeqAt PySem.W
local macro_rules | `(tactic| trivial) => `(tactic| first | with_reducible exact At.here | with_reducible exact Put.here | (with_reducible apply At.there; trivial) | (with_reducible apply Put.there; trivial))

theorem upTo_mem : ∀ (n : Nat) (a i : Int), i ∈ upTo a n → a ≤ i ∧ i < a + n
  | 0, _, _, h => by cases h
  | n + 1, a, i, h => by
    rcases List.mem_cons.mp h with rfl | h
    · omega
    · have := upTo_mem n (a + 1) i h; omega
def ilStep (t : Int) (cnt : List Int) (il i : Int) : Int := il + i.fdiv t * cnt.getD i.toNat 0
/-- the indent level of what was scanned, for tabs of t -/
def indent (t : Nat) (r : List Int × Nat × Nat × Nat) : Int := r.2.1 + t * ((upTo t (r.1.length - t)).foldl (ilStep t r.1) 0 + r.2.2.2)
abbrev vIL : List (Str × Bool) := [("self", true), ("tabsize", true), ("count", true), ("trailing", true), ("il", true), ("i", true)]
theorem ex_indent {c : Cx} {P : Params} (T : Tp c.G (K2 P)) (hsc : c.env.scope = methScope Pr2 2 3) {l : List Nat} {r : List Int × Nat × Nat × Nat} {t : Nat} (ht : 1 ≤ t) (ht' : t ≤ 1000) (hr : r.1.length ≤ 2000) :
    Ex c ⟨vIL⟩ [.dat (.obj (C2 P) (wsFs l r)), .dat (.int t), .any, .any, .any, .any] (methBody Pr2 2 3) (fnPost (.int (indent t r))) := by
  have B := bs2 T
  have Y := cls_ws T.X
  refine Ex.cons (Ex1.assign (Es.attr (d := .tup [.tup (iL r.1), .int r.2.1]) Y (Es.name (by trivial)) (by kernel_rfl) (by kernel_rfl)) (Asg.tup (.cons (by trivial) (.cons (by trivial) .nil))) ?_)
  refine Ex.cons (Ex1.assign Es.int (Asg.name (by trivial)) ?_)
  have hlen : ((iL r.1).length : Int) = r.1.length := by rw [iL_length]
  refine Ex.cons (Ex1.forE (Es.ty (i := "range") B (kd hsc (by kernel_rfl)) (by decide +kernel) (.two (Es.name (by trivial)).w (Es.bi (i := "len") B (kd hsc (by kernel_rfl)) (by decide +kernel) (.one (Es.name (by trivial)).w) (cal_lent (by rw [iL_length]; omega))).w) cal_rng2)
    (itr_rng (n := r.1.length - t) (by omega) (by omega) (by rw [hlen]; omega) (by rw [hlen]; omega) (by rw [hlen]; omega) (by unfold sizeLine; omega))
    (Lp.gen D.int (fun rest ρ => ∃ (il : Int) (e : Ent), ρ = [.dat (.obj (C2 P) (wsFs l r)), .dat (.int t), .dat (.tup (iL r.1)), .dat (.int r.2.1), .dat (.int il), e] ∧ rest.foldl (ilStep t r.1) il = (upTo t (r.1.length - t)).foldl (ilStep t r.1) 0 ∧ ∀ i ∈ rest, 0 ≤ i ∧ i < r.1.length)
      _ _ ⟨0, _, rfl, rfl, fun i hi => ?_⟩ (fun i rest ρ h => ?_) fun ρ h => ?_))
  · have := upTo_mem _ _ _ hi; omega
  · obtain ⟨il, e, rfl, hs, hb⟩ := h
    have hi := hb i (.head _)
    refine ⟨_, Asg.name (by trivial), ?_⟩
    have e1 : i = (i.toNat : Int) := by omega
    have e2 : i.fdiv t = i / t := Int.fdiv_eq_ediv_of_nonneg _ (by omega)
    have e3 : 0 ≤ i / (t : Int) ∧ i / (t : Int) ≤ i := ⟨Int.ediv_nonneg hi.1 (by omega), Int.ediv_le_self _ hi.1⟩
    have hg : r.1[i.toNat]? = some (r.1.getD i.toNat 0) := by rw [List.getD, List.getElem?_eq_getElem (by omega)]; rfl
    refine Ex.cons (Ex1.assign (Es.bin (Es.name (by trivial)).w (Es.bin (Es.bin (Es.name (by trivial)).w (Es.name (by trivial)).w (bin_fdiv (by omega) (by omega))).w (Es.sub (Es.name (by trivial)).w (Es.name (by trivial)).w (itm_tup e1 (by omega) (iL_get hg))).w (bin_mul (.inl (by rw [e2]; omega)))).w bin_add) (Asg.name (by trivial)) ?_)
    exact Ex.nil ⟨_, _, rfl, hs, fun j hj => hb j (.tail _ hj)⟩
  · obtain ⟨il, e, rfl, hs, hb⟩ := h
    refine Ex.cons (Ex1.ret (Es.bin (Es.name (by trivial)).w (Es.bin (Es.name (by trivial)).w (Es.bin (Es.name (by trivial)).w (Es.attr (d := .int r.2.2.2) Y (Es.name (by trivial)) (by kernel_rfl) (by kernel_rfl)).w bin_add).w (bin_mul (.inl (by omega)))).w bin_add) ?_)
    have hs' : il = (upTo t (r.1.length - t)).foldl (ilStep t r.1) 0 := hs
    rw [hs']; rfl

/-- the lead of a word -/
def leadL (w : List Nat) : List Nat := ((List.range' 1 (w.length - 1)).flatMap fun i => if w.getD i 0 < w.getD (i - 1) 0 then List.replicate i 32 else []) ++ [9]
abbrev vLL : List (Str × Bool) := [("word", true), ("lead", true), ("place", true)]
theorem rep_tx (n k : Nat) : rep n [k] = List.replicate n k := by
  unfold rep
  induction n with
  | zero => rfl
  | succ n ih => rw [List.replicate_succ, List.flatten_cons, ih]; rfl
theorem upTo_nat : ∀ (n a : Nat), upTo (a : Int) n = (List.range' a n).map fun i => ((i : Nat) : Int)
  | 0, _ => rfl
  | n + 1, a => by
    rw [upTo, List.range'_succ, List.map_cons]
    have := upTo_nat n (a + 1)
    push_cast at this
    rw [this]
theorem chr_at {w : List Nat} {j : Int} {i : Nat} (hj : j = i) (h : i < w.length) (hz : w.length ≤ 10000) : Itm (.str (tx w)) (.int j) (.str ⟨#[w.getD i 0]⟩) := by
  subst hj
  refine itm_str ?_ ?_
  · rw [Bool.or_eq_false_iff]; exact ⟨decide_eq_false (by omega), decide_eq_false (by omega)⟩
  · rw [tx_len, seqIndex_of (by omega) (by omega)]
    show (w.toArray)[(i : Int).toNat]? = _
    rw [Int.toNat_natCast, List.getElem?_toArray, List.getD, List.getElem?_eq_getElem h]; rfl
theorem flat_len {α : Type} (f : α → List Nat) (M : Nat) : ∀ (l : List α), (∀ a ∈ l, (f a).length ≤ M) → (l.flatMap f).length ≤ l.length * M
  | [], _ => by simp
  | a :: l, h => by
    rw [List.flatMap_cons, List.length_append, List.length_cons, Nat.succ_mul]
    have := h a (.head _)
    have := flat_len f M l fun b hb => h b (.tail _ hb)
    omega
theorem lead_len {w : List Nat} {M : Nat} (h : w.length ≤ M) : (leadL w).length ≤ M * M + 1 := by
  unfold leadL
  rw [List.length_append]
  have := flat_len (fun i => if w.getD i 0 < w.getD (i - 1) 0 then List.replicate i 32 else []) M (List.range' 1 (w.length - 1)) (fun i hi => by
    simp [List.mem_range'] at hi
    split
    · rw [List.length_replicate]; omega
    · simp)
  rw [List.length_range'] at this
  have h2 : (w.length - 1) * M ≤ M * M := Nat.mul_le_mul_right _ (by omega)
  simp only [List.length_cons, List.length_nil]
  omega
theorem ex_lead {c : Cx} {P : Params} (T : Tp c.G (K2 P)) (hsc : c.env.scope = scopeOf Pr2 10) {w : List Nat} (hw : w.length ≤ 50) :
    Ex c ⟨vLL⟩ [.dat (.str (tx w)), .any, .any] (bodyOf Pr2 10) (fnPost (.str (tx (leadL w)))) := by
  have B := bs2 T
  have e9 : Str.ofString "\t" = tx [9] := by kernel_rfl
  have e32 : (Str.ofString " ").cps.toList = [32] := by kernel_rfl
  have e32' : (Str.ofString " ").length = 1 := by kernel_rfl
  have hz := lead_len hw
  refine Ex.cons (Ex1.assign (Es.str.cast (d' := .str (tx [])) (by kernel_rfl)) (Asg.name (by trivial)) ?_)
  refine Ex.cons (Ex1.forE (d := .rng 1 (tx w).length) (ds := (List.range' 1 (w.length - 1)).map fun i => .int ((i : Nat) : Int)) (Es.ty (i := "range") B (kd hsc (by kernel_rfl)) (by decide +kernel) (.two Es.int.w (Es.bi (i := "len") B (kd hsc (by kernel_rfl)) (by decide +kernel) (.one (Es.name (by trivial)).w) (cal_lens (by rw [tx_len]; omega))).w) cal_rng2)
    (by
      have := itr_rng (a := 1) (b := (tx w).length) (n := w.length - 1) (by omega) (by omega) (by rw [tx_len]; omega) (by rw [tx_len]; omega) (by rw [tx_len]; omega) (by unfold sizeLine; omega)
      have e := upTo_nat (w.length - 1) 1
      rw [show ((1 : Nat) : Int) = 1 from rfl] at e
      rw [e, iL, List.map_map] at this; exact this)
    (Lp.gen (fun i : Nat => .int (i : Int)) (fun rest ρ => ∃ (acc : List Nat) (e : Ent), ρ = [.dat (.str (tx w)), .dat (.str (tx acc)), e] ∧ acc ++ rest.flatMap (fun i => if w.getD i 0 < w.getD (i - 1) 0 then List.replicate i 32 else []) ++ [9] = leadL w ∧ ∀ i ∈ rest, 1 ≤ i ∧ i < w.length)
      _ _ ⟨[], _, rfl, rfl, fun i hi => ?_⟩ (fun i rest ρ h => ?_) fun ρ h => ?_))
  · simp [List.mem_range'] at hi; omega
  · obtain ⟨acc, e, rfl, hs, hb⟩ := h
    have hi := hb i (.head _)
    refine ⟨_, Asg.name (by trivial), ?_⟩
    rw [List.flatMap_cons] at hs
    have hl := congrArg List.length hs
    simp only [List.length_append, List.length_cons, List.length_nil] at hl
    refine Ex.cons (Ex1.ife (Tr.cmp (Es.sub (Es.name (by trivial)).w (Es.bin (Es.name (by trivial)).w Es.int.w bin_sub).w (chr_at (i := i - 1) (by omega) (by omega) (by omega))).w (Es.sub (Es.name (by trivial)).w (Es.name (by trivial)).w (chr_at (i := i) rfl (by omega) (by omega))).w cmp_sgt) (fun hb' => ?_) (fun hb' => ?_))
    · have hlt : w.getD i 0 < w.getD (i - 1) 0 := by
        have := of_decide_eq_true hb'
        exact (List.cons_lt_cons_iff.mp this).elim id fun h => absurd h.2 (by simp)
      rw [if_pos hlt] at hs hl
      rw [List.length_replicate] at hl
      refine Ex.cons (Ex1.aug (by trivial) (Es.bin Es.str.w (Es.name (by trivial)).w (bin_smulA (n := i) rfl (by omega) (by rw [e32']; decide) (by rw [e32']; omega))).w (inp_adds ?_) (by trivial) ?_)
      · rw [e32, rep_tx]
        show (tx acc).length + (tx (List.replicate i 32)).length ≤ _
        rw [tx_len, tx_len, List.length_replicate]; unfold sizeLine; omega
      · refine Ex.nil (Ex.nil ⟨acc ++ List.replicate i 32, .dat (.int i), ?_, by rw [← hs]; simp, fun j hj => hb j (.tail _ hj)⟩)
        rw [e32, rep_tx]
        show [_, Ent.dat (.str (tx acc ++ tx (List.replicate i 32))), _] = _
        rw [tx_app]
    · have hlt : ¬ w.getD i 0 < w.getD (i - 1) 0 := by
        have := of_decide_eq_false hb'
        exact fun h => this (List.cons_lt_cons_iff.mpr (.inl h))
      rw [if_neg hlt] at hs
      exact Ex.nil (Ex.nil ⟨acc, _, rfl, by rw [← hs]; simp, fun j hj => hb j (.tail _ hj)⟩)
  · obtain ⟨acc, e, rfl, hs, hb⟩ := h
    have hl := congrArg List.length hs
    simp only [List.length_append, List.length_cons, List.length_nil] at hl
    rw [← hs]
    refine Ex.cons (Ex1.ret (Es.bin (Es.name (by trivial)).w Es.str.w (bin_adds ?_)) ?_)
    · rw [e9, tx_len, tx_len]; show acc.length + 1 ≤ sizeLine; unfold sizeLine; omega
    · rw [e9, tx_app]; simp; rfl
end Mine

namespace Mine
open PySem PySem.Calls PyProof.Rows PySem.SeqAt PySem.W
local macro_rules | `(tactic| trivial) => `(tactic| first | with_reducible exact At.here | with_reducible exact Put.here | (with_reducible apply At.there; trivial) | (with_reducible apply Put.there; trivial))

theorem pick_run' {α : Type} (l : List α) (a k : Nat) : pick l ((List.range k).map (a + ·)) = (l.drop a).take k := by
  have := pick_run l.toArray a k
  rw [← this]
  unfold pick
  simp
theorem slc_plain {α : Type} (l : List α) (lo hi : Option Int) : slc l lo hi none = (l.drop (lo.elim 0 (clipAt l.length))).take (hi.elim l.length (clipAt l.length) - lo.elim 0 (clipAt l.length)) := by
  unfold slc
  rw [sliceBounds_plain]
  rw [sliceRange_one, pick_run']
theorem clip_le {n k : Nat} (h : k ≤ n) : clipAt n (k : Int) = k := by
  have := clipAt_nat n k
  rw [this]; omega
theorem slc_take {α : Type} (l : List α) {k : Nat} {i : Int} (hi : i = k) (h : k ≤ l.length) : slc l none (some i) none = l.take k := by
  subst hi
  rw [slc_plain]
  show (l.drop 0).take (clipAt l.length (k : Int) - 0) = _
  rw [clip_le h]; rfl
theorem slc_drop {α : Type} (l : List α) {k : Nat} {i : Int} (hi : i = k) (h : k ≤ l.length) : slc l (some i) none none = l.drop k := by
  subst hi
  rw [slc_plain]
  show (l.drop (clipAt l.length (k : Int))).take (l.length - clipAt l.length (k : Int)) = _
  rw [clip_le h, List.take_of_length_le (by simp)]

section
variable {c : Cx} {Γ : Sig} {ρ : List Ent}
theorem El.l0 {pos : Pos} : El c Γ ρ (.List [] pos) [] := El.list .nil (Nat.zero_le _)
theorem El.l1 {e : Expr} {d : D} {pos : Pos} (h : Es c Γ ρ e d) (he : ∀ env, starEach [e] env = (false, eval e env) :: starEach [] env := by intro _; rfl) : El c Γ ρ (.List [e] pos) [d] := El.list (.one h he) (by show 1 ≤ sizeLine; decide)
theorem Es.t2 {e f : Expr} {d d' : D} {k : Nat} {pos : Pos} (h : Es c Γ ρ e d) (h' : Es c Γ ρ f d') (he : ∀ env, starEach [e, f] env = (false, eval e env) :: starEach [f] env := by intro _; rfl) (hf : ∀ env, starEach [f] env = (false, eval f env) :: starEach [] env := by intro _; rfl) : Es c Γ ρ (.Tuple [e, f] k pos) (.tup [d, d']) :=
  Es.tup (.cons h (.one h' hf) he) (by show 2 ≤ sizeLine; decide)
end

/-! the rows of a law -/
def pd (p : List Int × List Int) : D := .tup [.list (iL p.1), .list (iL p.2)]
def less1 (l : List Int) (k : Nat) : List Int := l.take k ++ [l.getD k 0 - 1] ++ l.drop (k + 1)
def grow (ps : List (List Int × List Int)) : List (List Int × List Int) := ps.flatMap fun p => ((List.range 3).filter fun (k : Nat) => decide (0 < p.2.getD k 0)).map fun (k : Nat) => (p.1 ++ [(k : Int)], less1 p.2 k)
def growN (n : Nat) (ps : List (List Int × List Int)) : List (List Int × List Int) := match n with
  | 0 => ps
  | n + 1 => growN n (grow ps)
theorem grow_three {ps : List (List Int × List Int)} (h : ∀ p ∈ ps, p.2.length = 3) : ∀ p ∈ grow ps, p.2.length = 3 := by
  intro p hp
  obtain ⟨q, hq, hp⟩ := List.mem_flatMap.mp hp
  obtain ⟨k, hk, rfl⟩ := List.mem_map.mp hp
  have h3 := h q hq
  have hk3 := List.mem_range.mp (List.mem_filter.mp hk).1
  simp [less1]; omega
theorem grow_row {ps : List (List Int × List Int)} {n : Nat} (h : ∀ p ∈ ps, p.1.length ≤ n) : ∀ p ∈ grow ps, p.1.length ≤ n + 1 := by
  intro p hp
  obtain ⟨q, hq, hp⟩ := List.mem_flatMap.mp hp
  obtain ⟨k, hk, rfl⟩ := List.mem_map.mp hp
  have := h q hq
  simp; omega
theorem grow_len {ps : List (List Int × List Int)} {n : Nat} (h : ps.length ≤ n) : (grow ps).length ≤ n * 3 := by
  have : ∀ ps : List (List Int × List Int), (grow ps).length ≤ ps.length * 3 := by
    intro ps
    induction ps with
    | nil => simp [grow]
    | cons p ps ih =>
      show ((((List.range 3).filter _).map _) ++ grow ps).length ≤ _
      rw [List.length_append, List.length_map, List.length_cons]
      have := List.length_filter_le (fun k => decide (0 < p.2.getD k 0)) (List.range 3)
      simp only [List.length_range] at this
      omega
  have := this ps
  omega
theorem grow_out (ps : List (List Int × List Int)) : ((ps.filter fun _ => true).flatMap fun a => ((List.range 3).filter fun (k : Nat) => decide (0 < a.2.getD k 0)).map fun (k : Nat) => pd (a.1 ++ [(k : Int)], less1 a.2 k)) = (grow ps).map pd := by
  rw [List.filter_eq_self.mpr fun _ _ => rfl, grow, List.map_flatMap]
  congr 1
  funext a
  rw [List.map_map]; rfl
abbrev vLR : List (Str × Bool) := [("counts", true), ("places", true), ("grown", true), ("place", true)]
theorem range3 : Itr (.rng 0 3) ((List.range 3).map fun k : Nat => .int (k : Int)) := by
  have := itr_rng (a := 0) (b := 3) (n := 3) (by decide) (by decide) (by decide) (by decide) rfl (by decide)
  exact this
theorem iL_take (l : List Int) (k : Nat) : (iL l).take k = iL (l.take k) := by rw [iL, iL, List.map_take]
theorem iL_drop (l : List Int) (k : Nat) : (iL l).drop k = iL (l.drop k) := by rw [iL, iL, List.map_drop]
theorem getD_at {l : List Int} {k : Nat} (h : k < l.length) : l[k]? = some (l.getD k 0) := by rw [List.getD, List.getElem?_eq_getElem h]; rfl
theorem range_nat (n : Nat) : iL (upTo 0 n) = (List.range n).map fun k : Nat => .int (k : Int) := by
  have e := upTo_nat n 0
  rw [show ((0 : Nat) : Int) = 0 from rfl] at e
  rw [e, iL, List.map_map, List.range_eq_range']; rfl
theorem itr_upto {i : Int} {n : Nat} (hi : i = n) (hn : n ≤ 10000) : Itr (.rng 0 i) ((List.range n).map fun k : Nat => .int (k : Int)) := by
  rw [← range_nat]
  exact itr_rng (by omega) (by omega) (by omega) (by omega) (by omega) (by unfold sizeLine; omega)
theorem ex_rows {c : Cx} {P : Params} (T : Tp c.G (K2 P)) (hsc : c.env.scope = scopeOf Pr2 9) {cnt : List Int} {n : Nat} (hc : cnt.length = 3) (hn : n ≤ 6) :
    Ex c ⟨vLR⟩ [.dat (.list (iL cnt)), .dat (.int n), .any, .any] (bodyOf Pr2 9) (fnPost (.list (((growN n [([], cnt)]).map (·.1)).map fun r => .list (iL r)))) := by
  have B := bs2 T
  refine Ex.cons (Ex1.assignL (El.l1 (Es.t2 El.l0.s (Es.name (by trivial)))) (by trivial) ?_)
  refine Ex.freeze (y := "grown") (by trivial) (by trivial) ?_
  refine Ex.cons (Ex1.forE (Es.ty (i := "range") B (kd hsc (by kernel_rfl)) (by decide +kernel) (.one (Es.name (by trivial)).w) cal_rng) (itr_upto rfl (by omega))
    (Lp.gen (fun k : Nat => .int (k : Int)) (fun rest ρ => ∃ (ps : List (List Int × List Int)) (m : Nat) (e : Ent), ρ = [.dat (.list (iL cnt)), .dat (.int n), .dat (.list (ps.map pd)), e] ∧ growN rest.length ps = growN n [([], cnt)] ∧ (∀ p ∈ ps, p.2.length = 3) ∧ (∀ p ∈ ps, p.1.length ≤ m) ∧ ps.length ≤ 3 ^ m ∧ m + rest.length ≤ 6)
      _ _ ⟨[([], cnt)], 0, .any, rfl, by rw [List.length_range], by simpa using hc, by simp, by simp, by simpa using hn⟩ (fun k rest ρ h => ?_) fun ρ h => ?_))
  · obtain ⟨ps, m, e, rfl, hg, h3, hr, hl, hm⟩ := h
    rw [List.length_cons] at hg hm
    have hl' : ps.length ≤ 3 ^ 5 := Nat.le_trans hl (Nat.pow_le_pow_right (by decide) (by omega))
    refine ⟨_, Asg.name (by trivial), ?_⟩
    refine Ex.cons (Ex1.comp (tv := ["row", "left", "k"]) (fv := []) (caps := []) (by decide +kernel) .nil (Es.name (by trivial)).w (itr_list (by rw [List.length_map]; unfold sizeLine; omega)) (fun c' hI => show Runs c' ⟨[("row", true), ("left", true), ("k", true)]⟩ _ [.any, .any, .any] _ _ from runs2 (by intro _; rfl) (CL2.gen pd (fun _ => true) (fun _ => List.range 3) (fun k : Nat => .int (k : Int)) (fun p k => decide (0 < p.2.getD k 0)) (fun p k => pd (p.1 ++ [(k : Int)], less1 p.2 k))
      (fun ρ => ∃ e1 e2 e3 : Ent, ρ = [e1, e2, e3] ∧ e3.calm = true) (fun p ρ => ∃ e3 : Ent, ρ = [.dat (.list (iL p.1)), .dat (.list (iL p.2)), e3] ∧ e3.calm = true) (fun p ρ h => let ⟨e3, h, q⟩ := h; ⟨_, _, e3, h, q⟩) ps _ ⟨_, _, _, rfl, rfl⟩ (fun p hp ρ h => ?_) (fun p hp _ k hk ρ h => ?_)) ?_) (by trivial) ?_ ((sww_env hsc).trans (by kernel_rfl)))
    · obtain ⟨e1, e2, e3, rfl, hc3⟩ := h
      have hB : Bs c'.G := hI.G ▸ B
      refine ⟨_, Asg.tup (.cons (by trivial) (.cons (by trivial) .nil)), by simpa [calm, Ent.calm] using hc3, .nil, ⟨e3, rfl, hc3⟩, fun _ => ⟨_, Es.ty (i := "range") hB (kd hI.sc (by kernel_rfl)) (by decide +kernel) (.one Es.int.w) cal_rng, range3⟩⟩
    · obtain ⟨e3, rfl, hc3⟩ := h
      have hB : Bs c'.G := hI.G ▸ B
      have hk3 := List.mem_range.mp hk
      have p3 := h3 p hp
      have pm := hr p hp
      have L2 : (iL p.2).length = 3 := by rw [iL_length, p3]
      have L1 : (iL p.1).length ≤ 6 := by rw [iL_length]; omega
      have s1 : slc (iL p.2) none (some (k : Int)) none = iL (p.2.take k) := by rw [slc_take _ rfl (by omega), iL_take]
      have s2 : slc (iL p.2) (some ((k : Int) + 1)) none none = iL (p.2.drop (k + 1)) := by rw [slc_drop (k := k + 1) _ (by push_cast; rfl) (by omega), iL_drop]
      refine ⟨_, Asg.name (by trivial), by rfl, Ts.one (Tr.cmp (Es.sub (Es.name (by trivial)).w (Es.name (by trivial)).w (itm_list rfl (by omega) (iL_get (getD_at (by omega))))).w Es.int.w cmp_gt), ⟨.dat (.int k), rfl, rfl⟩, fun _ => ?_⟩
      refine (Es.t2 (El.bin (Es.name (by trivial)).w (El.l1 (Es.name (by trivial))).s.w (binL_add (by show _ + 1 ≤ _; unfold sizeLine; omega))).s
        (El.bin (El.bin (El.slice (Es.name (by trivial)).w Pt.none (Pt.some (Es.name (by trivial)).w) (by rw [L2]; decide)).s.w (El.l1 (Es.bin (Es.sub (Es.name (by trivial)).w (Es.name (by trivial)).w (itm_list rfl (by omega) (iL_get (getD_at (by omega))))).w Es.int.w bin_sub)).s.w (binL_add ?_)).s.w (El.slice (Es.name (by trivial)).w (Pt.some (Es.bin (Es.name (by trivial)).w Es.int.w bin_add).w) Pt.none (by rw [L2]; decide)).s.w (binL_add ?_)).s).cast ?_
      · rw [s1, iL_length]; have := List.length_take_le k p.2; show _ + 1 ≤ _; unfold sizeLine; omega
      · rw [s1, s2, List.length_append, iL_length, iL_length]
        have := List.length_take_le k p.2
        have := List.length_drop (i := k + 1) (l := p.2)
        show _ + 1 + _ ≤ _
        unfold sizeLine; omega
      · rw [s1, s2]
        unfold pd less1
        rw [iL_app, iL_app, iL_app]; rfl
    · rw [grow_out, List.length_map]
      have := grow_len hl'
      unfold sizeLine; omega
    · rw [grow_out]
      exact Ex.nil ⟨grow ps, m + 1, .dat (.int k), rfl, hg, grow_three h3, grow_row hr, by rw [Nat.pow_succ]; exact grow_len hl, by omega⟩
  · obtain ⟨ps, m, e, rfl, hg, h3, hr, hl, hm⟩ := h
    have hg : ps = growN n [([], cnt)] := hg
    have hl' : ps.length ≤ 3 ^ 6 := Nat.le_trans hl (Nat.pow_le_pow_right (by decide) (by simpa using hm))
    refine Ex.cons (Ex1.ret (El.comp (d := .list (ps.map pd)) (ds := ps.map pd) (tv := ["row", "left"]) (fv := []) (caps := []) (by decide +kernel) .nil (Es.name (by trivial)).w (itr_list (by rw [List.length_map]; unfold sizeLine; omega)) (fun c' hI =>
      runs1 (CL1.pair (fv := []) (caps := []) ps (fun p => .list (iL p.1)) (fun p => .list (iL p.2)) (fun _ => true) (fun p => .list (iL p.1)) rfl (fun _ _ => .nil) (fun p hp _ => ?_)) ?_)).s ?_)
    · exact Es.name At.here
    · rw [List.length_map]
      have := List.length_filter_le (fun _ => true) ps
      unfold sizeLine; omega
    · rw [← hg, List.filter_eq_self.mpr fun _ _ => rfl]
      show D.list _ = D.list _
      rw [List.map_map]; rfl
end Mine

namespace Mine
open PySem

/-! the law, by rows alone -/
def nats (r : List Int) : List Nat := r.map Int.toNat
def scanOf (r : List Nat) : List Int × Nat × Nat × Nat := scan (leadL r ++ [120, 32, 9]) [] 0 0 0
def farOf (n : Nat) (r : List Int) : Int := indent n (scanOf (nats r)) - (((scanOf (nats r)).2.2.1 : Int) - ((scanOf (nats r)).2.2.2 : Int))
def fallsOf (n : Nat) (r : List Int) : Int := (((List.range n).filter fun p => decide (r.getD p 0 < r.getD (if p = 0 then n - 1 else p - 1) 0)).length : Int)
def partsOf (n : Nat) (r : List Int) : List Int := ((List.range' 1 n).filter fun p => n % p == 0 && r == rep p (r.take (n / p))).map fun (p : Nat) => (p : Int)
def epOf (n : Nat) (r : List Int) : Int := (partsOf n r).foldl max 0
def rot (r : List Int) : List Int := r.getLastD 0 :: r.dropLast
def mR (r h : List Int) : Bool := mtch [nats r] (nats h ++ nats h) 0
abbrev HS := List (List Int) × List Int
def found (r : List Int) (st : HS) : List Nat := (List.range st.1.length).filter fun k => mR r (st.1.getD k [])
def headStep (st : HS) (r : List Int) : Option HS := match found r st with
  | [] => some (st.1 ++ [r], st.2 ++ [1])
  | [k] => some (st.1, st.2.set k (st.2.getD k 0 + 1))
  | _ => none
def headsOf : HS → List (List Int) → Option HS
  | st, [] => some st
  | st, r :: rs => (headStep st r).bind fun st => headsOf st rs
def rowOk (n : Nat) (rows : List (List Int)) (r : List Int) : Bool :=
  r.length == n && r.all (fun k => decide (0 ≤ k) && decide (k < 3)) && (partsOf n r).contains (epOf n r) && (partsOf n r).all (fun p => decide (p ≤ epOf n r)) &&
  rows.contains (rot r) && (farOf n (rot r) - (farOf n r - fallsOf n r)).fmod n == 0
def colOk (n : Nat) (rows : List (List Int)) (sizes : List Int) (c : Int) : Bool :=
  ((((rows.map (farOf n)).count c : Nat) : Int) * n == (((rows.map (epOf n)).filter fun p => c.fmod p == 0).sum)) &&
  (((sizes.filter fun s => (c * s).fmod n == 0).length : Int) * n == (((rows.map (epOf n)).filter fun p => c.fmod p == 0).sum))
def rowsOf (n : Nat) (cnt : List Int) : List (List Int) := (growN n [([], cnt)]).map (·.1)
def lawOk (n : Nat) (cnt : List Int) : Bool :=
  (rowsOf n cnt).all (rowOk n (rowsOf n cnt)) && (rowsOf n cnt).Nodup && decide ((rowsOf n cnt).length ≤ 1000) && (match headsOf ([], []) (rowsOf n cnt) with
    | none => false
    | some st => decide (st.1.length = st.2.length) && (List.range' 1 n).all fun (c : Nat) => colOk n (rowsOf n cnt) st.2 (c : Int))
def cases2 : List (Nat × List Int) :=
  ((List.range 7).map fun (a : Nat) => (6, [(a : Int), 6 - a, 0])) ++ (List.range 5).flatMap fun (a : Nat) => (List.range (5 - a)).map fun (b : Nat) => (4, [(a : Int), (b : Int), 4 - a - b])
end Mine
namespace Mine
theorem all_ok2 : cases2.all (fun p => lawOk p.1 p.2) = true := by decide +kernel
end Mine

namespace Mine
open PySem

structure Fg (f : Nat → Nat) : Prop where
  a : 1 ≤ f 0
  b : f 0 < f 1
  c : f 1 < f 2
  d : f 2 ≤ 15
theorem Fg.lt {f : Nat → Nat} (F : Fg f) : ∀ {i j : Nat}, i < 3 → j < 3 → (f i < f j ↔ i < j) := by
  intro i j hi hj
  have := F.a; have := F.b; have := F.c
  match i, j, hi, hj with
  | 0, 0, _, _ => omega
  | 0, 1, _, _ => omega
  | 0, 2, _, _ => omega
  | 1, 0, _, _ => omega
  | 1, 1, _, _ => omega
  | 1, 2, _, _ => omega
  | 2, 0, _, _ => omega
  | 2, 1, _, _ => omega
  | 2, 2, _, _ => omega
theorem Fg.inj {f : Nat → Nat} (F : Fg f) {i j : Nat} (hi : i < 3) (hj : j < 3) (h : f i = f j) : i = j := by
  have h1 := F.lt hi hj
  have h2 := F.lt hj hi
  omega
theorem Fg.pos {f : Nat → Nat} (F : Fg f) {i : Nat} (hi : i < 3) : 1 ≤ f i ∧ f i ≤ 15 := by
  have := F.a; have := F.b; have := F.c; have := F.d
  match i, hi with
  | 0, _ => omega
  | 1, _ => omega
  | 2, _ => omega
abbrev Sm (l : List Nat) : Prop := ∀ k ∈ l, k < 3
theorem map_inj3 {φ : Nat → Nat} (h : ∀ i j, i < 3 → j < 3 → φ i = φ j → i = j) : ∀ {A B : List Nat}, Sm A → Sm B → A.map φ = B.map φ → A = B
  | [], [], _, _, _ => rfl
  | [], _ :: _, _, _, e => by cases e
  | _ :: _, [], _, _, e => by cases e
  | a :: A, b :: B, ha, hb, e => by
    rw [List.map_cons, List.map_cons] at e
    injection e with e1 e2
    rw [h a b (ha a (.head _)) (hb b (.head _)) e1, map_inj3 h (fun k hk => ha k (.tail _ hk)) (fun k hk => hb k (.tail _ hk)) e2]
theorem findL_map {φ : Nat → Nat} (h : ∀ i j, i < 3 → j < 3 → φ i = φ j → i = j) {m g : List Nat} (hm : Sm m) (hg : Sm g) (p : Nat) : findL (m.map φ) (g.map φ) p = findL m g p := by
  unfold findL
  rw [List.length_map, List.length_map]
  congr 1
  funext i
  congr 1
  unfold atL
  rw [List.length_map, ← List.map_drop, ← List.map_take, Bool.eq_iff_iff, beq_iff_eq, beq_iff_eq]
  exact ⟨fun e => map_inj3 h (fun k hk => hg k (List.mem_of_mem_drop (List.mem_of_mem_take hk))) hm e, fun e => by rw [e]⟩
theorem mtch_map {φ : Nat → Nat} (h : ∀ i j, i < 3 → j < 3 → φ i = φ j → i = j) {g : List Nat} (hg : Sm g) : ∀ (ms : List (List Nat)) (p : Nat), (∀ m ∈ ms, Sm m) → mtch (ms.map (·.map φ)) (g.map φ) p = mtch ms g p
  | [], _, _ => rfl
  | m :: ms, p, hm => by
    rw [List.map_cons, mtch, mtch, findL_map h (hm m (.head _)) hg]
    cases findL m g p with
    | none => rfl
    | some i =>
      show mtch _ _ (i + (m.map φ).length) = _
      rw [List.length_map]
      exact mtch_map h hg ms _ fun m' hm' => hm m' (.tail _ hm')

/-! words and numbers of rows -/
def wd (f : Nat → Nat) (r : List Int) : List Nat := (nats r).map fun k => 65 + f k
def numN (f : Nat → Nat) (l : List Nat) : Nat := l.foldl (fun acc k => 16 * acc + f k) 0
structure Wf (n : Nat) (r : List Int) : Prop where
  len : r.length = n
  sm : ∀ k ∈ r, 0 ≤ k ∧ k < 3
theorem Wf.nats {n : Nat} {r : List Int} (w : Wf n r) : Sm (nats r) := fun k hk => by
  obtain ⟨i, hi, rfl⟩ := List.mem_map.mp hk
  have := w.sm i hi; omega
theorem Wf.nlen {n : Nat} {r : List Int} (w : Wf n r) : (Mine.nats r).length = n := by rw [Mine.nats, List.length_map, w.len]
theorem nats_inj {n m : Nat} : ∀ {r r' : List Int}, Wf n r → Wf m r' → nats r = nats r' → r = r'
  | [], [], _, _, _ => rfl
  | [], _ :: _, _, _, e => by cases e
  | _ :: _, [], _, _, e => by cases e
  | a :: A, b :: B, ha, hb, e => by
    unfold nats at e
    rw [List.map_cons, List.map_cons] at e
    injection e with e1 e2
    have h1 := ha.sm a (.head _)
    have h2 := hb.sm b (.head _)
    have := nats_inj (n := A.length) (m := B.length) ⟨rfl, fun k hk => ha.sm k (.tail _ hk)⟩ ⟨rfl, fun k hk => hb.sm k (.tail _ hk)⟩ e2
    rw [this, show a = b by omega]
section
variable {f : Nat → Nat} (F : Fg f)
include F
theorem inj65 : ∀ i j, i < 3 → j < 3 → 65 + f i = 65 + f j → i = j := fun i j hi hj h => F.inj hi hj (by omega)
theorem mR_wd {n m : Nat} {r h : List Int} (wr : Wf n r) (wh : Wf m h) : mtch [wd f r] (wd f h ++ wd f h) 0 = mR r h := by
  unfold mR wd
  rw [← List.map_append]
  exact mtch_map (inj65 F) (fun k hk => (List.mem_append.mp hk).elim (wh.nats k) (wh.nats k)) [nats r] 0 (fun m' hm' => by rw [List.mem_singleton.mp hm']; exact wr.nats)
omit F in
theorem numN_app (l : List Nat) (k : Nat) : numN f (l ++ [k]) = 16 * numN f l + f k := by unfold numN; rw [List.foldl_append]; rfl
theorem digs_num : ∀ {l : List Nat}, Sm l → digs (numN f l) = l.map f := by
  intro l
  rcases List.eq_nil_or_concat l with rfl | ⟨l', k, rfl⟩
  · intro _; rw [show numN f [] = 0 from rfl, digs]; rfl
  · intro h
    rw [List.concat_eq_append] at h ⊢
    have hk := F.pos (h k (by simp))
    rw [numN_app, digs_pos (by omega), List.map_append, List.map_singleton]
    have e1 : (16 * numN f l' + f k) / 16 = numN f l' := by omega
    have e2 : (16 * numN f l' + f k) % 16 = f k := by omega
    rw [e1, e2, digs_num fun i hi => h i (by simp [hi])]
termination_by l => l.length
decreasing_by subst_vars; simp
theorem num_lt : ∀ {l : List Nat}, Sm l → numN f l < 16 ^ l.length := by
  intro l
  rcases List.eq_nil_or_concat l with rfl | ⟨l', k, rfl⟩
  · intro _; show 0 < 1; decide
  · intro h
    rw [List.concat_eq_append] at h ⊢
    have hk := F.pos (h k (by simp))
    have := num_lt (l := l') fun i hi => h i (by simp [hi])
    rw [numN_app, List.length_append, List.length_singleton, Nat.pow_succ]
    omega
termination_by l => l.length
decreasing_by subst_vars; simp
theorem num_inj {l m : List Nat} (hl : Sm l) (hm : Sm m) (h : numN f l = numN f m) : l = m :=
  map_inj3 (fun i j hi hj e => F.inj hi hj e) hl hm (by rw [← digs_num F hl, ← digs_num F hm, h])
theorem num_cons (k : Nat) : ∀ (l : List Nat), numN f (k :: l) = f k * 16 ^ l.length + numN f l := by
  intro l
  rcases List.eq_nil_or_concat l with rfl | ⟨l', j, rfl⟩
  · show 16 * 0 + f k = f k * 1 + 0; omega
  · rw [List.concat_eq_append, ← List.cons_append, numN_app, numN_app, num_cons k l', List.length_append, List.length_singleton, Nat.pow_succ]
    have : f k * (16 ^ l'.length * 16) = 16 * (f k * 16 ^ l'.length) := by rw [Nat.mul_comm (16 ^ l'.length) 16, ← Nat.mul_assoc, Nat.mul_comm (f k) 16, Nat.mul_assoc]
    rw [this]; omega
termination_by l => l.length
decreasing_by subst_vars; simp
theorem num_rot {n : Nat} {r : List Int} (w : Wf (n + 1) r) : numN f (nats r) / 16 + numN f (nats r) % 16 * 16 ^ n = numN f (nats (rot r)) := by
  rcases List.eq_nil_or_concat r with rfl | ⟨l, k, rfl⟩
  · have := w.len; simp at this
  · rw [List.concat_eq_append] at w ⊢
    have hl := w.len
    simp at hl
    have hk := F.pos (w.nats k.toNat (by simp [nats]))
    have e : nats (rot (l ++ [k])) = k.toNat :: nats l := by simp [rot, nats]
    have e2 : nats (l ++ [k]) = nats l ++ [k.toNat] := by simp [nats]
    rw [e, e2, numN_app, num_cons F]
    have e1 : (16 * numN f (nats l) + f k.toNat) / 16 = numN f (nats l) := by omega
    have e3 : (16 * numN f (nats l) + f k.toNat) % 16 = f k.toNat := by omega
    have e4 : (nats l).length = n := by rw [nats, List.length_map]; omega
    rw [e1, e3, e4]; omega
theorem lead_wd {n : Nat} {r : List Int} (w : Wf n r) : leadL (wd f r) = leadL (nats r) := by
  unfold leadL
  have hlen : (wd f r).length = (nats r).length := by rw [wd, List.length_map]
  rw [hlen]
  congr 1
  have g : ∀ i, i < (nats r).length → (wd f r).getD i 0 = 65 + f ((nats r).getD i 0) := fun i hi => by
    rw [wd, List.getD, List.getD, List.getElem?_map, List.getElem?_eq_getElem hi]; rfl
  have h3 : ∀ i, i < (nats r).length → (nats r).getD i 0 < 3 := fun i hi => by
    rw [List.getD, List.getElem?_eq_getElem hi]; exact w.nats _ (List.getElem_mem hi)
  have cong : ∀ (l : List Nat), (∀ i ∈ l, 1 ≤ i ∧ i < (nats r).length) → l.flatMap (fun i => if (wd f r).getD i 0 < (wd f r).getD (i - 1) 0 then List.replicate i 32 else []) = l.flatMap (fun i => if (nats r).getD i 0 < (nats r).getD (i - 1) 0 then List.replicate i 32 else []) := by
    intro l
    induction l with
    | nil => intro _; rfl
    | cons i l ih =>
      intro h
      have hi := h i (.head _)
      rw [List.flatMap_cons, List.flatMap_cons, ih fun j hj => h j (.tail _ hj), g i hi.2, g (i - 1) (by omega)]
      have := F.lt (h3 i hi.2) (h3 (i - 1) (by omega))
      congr 1
      by_cases q : (nats r).getD i 0 < (nats r).getD (i - 1) 0
      · rw [if_pos q, if_pos (by have := this.mpr q; omega)]
      · rw [if_neg q, if_neg (by intro z; exact q (this.mp (by omega)))]
  exact cong _ fun i hi => by simp [List.mem_range'] at hi; omega
end
end Mine

namespace Mine
open PySem PySem.Calls PyProof.Rows PySem.SeqAt PySem.W

section
variable {G : Gd} {P : Params} (T : Tp G (K2 P))
include T
theorem c_ap {n : Int} (hn : n.natAbs < 2 ^ 24) : FnC G 1 (refIn (K2 P) "Int2AP") [.int n] (.bytes (byteArr (lets (digs n.natAbs)))) :=
  fnc_of (lv := 0) (ps := ["num"]) (rest := ["val", "AP", "mod"]) (at_ap T.X) (by decide +kernel) rfl fun c hG _ hsc => ex_int2ap (hG ▸ bs2 T) hsc hn
theorem c_em (ms : List (List Nat)) (g : List Nat) (hm : ∀ m ∈ ms, ∀ x ∈ m, x ≠ 46) (hmz : (tailOf ms).length ≤ 10000) (hne : 0 < ms.length) (hgz : g.length ≤ 10000) (hms : ms.length ≤ 1000) :
    FnC G 1 (refIn (K2 P) "_ellipsis_match") [.str (tx (tailOf ms)), .str (tx g)] (.bool (mtch ms g 0)) :=
  fnc_of (lv := 0) (ps := ["want", "got"]) (rest := ["ws", "startpos", "endpos", "w"]) (at_em T.X) (by decide +kernel) rfl fun c hG _ hsc => by
    subst hG
    have h := look_em T
    rw [dots_lit] at h
    exact ex_ellipsis (bs2 T) h hsc ms g hm hmz hne hgz hms
theorem c_rows {cnt : List Int} {n : Nat} (hc : cnt.length = 3) (hn : n ≤ 6) : FnC G 1 (refIn (K2 P) "_law_rows") [.list (iL cnt), .int n] (.list ((rowsOf n cnt).map fun r => .list (iL r))) :=
  fnc_of (lv := 0) (ps := ["counts", "places"]) (rest := ["grown", "place"]) (at_rows T.X) (by decide +kernel) rfl fun c hG _ hsc => by
    subst hG
    exact ex_rows T hsc hc hn
theorem c_lead {w : List Nat} (hw : w.length ≤ 50) : FnC G 1 (refIn (K2 P) "_law_lead") [.str (tx w)] (.str (tx (leadL w))) :=
  fnc_of (lv := 0) (ps := ["word"]) (rest := ["lead", "place"]) (at_lead T.X) (by decide +kernel) rfl fun c hG _ hsc => by
    subst hG
    exact ex_lead T hsc hw
theorem c_init {l : List Nat} (hl : l.length ≤ 1000) : InC G 1 (methIn (K2 P) (C2 P) "__init__") (C2 P) [.str (tx l)] (wsFs l (scan l [] 0 0 0)) :=
  inc_of (lv := 0) (p0 := "self") (ps := ["ws"]) (rest := ["S", "T", "count", "b", "n", "nt", "ch"]) (at_init T.X) (by decide +kernel) rfl fun c x dx hG _ hsc => by
    subst hG
    exact ex_init T hsc hl
theorem c_il {l : List Nat} {r : List Int × Nat × Nat × Nat} {t : Nat} (ht : 1 ≤ t) (ht' : t ≤ 1000) (hr : r.1.length ≤ 2000) : FnC G 1 (methIn (K2 P) (C2 P) "indent_level") [.obj (C2 P) (wsFs l r), .int t] (.int (indent t r)) :=
  fnc_of (lv := 0) (ps := ["self", "tabsize"]) (rest := ["count", "trailing", "il", "i"]) (at_il T.X) (by decide +kernel) rfl fun c hG _ hsc => by
    subst hG
    exact ex_indent T hsc ht ht' hr
end
theorem scan_len : ∀ (l : List Nat) (c : List Int) (b n t : Nat) (M : Nat), c.length ≤ M → b + l.length ≤ M → (scan l c b n t).1.length ≤ M
  | [], _, _, _, _, _, h, _ => h
  | k :: r, c, b, n, t, M, h, h2 => by
    rw [List.length_cons] at h2
    rw [scan]
    split
    · exact scan_len r c (b + 1) (n + 1) t M h (by omega)
    · split
      · refine scan_len r _ 0 (n + 1) (t + 1) M ?_ (by omega)
        unfold bump
        rw [List.length_set]
        split
        · simp; omega
        · exact h
      · exact h
end Mine

namespace Mine
open PySem PySem.Calls PyProof.Rows PySem.SeqAt PySem.W
local macro_rules | `(tactic| trivial) => `(tactic| first | with_reducible exact At.here | with_reducible exact Put.here | (with_reducible apply At.there; trivial) | (with_reducible apply Put.there; trivial))

abbrev vLaw : List (Str × Bool) := [("script", true), ("drawn", true), ("total", true), ("places", true), ("kinds", true), ("figures", true), ("unit", true), ("counts", true), ("place", true), ("kind", true), ("carried", true), ("reached", true), ("turned", true), ("equal_parts", true), ("heads", true), ("sizes", true), ("row", true), ("number", true), ("k", true), ("told", true), ("word", true), ("space", true), ("far", true), ("falls", true), ("found", true), ("columns", true), ("due", true), ("rings", true)]

theorem pick_map {α β : Type} (f : α → β) (l : List α) : ∀ is, pick (l.map f) is = (pick l is).map f
  | [] => rfl
  | i :: is => by
    unfold pick
    rw [List.filterMap_cons, List.filterMap_cons, List.getElem?_map]
    cases l[i]? with
    | none => exact pick_map f l is
    | some a => exact congrArg (f a :: ·) (pick_map f l is)
theorem slc_iL (l : List Int) (lo hi st : Option Int) : slc (iL l) lo hi st = iL (slc l lo hi st) := by
  unfold slc iL
  rw [List.length_map, pick_map]
theorem slc_len {α : Type} (l : List α) (i : Int) : (slc l none (some i) none).length ≤ l.length := by
  rw [slc_plain]; simp; omega

/-- the figures of a law -/
def figL (f : Nat → Nat) : List Int := [(f 0 : Int), (f 1 : Int), (f 2 : Int)]
/-- what stands ahead of the walk of rows -/
def Ahead (Q : List Ent → Prop) : Prop := ∀ (xs dr : List Int) (tot : Int) (n kd : Nat) (f : Nat → Nat) (cnt : List Int) (e1 e2 e3 : Ent), (n = 6 ∨ n = 4) → Fg f → cnt.length = 3 → lawOk n cnt = true →
  Q [.dat (.list (iL xs)), .dat (.list (iL dr)), .dat (.int tot), .dat (.int n), .dat (.int kd), .mlist (iL (figL f)), e1, .mlist (iL cnt), e2, e3, .any, .any, .any, .any, .any, .any, .any, .any, .any, .any, .any, .any, .any, .any, .any, .any, .any, .any]
theorem law_of {n : Nat} {cnt : List Int} (h : (n, cnt) ∈ cases2) : lawOk n cnt = true := List.all_eq_true.mp all_ok2 _ h
theorem cases_six {a : Nat} (h : a < 7) : (6, [(a : Int), 6 - a, 0]) ∈ cases2 := List.mem_append_left _ (List.mem_map_of_mem (f := fun (a : Nat) => (6, [(a : Int), 6 - a, 0])) (List.mem_range.mpr h))
theorem cases_four {a b : Nat} (h : a + b < 5) : (4, [(a : Int), (b : Int), 4 - a - b]) ∈ cases2 :=
  List.mem_append_right _ (List.mem_flatMap.mpr ⟨a, List.mem_range.mpr (by omega), List.mem_map_of_mem (f := fun (b : Nat) => (4, [(a : Int), (b : Int), 4 - a - b])) (List.mem_range.mpr (by omega))⟩)
theorem mod_bd (i : Int) {m : Int} (h : 0 < m) : 0 ≤ i.fmod m ∧ i.fmod m < m := by
  rw [Int.fmod_eq_emod_of_nonneg _ (by omega)]
  exact ⟨Int.emod_nonneg _ (by omega), Int.emod_lt_of_pos _ h⟩
set_option maxHeartbeats 4000000 in
theorem law_ahead {c : Cx} {P : Params} (T : Tp c.G (K2 P)) (hsc : c.env.scope = scopeOf Pr2 11) {xs : List Int} (hx : xs.length ≤ 63) {Q : Post} (h_ahead : Ahead fun ρ => Ex c ⟨vLaw⟩ ρ ((bodyOf Pr2 11).drop 8) Q) :
    Ex c ⟨vLaw⟩ (.dat (.list (iL xs)) :: anys ["drawn", "total", "places", "kinds", "figures", "unit", "counts", "place", "kind", "carried", "reached", "turned", "equal_parts", "heads", "sizes", "row", "number", "k", "told", "word", "space", "far", "falls", "found", "columns", "due", "rings"]) (bodyOf Pr2 11) Q := by
  have B := bs2 T
  show Ex c ⟨vLaw⟩ [.dat (.list (iL xs)), .any, .any, .any, .any, .any, .any, .any, .any, .any, .any, .any, .any, .any, .any, .any, .any, .any, .any, .any, .any, .any, .any, .any, .any, .any, .any, .any] (bodyOf Pr2 11) Q
  refine Ex.cons (Ex1.comp (tv := ["number"]) (fv := []) (caps := []) (ds := (slc xs none (some 24) none).map D.int) (by decide +kernel) .nil (El.slice (Es.name (by trivial)).w Pt.none (Pt.some Es.int.w) (by rw [iL_length]; unfold sizeLine; omega)).s.w
    (by rw [slc_iL]; exact itr_list (by rw [iL_length]; have := slc_len xs 24; unfold sizeLine; omega)) (fun c' hI => runs1 (CL1.all (fv := []) (caps := []) (slc xs none (some 24) none) D.int (fun i => .int (i.fmod (10 ^ 6))) rfl (fun i _ => Es.bin (Es.name At.here).w (Es.bin Es.int.w Es.int.w (bin_pow (by decide) (by decide +kernel))).w (bin_fmod (by decide)))) ?_) (by trivial) ?_ ((sww_env hsc).trans (by kernel_rfl)))
  · rw [List.length_map]; have := slc_len xs 24; unfold sizeLine; omega
  generalize hdr : (slc xs none (some 24) none).map (fun i => i.fmod (10 ^ 6)) = dr
  have hdl : dr.length ≤ 63 := by rw [← hdr, List.length_map]; have := slc_len xs 24; omega
  have e0 : (slc xs none (some 24) none).map (fun i => D.int (i.fmod (10 ^ 6))) = iL dr := by rw [← hdr, iL, List.map_map]; rfl
  rw [e0]
  clear e0 hdr
  refine Ex.cons (Ex1.assign (Es.bi (i := "sum") B (kd hsc (by kernel_rfl)) (by decide +kernel) (.one (Es.name (by trivial)).w) cal_sum) (Asg.name (by trivial)) ?_)
  generalize dr.sum = tot
  refine Ex.cons (Ex1.assign (Es.ife (Tr.cmp (Es.bin (Es.name (by trivial)).w Es.int.w (bin_fmod (by decide))).w Es.int.w cmp_ge) (fun _ => Es.int) (fun _ => Es.int)) (Asg.name (by trivial)) ?_)
  have hn : ∃ n : Nat, (n = 6 ∨ n = 4) ∧ (bif decide (2 ≤ tot.fmod 4) then D.int 6 else D.int 4) = .int n := by
    cases decide (2 ≤ tot.fmod 4)
    · exact ⟨4, .inr rfl, rfl⟩
    · exact ⟨6, .inl rfl, rfl⟩
  obtain ⟨n, hn, e0⟩ := hn
  rw [e0]
  clear e0
  refine Ex.cons (Ex1.assign (Es.ife (Tr.cmp (Es.name (by trivial)).w Es.int.w cmp_eq) (fun _ => Es.int) (fun _ => Es.int)) (Asg.name (by trivial)) ?_)
  have hk : ∃ kd : Nat, ((n = 6 ∧ kd = 2) ∨ (n = 4 ∧ kd = 3)) ∧ (bif ((n : Int) == 6) then D.int 2 else D.int 3) = .int kd := by
    rcases hn with rfl | rfl
    · exact ⟨2, .inl ⟨rfl, rfl⟩, rfl⟩
    · exact ⟨3, .inr ⟨rfl, rfl⟩, rfl⟩
  obtain ⟨kd', hk, e0⟩ := hk
  rw [e0]
  clear e0
  refine Ex.cons (Ex1.assignL (El.l1 (Es.bin Es.int.w (Es.bin (Es.bin (Es.name (by trivial)).w Es.int.w (bin_fdiv (by decide) (by decide))).w Es.int.w (bin_fmod (by decide))).w bin_add)) (by trivial) ?_)
  have a0 := mod_bd (tot.fdiv 2) (m := 5) (by decide)
  have a1 := mod_bd (tot.fdiv 10) (m := 5) (by decide)
  have a2 := mod_bd (tot.fdiv 50) (m := 5) (by decide)
  refine Ex.cons (Ex1.forE (El.list (.cons Es.int (.one Es.int)) (by show 2 ≤ sizeLine; decide)).s (itr_list (by show 2 ≤ sizeLine; decide)) ⟨_, Asg.name (by trivial), Ex.cons (Ex1.append (by trivial) (Es.bin (Es.bin (Es.sub (Ev.mname (by trivial)) (Es.una Es.int.w una_neg).w (itm_list_neg (by decide) (by show -((1 : Nat) : Int) ≤ -1; decide) (by decide) rfl)).w Es.int.w bin_add).w (Es.bin (Es.bin (Es.name (by trivial)).w (Es.name (by trivial)).w (bin_fdiv (by decide) (by decide))).w Es.int.w (bin_fmod (by decide))).w bin_add) (by trivial) (by show 1 < sizeLine; decide) (Ex.nil
    ⟨_, Asg.name (by trivial), Ex.cons (Ex1.append (by trivial) (Es.bin (Es.bin (Es.sub (Ev.mname (by trivial)) (Es.una Es.int.w una_neg).w (itm_list_neg (by decide) (by show -((2 : Nat) : Int) ≤ -1; decide) (by decide) rfl)).w Es.int.w bin_add).w (Es.bin (Es.bin (Es.name (by trivial)).w (Es.name (by trivial)).w (bin_fdiv (by decide) (by decide))).w Es.int.w (bin_fmod (by decide))).w bin_add) (by trivial) (by show 2 < sizeLine; decide) (Ex.nil ?_))⟩))⟩)
  have hf : ∃ f : Nat → Nat, Fg f ∧ iL (figL f) = [D.int (1 + (tot.fdiv 2).fmod 5)] ++ [D.int (1 + (tot.fdiv 2).fmod 5 + 1 + (tot.fdiv 10).fmod 5)] ++ [D.int (1 + (tot.fdiv 2).fmod 5 + 1 + (tot.fdiv 10).fmod 5 + 1 + (tot.fdiv 50).fmod 5)] := by
    generalize (tot.fdiv 2).fmod 5 = x at a0
    generalize (tot.fdiv 10).fmod 5 = y at a1
    generalize (tot.fdiv 50).fmod 5 = z at a2
    refine ⟨fun k => if k = 0 then (1 + x).toNat else if k = 1 then (1 + x + 1 + y).toNat else (1 + x + 1 + y + 1 + z).toNat, ⟨?_, ?_, ?_, ?_⟩, ?_⟩
    · show 1 ≤ (1 + x).toNat; omega
    · show (1 + x).toNat < (1 + x + 1 + y).toNat; omega
    · show (1 + x + 1 + y).toNat < (1 + x + 1 + y + 1 + z).toNat; omega
    · show (1 + x + 1 + y + 1 + z).toNat ≤ 15; omega
    · show [D.int ((1 + x).toNat : Nat), D.int ((1 + x + 1 + y).toNat : Nat), D.int ((1 + x + 1 + y + 1 + z).toNat : Nat)] = [_, _, _]
      rw [Int.toNat_of_nonneg (by omega), Int.toNat_of_nonneg (by omega), Int.toNat_of_nonneg (by omega)]
  obtain ⟨f, F, e0⟩ := hf
  rw [← e0]
  clear e0 a0 a1 a2
  refine Ex.cons (Ex1.assignL (El.list (.cons Es.int (.cons Es.int (.one Es.int))) (by show 3 ≤ sizeLine; decide)) (by trivial) ?_)
  have hn6 : n ≤ 6 := by omega
  have hkd : 0 < kd' := by omega
  have hB : ∃ I : List Nat → List Ent → Prop, I = fun rest ρ => ∃ (a b g : Int) (e1 e2 e3 : Ent), ρ = [.dat (.list (iL xs)), .dat (.list (iL dr)), .dat (.int tot), .dat (.int n), .dat (.int kd'), .mlist (iL (figL f)), e1, .mlist (iL [a, b, g]), e2, e3, .any, .any, .any, .any, .any, .any, .any, .any, .any, .any, .any, .any, .any, .any, .any, .any, .any, .any] ∧
    0 ≤ a ∧ 0 ≤ b ∧ 0 ≤ g ∧ a + b + g + rest.length = n ∧ (kd' = 2 → g = 0) ∧ ∀ p ∈ rest, p < n := ⟨_, rfl⟩
  obtain ⟨I, hI⟩ := hB
  refine Ex.cons (Ex1.forE (Es.ty (i := "range") B (kd hsc (by kernel_rfl)) (by decide +kernel) (.one (Es.name (by trivial)).w) cal_rng) (itr_upto rfl (by omega)) (Lp.gen (fun k : Nat => .int (k : Int)) I _ _ ?_ (fun p rest ρ h => ?_) fun ρ h => ?_))
  · rw [hI]
    exact ⟨0, 0, 0, _, _, _, rfl, by omega, by omega, by omega, by simp, fun _ => rfl, fun p hp => List.mem_range.mp hp⟩
  · rw [hI] at h ⊢
    obtain ⟨a, b, g, e1, e2, e3, rfl, ha, hb, hg, hs, hc, hp⟩ := h
    rw [List.length_cons] at hs
    have hp0 := hp p (.head _)
    refine ⟨_, Asg.name (by trivial), ?_⟩
    refine Ex.cons (Ex1.assign (Es.bin (Es.bin (Es.sub (El.list (.cons Es.int (.cons Es.int (.cons Es.int (.cons Es.int (.cons Es.int (.one Es.int)))))) (by show 6 ≤ sizeLine; decide)).s.w (Es.name (by trivial)).w (itm_list (j := p) rfl (by omega) (iL_get (l := [0, 1, 1, 0, 0, 1]) (getD_at (by show p < 6; omega))))).w
      (Es.bi (i := "sum") B (kd hsc (by kernel_rfl)) (by decide +kernel) (.one ((El.slice3 (Es.name (by trivial)).w (Pt.some (Es.name (by trivial)).w) Pt.none (Es.name (by trivial)).w (by omega) (by rw [iL_length]; unfold sizeLine; omega)).cast (slc_iL _ _ _ _)).s.w) cal_sum).w bin_add).w (Es.name (by trivial)).w (bin_fmod (by omega))) (Asg.name (by trivial)) ?_)
    generalize hkk : ([0, 1, 1, 0, 0, 1].getD p 0 + (slc dr (some (p : Int)) none (some (n : Int))).sum : Int).fmod kd' = q
    have hq : 0 ≤ q ∧ q < kd' := by rw [← hkk]; exact mod_bd _ (by omega)
    have hq3 : q = 0 ∨ q = 1 ∨ (q = 2 ∧ kd' = 3) := by omega
    have fin : ∀ p' ∈ rest, p' < n := fun p' hp' => hp p' (.tail _ hp')
    rcases hq3 with rfl | rfl | ⟨rfl, h3⟩
    · refine Ex.cons (Ex1.augItem (i := 0) (j := 0) (by trivial) (Es.name (by trivial)).w rfl rfl (by show (3 : Nat) < 2 ^ 63; decide) Es.int.w inp_add (by trivial) ?_)
      exact Ex.nil ⟨a + 1, b, g, _, _, _, rfl, by omega, hb, hg, by push_cast at hs; omega, hc, fin⟩
    · refine Ex.cons (Ex1.augItem (i := 1) (j := 1) (by trivial) (Es.name (by trivial)).w rfl rfl (by show (3 : Nat) < 2 ^ 63; decide) Es.int.w inp_add (by trivial) ?_)
      exact Ex.nil ⟨a, b + 1, g, _, _, _, rfl, ha, by omega, hg, by push_cast at hs; omega, hc, fin⟩
    · refine Ex.cons (Ex1.augItem (i := 2) (j := 2) (by trivial) (Es.name (by trivial)).w rfl rfl (by show (3 : Nat) < 2 ^ 63; decide) Es.int.w inp_add (by trivial) ?_)
      exact Ex.nil ⟨a, b, g + 1, _, _, _, rfl, ha, hb, by omega, by push_cast at hs; omega, fun z => by omega, fin⟩
  · rw [hI] at h
    obtain ⟨a, b, g, e1, e2, e3, rfl, ha, hb, hg, hs, hc, hp⟩ := h
    refine h_ahead xs dr tot n kd' f [a, b, g] e1 e2 e3 hn F rfl (law_of ?_)
    simp only [List.length_nil] at hs
    rcases hk with ⟨rfl, rfl⟩ | ⟨rfl, rfl⟩
    · have hg0 := hc rfl
      have := cases_six (a := a.toNat) (by omega)
      rw [Int.toNat_of_nonneg ha] at this
      rw [hg0, show b = 6 - a by omega]; exact this
    · have := cases_four (a := a.toNat) (b := b.toNat) (by omega)
      rw [Int.toNat_of_nonneg ha, Int.toNat_of_nonneg hb] at this
      rw [show g = 4 - a - b by omega]; exact this
end Mine

namespace Mine
open PySem PySem.Calls PyProof.Rows PySem.SeqAt PySem.W
local macro_rules | `(tactic| trivial) => `(tactic| first | with_reducible exact At.here | with_reducible exact Put.here | (with_reducible apply At.there; trivial) | (with_reducible apply Put.there; trivial))

def forBody : Option Stmt → List Stmt
  | some (.For _ _ b _ _) => b
  | _ => []
def numI (f : Nat → Nat) (r : List Int) : Int := (numN f (nats r) : Nat)
def turnD (n : Nat) (f : Nat → Nat) (r : List Int) : D := .tup [.int ((numI f r).fdiv 16 + (numI f r).fmod 16 * 16 ^ (n - 1)), .int (farOf n r - fallsOf n r)]
def headD (f : Nat → Nat) (h : List Int) : D := .str (tx (wd f h))
def rowsD (n : Nat) (f : Nat → Nat) (l : List (List Int)) : List (Int × D) := l.reverse.map fun r => (numI f r, .int (farOf n r))
theorem rowsD_snoc (n : Nat) (f : Nat → Nat) (l : List (List Int)) (r : List Int) : (numI f r, .int (farOf n r)) :: rowsD n f l = rowsD n f (l ++ [r]) := by unfold rowsD; simp
theorem join_foldl : ∀ (l : List Nat) (acc : Array Nat), (l.map fun a => (⟨#[a]⟩ : Str)).foldl (fun acc p => acc ++ (tx []).cps ++ p.cps) acc = acc ++ l.toArray
  | [], acc => by simp
  | a :: l, acc => by
    rw [List.map_cons, List.foldl_cons, join_foldl l]
    simp [tx]
theorem join_chars (l : List Nat) : Txt.join (tx []) (l.map fun a => (⟨#[a]⟩ : Str)) = tx l := by
  cases l with
  | nil => rfl
  | cons a l =>
    apply Str.ext'
    show (l.map fun a => (⟨#[a]⟩ : Str)).foldl (fun acc p => acc ++ (tx []).cps ++ p.cps) #[a] = _
    rw [join_foldl]
    simp [tx]
theorem nats_snoc (l : List Int) (k : Int) : nats (l ++ [k]) = nats l ++ [k.toNat] := by simp [nats]
theorem numI_snoc (f : Nat → Nat) (l : List Int) (k : Int) : numI f (l ++ [k]) = 16 * numI f l + (f k.toNat : Nat) := by
  unfold numI
  rw [nats_snoc, numN_app]; push_cast; rfl
theorem figs_at {f : Nat → Nat} {k : Int} (h : 0 ≤ k ∧ k < 3) : (iL (figL f))[k.toNat]? = some (.int (f k.toNat : Nat)) := by
  have : k = 0 ∨ k = 1 ∨ k = 2 := by omega
  rcases this with rfl | rfl | rfl <;> rfl
theorem lets_row (f : Nat → Nat) (r : List Int) : lets ((nats r).map f) = r.map fun k => 65 + ((f k.toNat : Nat) : Int) := by
  unfold lets nats
  rw [List.map_map, List.map_map]; rfl
theorem lets_wd (f : Nat → Nat) (r : List Int) : (lets ((nats r).map f)).map Int.toNat = wd f r := by
  unfold lets wd nats
  rw [List.map_map, List.map_map, List.map_map, List.map_map]
  apply List.map_congr_left
  intro k _
  show (65 + ((f k.toNat : Nat) : Int)).toNat = 65 + f k.toNat
  omega
section
variable {c : Cx} {P : Params} (T : Tp c.G (K2 P)) (hsc : c.env.scope = scopeOf Pr2 11) (hlv : 2 ≤ c.lv)
include T hsc hlv
set_option maxHeartbeats 4000000 in
theorem law_row1 {n : Nat} {f : Nat → Nat} (hn : n = 6 ∨ n = 4) (F : Fg f) {xsE drE totE kdE uE cntE plE kiE car rea tur eqp hea siz eNum eK eTold eWord eSpace eFar eFalls eFound : Ent} {r : List Int} (wr : Wf n r) {Q : Post}
    (hQ : ∀ eK, Ex c ⟨vLaw⟩ [xsE, drE, totE, .dat (.int n), kdE, .dat (.list (iL (figL f))), uE, cntE, plE, kiE, car, rea, tur, eqp, hea, siz, .dat (.list (iL r)), .dat (.int (numI f r)), eK, .dat (.bytes (byteArr (lets ((nats r).map f)))), .dat (.str (tx (wd f r))), eSpace, eFar, eFalls, eFound, .any, .any, .any]
      ((forBody ((bodyOf Pr2 11)[14]?)).drop 5) Q) :
    Ex c ⟨vLaw⟩ [xsE, drE, totE, .dat (.int n), kdE, .dat (.list (iL (figL f))), uE, cntE, plE, kiE, car, rea, tur, eqp, hea, siz, .dat (.list (iL r)), eNum, eK, eTold, eWord, eSpace, eFar, eFalls, eFound, .any, .any, .any]
      (forBody ((bodyOf Pr2 11)[14]?)) Q := by
  have B := bs2 T
  have hn6 : n ≤ 6 := by omega
  have hr6 : r.length ≤ 6 := by rw [wr.len]; exact hn6
  have hnum : numN f (nats r) < 2 ^ 24 := by
    have := num_lt F wr.nats
    rw [wr.nlen] at this
    exact Nat.lt_of_lt_of_le this (Nat.pow_le_pow_right (by decide) hn6)
  have hd16 : ∀ d ∈ (nats r).map f, d < 16 := fun d hd => by
    obtain ⟨k, hk, rfl⟩ := List.mem_map.mp hd
    have := F.pos (wr.nats k hk); omega
  refine Ex.cons (Ex1.assign Es.int (Asg.name (by trivial)) ?_)
  refine Ex.cons (Ex1.forE (d := .list (iL r)) (ds := r.map D.int) (Es.name (by trivial)) (itr_list (by show (r.map D.int).length ≤ _; rw [List.length_map]; unfold sizeLine; omega)) (Lp.gen D.int (fun rest ρ => ∃ (pre : List Int) (e : Ent), pre ++ rest = r ∧ ρ = [xsE, drE, totE, .dat (.int n), kdE, .dat (.list (iL (figL f))), uE, cntE, plE, kiE, car, rea, tur, eqp, hea, siz, .dat (.list (iL r)), .dat (.int (numI f pre)), e, eTold, eWord, eSpace, eFar, eFalls, eFound, .any, .any, .any]) _ _ ⟨[], _, rfl, rfl⟩ (fun k rest ρ h => ?_) fun ρ h => ?_))
  · obtain ⟨pre, e, hp, rfl⟩ := h
    have hk : 0 ≤ k ∧ k < 3 := wr.sm k (by rw [← hp]; simp)
    refine ⟨_, Asg.name (by trivial), ?_⟩
    refine Ex.cons (Ex1.assign (Es.bin (Es.bin Es.int.w (Es.name (by trivial)).w (bin_mul (.inl (by decide)))).w (Es.sub (Es.name (by trivial)).w (Es.name (by trivial)).w (itm_list (j := k.toNat) (by omega) (by omega) (figs_at hk))).w bin_add) (Asg.name (by trivial)) ?_)
    rw [← numI_snoc]
    exact Ex.nil ⟨pre ++ [k], .dat (.int k), by rw [← hp]; simp, rfl⟩
  · obtain ⟨pre, eK, hp, rfl⟩ := h
    rw [List.append_nil] at hp
    subst hp
    obtain ⟨o1, fd1, ho1, hfd1, _⟩ := (at_ap (G := c.G) T.X).ex
    refine Ex.cons (Ex1.assign (Es.callF (ds := [.int (if ((numI f pre).fmod 2 == 1) = true then -numI f pre else numI f pre)]) (T.ref (by kernel_rfl)) (kd hsc (by kernel_rfl)) ho1 hfd1 (by omega) (.one ((Es.ife (Tr.cmp (Es.bin (Es.name (by trivial)).w Es.int.w (bin_fmod (by decide))).w Es.int.w cmp_eq) (fun _ => Es.una (Es.name (by trivial)).w una_neg) (fun _ => Es.name (by trivial))).cast ?_)) (c_ap T (n := if ((numI f pre).fmod 2 == 1) = true then -numI f pre else numI f pre) ?_)) (Asg.name (by trivial)) ?_)
    · cases ((numI f pre).fmod 2 == 1) <;> rfl
    · unfold numI; split <;> omega
    have e1 : (if ((numI f pre).fmod 2 == 1) = true then -numI f pre else numI f pre).natAbs = numN f (nats pre) := by unfold numI; split <;> omega
    rw [e1, digs_num F wr.nats]
    refine Ex.cons (Ex1.ife (Tr.cmp (Es.name (by trivial)).w (Es.ty (i := "bytes") (ds := [.list (iL (lets ((nats pre).map f)))]) B (kd hsc (by kernel_rfl)) (by decide +kernel) (.one ((El.comp (tv := ["k"]) (fv := ["figures"]) (caps := [.dat (.list (iL (figL f)))]) (d := .list (iL pre)) (ds := pre.map D.int) (by decide +kernel) (.cons (by trivial) (kd hsc (by kernel_rfl)) .dat .nil) (Es.name (by trivial)).w (itr_list (by show (pre.map D.int).length ≤ _; rw [List.length_map]; unfold sizeLine; omega))
      (fun c' hI => runs1 (CL1.all (fv := ["figures"]) (caps := [.dat (.list (iL (figL f)))]) pre D.int (fun k => .int (65 + ((f k.toNat : Nat) : Int))) rfl (fun k hk => Es.bin Es.int.w (Es.sub (Es.name (At.there .here)).w (Es.name At.here).w (itm_list (j := k.toNat) (by have := wr.sm k hk; omega) (by have := wr.sm k hk; omega) (figs_at (wr.sm k hk)))).w bin_add)) (by rw [List.length_map]; unfold sizeLine; omega))).s.w.cast ?_)) (cal_bytes ?_ ?_)).w cmp_bne) (fun hb => ?_) (fun _ => Ex.nil ?_))
    · rw [lets_row, iL, List.map_map]; rfl
    · intro a ha
      rw [lets_row] at ha
      obtain ⟨k, hk, rfl⟩ := List.mem_map.mp ha
      have := F.pos (i := k.toNat) (by have := wr.sm k hk; omega)
      omega
    · rw [lets_row, List.length_map]; unfold sizeLine; omega
    · exfalso
      have : (byteArr (lets ((nats pre).map f))).toList = (byteArr (lets ((nats pre).map f))).toList := rfl
      simp at hb
    have eB := bInts_byteArr _ hd16
    have e0 : (Str.ofString "") = tx [] := by kernel_rfl
    refine Ex.cons (Ex1.assign ((Es.smeth (ds := [.list (sL ((wd f pre).map fun a => (⟨#[a]⟩ : Str)))]) (Es.str.cast (d' := .str (tx [])) (by rw [← e0])).w PySem.F.slot_str_join PySem.F.type_str_join (.one ((El.comp (tv := ["octet"]) (fv := []) (caps := []) (ds := (lets ((nats pre).map f)).map D.int) (by decide +kernel) .nil (Es.name (by trivial)).w ?_
      (fun c' hI => runs1 (CL1.all (fv := []) (caps := []) (lets ((nats pre).map f)) D.int (fun a => .str ⟨#[a.toNat]⟩) rfl (fun a ha => ?_)) ?_)).s.w.cast ?_)) (cal_join ?_)).cast (d' := .str (tx (wd f pre))) ?_) (Asg.name (by trivial)) ?_)
    · have := itr_bytes (b := byteArr (lets ((nats pre).map f))) (by rw [byteArr_size, lets_row, List.length_map]; unfold sizeLine; omega)
      rw [eB] at this; exact this
    · rw [lets_row] at ha
      obtain ⟨k, hk, rfl⟩ := List.mem_map.mp ha
      have := F.pos (i := k.toNat) (by have := wr.sm k hk; omega)
      exact Es.bi (i := "chr") (hI.G ▸ B) (kd hI.sc (by kernel_rfl)) (by decide +kernel) (.one (Es.name At.here).w) (cal_chr (by omega) (by omega))
    · rw [List.length_map, lets_row, List.length_map]; unfold sizeLine; omega
    · rw [← lets_wd, sL, List.map_map, List.map_map]; rfl
    · rw [List.map_map, List.length_map]
      have h1 : ((wd f pre).map ((·.length) ∘ fun a => (⟨#[a]⟩ : Str))).sum = (wd f pre).length := by
        generalize wd f pre = l
        induction l with
        | nil => rfl
        | cons a l ih => rw [List.map_cons, List.sum_cons, ih, List.length_cons]; show 1 + _ = _; omega
      rw [h1, tx_len]
      have : (wd f pre).length ≤ 6 := by rw [wd, List.length_map, wr.nlen]; exact hn6
      simp; omega
    · rw [join_chars]
    exact hQ eK
end
end Mine

namespace Mine
open PySem PySem.Calls PyProof.Rows PySem.SeqAt PySem.W
local macro_rules | `(tactic| trivial) => `(tactic| first | with_reducible exact At.here | with_reducible exact Put.here | (with_reducible apply At.there; trivial) | (with_reducible apply Put.there; trivial))

theorem numI_fdiv (f : Nat → Nat) (r : List Int) : 0 ≤ (numI f r).fmod 16 ∧ (numI f r).fmod 16 < 16 := mod_bd _ (by decide)
theorem falls_len (n : Nat) (r : List Int) : fallsOf n r = (((((List.range n).filter fun p => decide (r.getD p 0 < r.getD (if p = 0 then n - 1 else p - 1) 0)).map fun _ => D.int 1).length : Nat) : Int) := by
  unfold fallsOf; rw [List.length_map]
theorem pow_bits (k : Int) (h : 0 ≤ k) (h' : k ≤ 100) : ((Builtin.Int.intBits 16 : Nat) : Int) * k ≤ 2 ^ 27 := by
  have : Builtin.Int.intBits 16 = 5 := by decide +kernel
  rw [this]; omega
theorem itr_upfrom {i : Int} {n : Nat} (hi : i = (n : Int) + 1) (hn : n ≤ 10000) : Itr (.rng 1 i) ((List.range' 1 n).map fun k : Nat => .int (k : Int)) := by
  have := itr_rng (a := 1) (b := i) (n := n) (by omega) (by omega) (by omega) (by omega) (by omega) (by unfold sizeLine; omega)
  have e := upTo_nat n 1
  rw [show ((1 : Nat) : Int) = 1 from rfl] at e
  rw [e, iL, List.map_map] at this
  exact this
theorem rep_iL (p : Nat) (l : List Int) : rep p (iL l) = iL (rep p l) := by
  unfold rep iL
  induction p with
  | zero => rfl
  | succ p ih => rw [List.replicate_succ, List.flatten_cons, ih, List.replicate_succ, List.flatten_cons, List.map_append]
theorem TrAnd.last {c : Cx} {Γ : Sig} {ρ : List Ent} {e : Expr} {b : Bool} (h : Tr c Γ ρ e b) : TrAnd c Γ ρ .And [e] b := by
  have := TrAnd.and (b' := true) h fun _ => TrAnd.nil (op := .And)
  rwa [Bool.and_true] at this
section
variable {c : Cx} {P : Params} (T : Tp c.G (K2 P)) (hsc : c.env.scope = scopeOf Pr2 11) (hlv : 2 ≤ c.lv)
include T hsc hlv
set_option maxHeartbeats 4000000 in
theorem law_row2 {n : Nat} {f : Nat → Nat} (hn : n = 6 ∨ n = 4) (F : Fg f) {xsE drE totE kdE uE cntE plE kiE hea siz eK eTold eSpace eFar eFalls eFound : Ent} {rows done : List (List Int)} (hdone : done.length < 1000) {r : List Int} (wr : Wf n r) (hrow : rowOk n rows r = true) {Q : Post}
    (hQ : ∀ eSpace eFar eFalls, Ex c ⟨vLaw⟩ [xsE, drE, totE, .dat (.int n), kdE, .dat (.list (iL (figL f))), uE, cntE, plE, kiE, .mlist (iL ((done ++ [r]).map (farOf n))), .mdict (rowsD n f (done ++ [r])), .mlist ((done ++ [r]).map (turnD n f)), .mlist (iL ((done ++ [r]).map (epOf n))), hea, siz, .dat (.list (iL r)), .dat (.int (numI f r)), eK, eTold, .dat (.str (tx (wd f r))), eSpace, eFar, eFalls, eFound, .any, .any, .any]
      ((forBody ((bodyOf Pr2 11)[14]?)).drop 12) Q) :
    Ex c ⟨vLaw⟩ [xsE, drE, totE, .dat (.int n), kdE, .dat (.list (iL (figL f))), uE, cntE, plE, kiE, .mlist (iL (done.map (farOf n))), .mdict (rowsD n f done), .mlist (done.map (turnD n f)), .mlist (iL (done.map (epOf n))), hea, siz, .dat (.list (iL r)), .dat (.int (numI f r)), eK, eTold, .dat (.str (tx (wd f r))), eSpace, eFar, eFalls, eFound, .any, .any, .any]
      ((forBody ((bodyOf Pr2 11)[14]?)).drop 5) Q := by
  have B := bs2 T
  have Y := cls_ws T.X
  have hn6 : n ≤ 6 := by omega
  have hn1 : 1 ≤ n := by omega
  have hr6 : r.length ≤ 6 := by rw [wr.len]; exact hn6
  have hw6 : (wd f r).length ≤ 6 := by rw [wd, List.length_map, wr.nlen]; exact hn6
  have e120 : Str.ofString "x \t" = tx [120, 32, 9] := by kernel_rfl
  have elead : leadL (wd f r) = leadL (nats r) := lead_wd F wr
  have hlead : (leadL (nats r)).length ≤ 37 := lead_len (M := 6) (by rw [wr.nlen]; exact hn6)
  obtain ⟨o1, fd1, ho1, hfd1, _⟩ := (at_lead (G := c.G) T.X).ex
  have hscan : (scanOf (nats r)).1.length ≤ 2000 := scan_len _ _ _ _ _ _ (by simp) (by simp; omega)
  refine Ex.cons (Ex1.assign (Es.make Y (ds := [.str (tx (leadL (nats r) ++ [120, 32, 9]))]) (lv := 1) (look_ws T) (kd hsc (by kernel_rfl)) (by kernel_rfl) (by kernel_rfl) (by omega) (.one ((Es.bin (Es.callF (d := .str (tx (leadL (wd f r)))) (T.ref (by kernel_rfl)) (kd hsc (by kernel_rfl)) ho1 hfd1 (by omega) (.one (Es.name (by trivial))) (c_lead T (by omega))).w Es.str.w (bin_adds ?_)).cast ?_)) (c_init T (by simp; omega))) (Asg.name (by trivial)) ?_)
  · rw [elead, e120, tx_len, tx_len]; show _ + 3 ≤ _; unfold sizeLine; omega
  · rw [elead, e120, tx_app]
  rw [show scan (leadL (nats r) ++ [120, 32, 9]) [] 0 0 0 = scanOf (nats r) from rfl]
  refine Ex.cons (Ex1.assign (Es.bin (Es.meth Y (d := .int (indent n (scanOf (nats r)))) (lv := 1) (Es.name (by trivial)) (by kernel_rfl) (by kernel_rfl) (by kernel_rfl) (by kernel_rfl) (by omega) (.one (Es.name (by trivial))) (c_il T hn1 (by omega) hscan)).w (Es.bin (Es.attr (d := .int (scanOf (nats r)).2.2.1) Y (Es.name (by trivial)) (by kernel_rfl) (by kernel_rfl)).w (Es.attr (d := .int (scanOf (nats r)).2.2.2) Y (Es.name (by trivial)) (by kernel_rfl) (by kernel_rfl)).w bin_sub).w bin_sub) (Asg.name (by trivial)) ?_)
  rw [show indent n (scanOf (nats r)) - (((scanOf (nats r)).2.2.1 : Int) - ((scanOf (nats r)).2.2.2 : Int)) = farOf n r from rfl]
  refine Ex.cons (Ex1.append (by trivial) (Es.name (by trivial)) (by trivial) (by rw [iL_length, List.length_map]; unfold sizeLine; omega) ?_)
  refine Ex.cons (Ex1.dictSet (by trivial) (Es.name (by trivial)) (Es.name (by trivial)).w (by rw [rowsD, List.length_map, List.length_reverse]; unfold sizeLine; omega) (by trivial) ?_)
  refine Ex.cons (Ex1.assign ((Es.bi (i := "len") (ds := [.list (((List.range n).filter fun p => decide (r.getD p 0 < r.getD (if p = 0 then n - 1 else p - 1) 0)).map fun _ => D.int 1)]) B (kd hsc (by kernel_rfl)) (by decide +kernel) (.one (El.comp (tv := ["place"]) (fv := ["row"]) (caps := [.dat (.list (iL r))]) (d := .rng 0 n) (ds := (List.range n).map fun k : Nat => D.int (k : Int)) (by decide +kernel) (.cons (by trivial) (kd hsc (by kernel_rfl)) .dat .nil)
    (Es.ty (i := "range") B (kd hsc (by kernel_rfl)) (by decide +kernel) (.one (Es.name (by trivial)).w) cal_rng).w (itr_upto rfl (by omega))
    (fun c' hI => runs1 (CL1.one (fv := ["row"]) (caps := [.dat (.list (iL r))]) (List.range n) (fun k : Nat => D.int (k : Int)) (fun p => decide (r.getD p 0 < r.getD (if p = 0 then n - 1 else p - 1) 0)) (fun _ => D.int 1) rfl (fun p hp => ?_) (fun _ _ _ => Es.int)) ?_)).s.w) (cal_len ?_)).cast (d' := .int (fallsOf n r)) ?_) (Asg.name (by trivial)) ?_)
  · have hp' := List.mem_range.mp hp
    have hl : r.length = n := wr.len
    refine Ts.one ((Tr.cmp (Es.sub (d := .int (r.getD (if p = 0 then n - 1 else p - 1) 0)) (Es.name (At.there .here)).w (Es.bin (Es.name At.here).w Es.int.w bin_sub).w ?_).w (Es.sub (Es.name (At.there .here)).w (Es.name At.here).w (itm_list rfl (by omega) (iL_get (getD_at (by omega))))).w cmp_gt))
    by_cases h0 : p = 0
    · rw [if_pos h0]
      refine itm_list_neg (by omega) (by rw [iL_length]; omega) (by omega) (iL_get ?_)
      rw [iL_length, hl, show ((p : Int) - 1 + (n : Int)).toNat = n - 1 by omega]
      exact getD_at (by omega)
    · rw [if_neg h0]
      exact itm_list (j := p - 1) (by omega) (by omega) (iL_get (getD_at (by omega)))
  · rw [List.length_map]
    have := List.length_filter_le (fun p => decide (r.getD p 0 < r.getD (if p = 0 then n - 1 else p - 1) 0)) (List.range n)
    rw [List.length_range] at this
    unfold sizeLine; omega
  · rw [List.length_map]
    have := List.length_filter_le (fun p => decide (r.getD p 0 < r.getD (if p = 0 then n - 1 else p - 1) 0)) (List.range n)
    rw [List.length_range] at this
    omega
  · rw [falls_len]
  have hm := numI_fdiv f r
  have hp16 : (16 : Int) ^ ((n : Int) - 1).toNat = 16 ^ (n - 1) := by congr 1; omega
  refine Ex.cons (Ex1.append (by trivial) (Es.t2 (Es.bin (Es.bin (Es.name (by trivial)).w Es.int.w (bin_fdiv (by decide) (by decide))).w (Es.bin (Es.bin (Es.name (by trivial)).w Es.int.w (bin_fmod (by decide))).w (Es.bin Es.int.w (Es.bin (Es.name (by trivial)).w Es.int.w bin_sub).w (bin_pow (by omega) (pow_bits _ (by omega) (by omega)))).w (bin_mul (.inl (by omega)))).w bin_add) (Es.bin (Es.name (by trivial)).w (Es.name (by trivial)).w bin_sub)) (by trivial) (by rw [List.length_map]; unfold sizeLine; omega) ?_)
  rw [hp16]
  simp only [rowOk, Bool.and_eq_true, beq_iff_eq, List.all_eq_true, decide_eq_true_eq] at hrow
  obtain ⟨⟨⟨⟨⟨h1, h2⟩, h3⟩, h4⟩, h5⟩, h6⟩ := hrow
  have hl : r.length = n := wr.len
  refine Ex.cons (Ex1.append (d := .int (epOf n r)) (by trivial) (Es.bi (i := "max") (ds := [.list (iL (partsOf n r))]) B (kd hsc (by kernel_rfl)) (by decide +kernel) (.one ((El.comp (tv := ["part"]) (fv := ["places", "row"]) (caps := [.dat (.int n), .dat (.list (iL r))]) (d := .rng 1 ((n : Int) + 1)) (ds := (List.range' 1 n).map fun k : Nat => D.int (k : Int)) (by decide +kernel) (.cons (by trivial) (kd hsc (by kernel_rfl)) .dat (.cons (by trivial) (kd hsc (by kernel_rfl)) .dat .nil))
    (Es.ty (i := "range") B (kd hsc (by kernel_rfl)) (by decide +kernel) (.two Es.int.w (Es.bin (Es.name (by trivial)).w Es.int.w bin_add).w) cal_rng2).w (itr_upfrom rfl (by omega))
    (fun c' hI => runs1 (CL1.one (fv := ["places", "row"]) (caps := [.dat (.int n), .dat (.list (iL r))]) (List.range' 1 n) (fun k : Nat => D.int (k : Int)) (fun p => n % p == 0 && r == rep p (r.take (n / p))) (fun k : Nat => D.int (k : Int)) rfl (fun p hp => ?_) (fun p hp _ => Es.name At.here)) ?_)).s.w.cast ?_)) (cal_max ?_ ?_)) (by trivial) ?_ ?_)
  · have hp' : 1 ≤ p ∧ p ≤ n := by simp [List.mem_range'] at hp; omega
    have e1 : (n : Int).fmod p = ((n % p : Nat) : Int) := by rw [Int.fmod_eq_emod_of_nonneg _ (by omega)]; rfl
    have e2 : (n : Int).fdiv p = ((n / p : Nat) : Int) := by rw [Int.fdiv_eq_ediv_of_nonneg _ (by omega)]; rfl
    have hd : n / p ≤ n := Nat.div_le_self _ _
    have hlr : (iL r).length = n := by rw [iL_length, hl]
    refine Ts.one ((Tr.bool (TrAnd.and (b := n % p == 0) (b' := r == rep p (r.take (n / p))) ((Tr.cmp (Es.bin (Es.name (At.there .here)).w (Es.name At.here).w (bin_fmod (by omega))).w Es.int.w cmp_eq).cast ?_) (fun _ => ?_))))
    · rw [e1, Bool.eq_iff_iff, beq_iff_eq, beq_iff_eq]; omega
    · refine TrAnd.last (Tr.cmp (Es.name (At.there (.there .here))).w ((El.mul (n := p) ((El.slice (Es.name (At.there (.there .here))).w Pt.none (Pt.some (Es.bin (Es.name (At.there .here)).w (Es.name At.here).w (bin_fdiv (by omega) (by omega))).w) (by rw [hlr]; unfold sizeLine; omega)).cast (by rw [e2, slc_take _ rfl (by omega)])) (Es.name At.here).w (by omega) (by omega) (by omega) ?_).cast (by rw [iL_take, rep_iL]; rfl)).s.w (cmp_leq eqf_int))
      rw [List.length_take, hlr]
      have : min (n / p) n * p ≤ 6 * 6 := Nat.mul_le_mul (by omega) (by omega)
      omega
  · rw [List.length_map]
    have := List.length_filter_le (fun p => n % p == 0 && r == rep p (r.take (n / p))) (List.range' 1 n)
    rw [List.length_range'] at this
    unfold sizeLine; omega
  · unfold partsOf iL; rw [List.map_map]; rfl
  · exact List.contains_iff_mem.mp h3
  · exact fun a ha => h4 a ha
  · rw [iL_length, List.length_map]; unfold sizeLine; omega
  have := hQ (.dat (.obj (C2 P) (wsFs (leadL (nats r) ++ [120, 32, 9]) (scanOf (nats r))))) (.dat (.int (farOf n r))) (.dat (.int (fallsOf n r)))
  rw [← rowsD_snoc, List.map_append, List.map_append, List.map_append, iL_app, iL_app] at this
  exact this
end
end Mine

namespace Mine
open PySem PySem.Calls PyProof.Rows PySem.SeqAt PySem.W
local macro_rules | `(tactic| trivial) => `(tactic| first | with_reducible exact At.here | with_reducible exact Put.here | (with_reducible apply At.there; trivial) | (with_reducible apply Put.there; trivial))

theorem wd_ne46 {f : Nat → Nat} {r : List Int} : ∀ m ∈ [wd f r], ∀ x ∈ m, x ≠ 46 := by
  intro m hm x hx
  rw [List.mem_singleton.mp hm] at hx
  obtain ⟨k, _, rfl⟩ := List.mem_map.mp hx
  omega
theorem cmp_ieq {xs ys : List Int} : Cmp .Eq (.list (iL xs)) (.list (iL ys)) (xs == ys) := cmp_leq eqf_int
theorem cmp_ine {xs ys : List Int} : Cmp .NotEq (.list (iL xs)) (.list (iL ys)) (xs != ys) := cmp_lne eqf_int
theorem twice_tx (l : List Nat) : (⟨(rep 2 (tx l).cps.toList).toArray⟩ : Str) = tx (l ++ l) := by
  rw [tx_list, rep_succ, rep_one]; rfl
section
variable {c : Cx} {P : Params} (T : Tp c.G (K2 P)) (hsc : c.env.scope = scopeOf Pr2 11) (hlv : 2 ≤ c.lv)
include T hsc hlv
set_option maxHeartbeats 4000000 in
theorem law_row3 {n : Nat} {f : Nat → Nat} (hn : n = 6 ∨ n = 4) (F : Fg f) {xsE drE totE nE kdE fgE uE cntE plE kiE car rea tur eqp roE nuE eK eTold eSpace eFar eFalls eFound : Ent} {r : List Int} (wr : Wf n r) {st st' : HS} (hst : headStep st r = some st') (hlen : st.1.length = st.2.length) (hwf : ∀ h ∈ st.1, Wf n h) (hz : st.1.length < 1000) {Q : Post}
    (hQ : ∀ eFound, Q .next [xsE, drE, totE, nE, kdE, fgE, uE, cntE, plE, kiE, car, rea, tur, eqp, .mlist (st'.1.map (headD f)), .mlist (iL st'.2), roE, nuE, eK, eTold, .dat (.str (tx (wd f r))), eSpace, eFar, eFalls, eFound, .any, .any, .any]) :
    Ex c ⟨vLaw⟩ [xsE, drE, totE, nE, kdE, fgE, uE, cntE, plE, kiE, car, rea, tur, eqp, .mlist (st.1.map (headD f)), .mlist (iL st.2), roE, nuE, eK, eTold, .dat (.str (tx (wd f r))), eSpace, eFar, eFalls, eFound, .any, .any, .any]
      ((forBody ((bodyOf Pr2 11)[14]?)).drop 12) Q := by
  have B := bs2 T
  have hn6 : n ≤ 6 := by omega
  have hw6 : (wd f r).length ≤ 6 := by rw [wd, List.length_map, wr.nlen]; exact hn6
  have edots : Str.ofString "..." = tx dots := dots_lit
  have hm : ((st.1.map (headD f)).length : Int) = (st.1.length : Nat) := by rw [List.length_map]
  refine Ex.cons (Ex1.comp (tv := ["k"]) (fv := ["heads", "word"]) (caps := [.blist (st.1.map (headD f)), .dat (.str (tx (wd f r)))]) (d := .rng 0 ((st.1.map (headD f)).length)) (ds := (List.range st.1.length).map fun k : Nat => D.int (k : Int)) (by decide +kernel) (.cons (by trivial) (kd hsc (by kernel_rfl)) .mlist (.cons (by trivial) (kd hsc (by kernel_rfl)) .dat .nil))
    (Es.ty (i := "range") B (kd hsc (by kernel_rfl)) (by decide +kernel) (.one (Es.bi (i := "len") B (kd hsc (by kernel_rfl)) (by decide +kernel) (.one (Ev.mname (by trivial))) (cal_len (by rw [List.length_map]; omega))).w) cal_rng).w (by rw [hm]; exact itr_upto rfl (by omega))
    (fun c' hI => runs1 (CL1.one (fv := ["heads", "word"]) (caps := [.blist (st.1.map (headD f)), .dat (.str (tx (wd f r)))]) (List.range st.1.length) (fun k : Nat => D.int (k : Int)) (fun k => mR r (st.1.getD k [])) (fun k : Nat => D.int (k : Int)) rfl (fun k hk => ?_) (fun _ _ _ => Es.name At.here)) ?_) (by trivial) ?_ ((sww_env hsc).trans (by kernel_rfl)))
  · have hk' := List.mem_range.mp hk
    have T' : Tp c'.G (K2 P) := hI.G ▸ T
    have hh : st.1[k]? = some (st.1.getD k []) := by rw [List.getD, List.getElem?_eq_getElem hk']; rfl
    have wh : Wf n (st.1.getD k []) := hwf _ (List.mem_of_getElem? hh)
    have hh6 : (wd f (st.1.getD k [])).length ≤ 6 := by rw [wd, List.length_map, wh.nlen]; exact hn6
    obtain ⟨o1, fd1, ho1, hfd1, _⟩ := (at_em (G := c'.G) T'.X).ex
    have i1 : Itm (.list (st.1.map (headD f))) (.int (k : Nat)) (.str (tx (wd f (st.1.getD k [])))) := itm_list rfl (by omega) (by rw [List.getElem?_map, hh]; rfl)
    refine Ts.one ((Tr.val (Es.callF (ds := [.str (tx (tailOf [wd f r])), .str (tx (wd f (st.1.getD k []) ++ wd f (st.1.getD k [])))]) (T'.ref (by kernel_rfl)) (kd hI.sc (by kernel_rfl)) ho1 hfd1 (by rw [hI.lv]; omega) (.cons ((Es.bin (Es.bin Es.str.w (Es.name (At.there (.there .here))).w (bin_adds ?_)).w Es.str.w (bin_adds ?_)).cast ?_) (.one ((Es.bin (Es.sub (Ev.bname (At.there .here)) (Es.name At.here).w i1).w Es.int.w (bin_smul (n := 2) rfl (by decide) (by decide) ?_ ?_)).cast ?_))) (c_em T' [wd f r] _ wd_ne46 ?_ (by show 0 < 1; decide) ?_ (by show 1 ≤ 1000; decide))).w tru_bool).cast ?_)
    · rw [edots, tx_len, tx_len]; show 3 + _ ≤ _; unfold sizeLine; omega
    · rw [edots, tx_app, tx_len, tx_len, List.length_append]; show 3 + _ + 3 ≤ _; unfold sizeLine; omega
    · rw [edots, tx_app, tx_app]; simp [tailOf]
    · rw [tx_len]; omega
    · rw [tx_len]; omega
    · rw [twice_tx]
    · simp [tailOf, dots]; omega
    · rw [List.length_append]; omega
    · exact mR_wd F wr wh
  · rw [List.length_map]
    have := List.length_filter_le (fun k => mR r (st.1.getD k [])) (List.range st.1.length)
    rw [List.length_range] at this
    unfold sizeLine; omega
  have ef : ((List.range st.1.length).filter fun k => mR r (st.1.getD k [])).map (fun k : Nat => D.int (k : Int)) = iL ((found r st).map fun k : Nat => (k : Int)) := by
    unfold iL found; rw [List.map_map]; rfl
  rw [ef]
  have hfl : (found r st).length ≤ 1 := by
    unfold headStep at hst
    split at hst
    · rename_i h; rw [h]; decide
    · rename_i k h; rw [h]; exact Nat.le_refl 1
    · cases hst
  refine Ex.cons (Ex1.ife (Tr.cmp (Es.bi (i := "len") B (kd hsc (by kernel_rfl)) (by decide +kernel) (.one (Es.name (by trivial)).w) (cal_len (by rw [iL_length, List.length_map]; omega))).w Es.int.w cmp_gt) (fun hb => ?_) (fun _ => Ex.nil ?_))
  · exfalso
    have := of_decide_eq_true hb
    rw [iL_length, List.length_map] at this
    omega
  refine Ex.cons (Ex1.ife (Tr.cmp (Es.name (by trivial)).w (El.l0.s.cast (d' := .list (iL [])) rfl).w cmp_ieq) (fun hb => ?_) (fun hb => ?_))
  · have h0 : found r st = [] := by
      have := eq_of_beq hb
      simpa using this
    unfold headStep at hst
    rw [h0] at hst
    cases hst
    refine Ex.cons (Ex1.append (by trivial) (Es.name (by trivial)) (by trivial) (by rw [List.length_map]; unfold sizeLine; omega) ?_)
    refine Ex.cons (Ex1.append (by trivial) Es.int (by trivial) (by rw [iL_length]; unfold sizeLine; omega) ?_)
    have := hQ (.dat (.list (iL ((found r st).map fun k : Nat => (k : Int)))))
    rw [List.map_append, iL_app] at this
    exact Ex.nil (Ex.nil this)
  · have h1 : ∃ k, found r st = [k] := by
      cases hfo : found r st with
      | nil => rw [hfo] at hb; cases hb
      | cons k l => cases l with
        | nil => exact ⟨k, rfl⟩
        | cons _ _ => rw [hfo] at hfl; simp at hfl
    obtain ⟨k, hk⟩ := h1
    have hkl : k < st.1.length := by
      have : k ∈ found r st := by rw [hk]; exact .head _
      exact List.mem_range.mp (List.mem_filter.mp this).1
    unfold headStep at hst
    rw [hk] at hst
    cases hst
    rw [hk]
    refine Ex.cons (Ex1.augItem (i := k) (j := k) (d₁ := .int (st.2.getD k 0)) (by trivial) (Es.sub (Es.name (by trivial)).w Es.int.w (itm_list (j := 0) rfl (by decide) rfl)).w rfl (iL_get (getD_at (by omega))) (by rw [iL_length]; omega) Es.int.w inp_add (by trivial) ?_)
    have := hQ (.dat (.list (iL ([k].map fun k : Nat => (k : Int)))))
    rw [← iL_set] at this
    exact Ex.nil (Ex.nil this)
end
end Mine

namespace Mine
open PySem PySem.Calls PyProof.Rows PySem.SeqAt PySem.W
local macro_rules | `(tactic| trivial) => `(tactic| first | with_reducible exact At.here | with_reducible exact Put.here | (with_reducible apply At.there; trivial) | (with_reducible apply Put.there; trivial))

theorem headStep_keeps {st st' : HS} {r : List Int} (h : headStep st r = some st') (hl : st.1.length = st.2.length) : st'.1.length = st'.2.length ∧ (∀ x ∈ st'.1, x ∈ st.1 ∨ x = r) ∧ st'.1.length ≤ st.1.length + 1 := by
  unfold headStep at h
  split at h
  · cases h
    refine ⟨by simp [hl], fun x hx => ?_, by simp⟩
    rcases List.mem_append.mp hx with hx | hx
    · exact .inl hx
    · exact .inr (List.mem_singleton.mp hx)
  · cases h
    exact ⟨by simp [hl], fun x hx => .inl hx, by simp⟩
  · cases h
theorem lookup_num {f : Nat → Nat} (F : Fg f) {n : Nat} (g : List Int → D) {q : List Int} (wq : Wf n q) : ∀ {l : List (List Int)}, (∀ r ∈ l, Wf n r) → q ∈ l → (l.map fun r => (numI f r, g r)).lookup (numI f q) = some (g q)
  | r :: l, hw, hq => by
    rw [List.map_cons, List.lookup_cons]
    by_cases e : numI f q = numI f r
    · have e2 : numN f (nats q) = numN f (nats r) := by unfold numI at e; omega
      have wr := hw r (.head _)
      have := nats_inj wq wr (num_inj F wq.nats wr.nats e2)
      subst this
      rw [beq_self_eq_true]
    · rw [beq_false_of_ne e]
      rcases List.mem_cons.mp hq with rfl | hq
      · exact absurd rfl e
      · exact lookup_num F g wq (fun x hx => hw x (.tail _ hx)) hq
theorem rowOk_wf {n : Nat} {rows : List (List Int)} {r : List Int} (h : rowOk n rows r = true) : Wf n r := by
  simp only [rowOk, Bool.and_eq_true, beq_iff_eq, List.all_eq_true, decide_eq_true_eq] at h
  exact ⟨h.1.1.1.1.1, h.1.1.1.1.2⟩
theorem rowOk_ep {n : Nat} {rows : List (List Int)} {r : List Int} (h : rowOk n rows r = true) : epOf n r ≠ 0 := by
  simp only [rowOk, Bool.and_eq_true, beq_iff_eq, List.all_eq_true, decide_eq_true_eq] at h
  have h3 := List.contains_iff_mem.mp h.1.1.1.2
  obtain ⟨k, hk, e⟩ := List.mem_map.mp h3
  have := (List.mem_filter.mp hk).1
  simp [List.mem_range'] at this
  omega
theorem rowOk_rot {n : Nat} {rows : List (List Int)} {r : List Int} (h : rowOk n rows r = true) : rot r ∈ rows ∧ (farOf n (rot r) - (farOf n r - fallsOf n r)).fmod n = 0 := by
  simp only [rowOk, Bool.and_eq_true, beq_iff_eq, List.all_eq_true, decide_eq_true_eq] at h
  exact ⟨List.contains_iff_mem.mp h.1.2, h.2⟩
theorem turn_rot {f : Nat → Nat} (F : Fg f) {n : Nat} (hn : 1 ≤ n) {r : List Int} (w : Wf n r) : turnD n f r = .tup [.int (numI f (rot r)), .int (farOf n r - fallsOf n r)] := by
  obtain ⟨m, rfl⟩ : ∃ m, n = m + 1 := ⟨n - 1, by omega⟩
  unfold turnD
  have := num_rot F w
  have e : (numI f r).fdiv 16 + (numI f r).fmod 16 * 16 ^ m = numI f (rot r) := by
    unfold numI
    rw [Int.fdiv_eq_ediv_of_nonneg _ (by omega), Int.fmod_eq_emod_of_nonneg _ (by omega), ← this]
    push_cast; rfl
  rw [show m + 1 - 1 = m from rfl, e]
section
variable {c : Cx} {P : Params} (T : Tp c.G (K2 P)) (hsc : c.env.scope = scopeOf Pr2 11) (hlv : 2 ≤ c.lv)
include T hsc hlv
set_option maxHeartbeats 4000000 in
theorem law_end {n : Nat} {f : Nat → Nat} (hn : n = 6 ∨ n = 4) (F : Fg f) {xsE drE totE kdE fgE uE cntE plE kiE hea roE nuE eK eTold eWord eSpace eFar eFalls eFound : Ent} {rows : List (List Int)} {sizes : List Int} (hall : ∀ r ∈ rows, rowOk n rows r = true) (hz : rows.length ≤ 1000) (hsz : sizes.length ≤ 1000) (hcol : ∀ k ∈ List.range' 1 n, colOk n rows sizes (k : Nat) = true) :
    Ex c ⟨vLaw⟩ [xsE, drE, totE, .dat (.int n), kdE, fgE, uE, cntE, plE, kiE, .mlist (iL (rows.map (farOf n))), .mdict (rowsD n f rows), .mlist (rows.map (turnD n f)), .mlist (iL (rows.map (epOf n))), hea, .mlist (iL sizes), roE, nuE, eK, eTold, eWord, eSpace, eFar, eFalls, eFound, .any, .any, .any]
      ((bodyOf Pr2 11).drop 15) (fnPost (.bool true)) := by
  have B := bs2 T
  have hn1 : 1 ≤ n := by omega
  have wf : ∀ r ∈ rows, Wf n r := fun r hr => rowOk_wf (hall r hr)
  have et : rows.map (turnD n f) = rows.map fun r => .tup [.int (numI f (rot r)), .int (farOf n r - fallsOf n r)] := List.map_congr_left fun r hr => turn_rot F hn1 (wf r hr)
  rw [et]
  refine Ex.cons (Ex1.ife ((Tr.cmp ((El.comp (tv := ["other", "far"]) (fv := ["places", "reached"]) (caps := [.dat (.int n), .bdict (rowsD n f rows)]) (d := .list (rows.map fun r => .tup [.int (numI f (rot r)), .int (farOf n r - fallsOf n r)])) (by decide +kernel) (.cons (by trivial) (kd hsc (by kernel_rfl)) .dat (.cons (by trivial) (kd hsc (by kernel_rfl)) .mdict .nil)) (Ev.mname (by trivial)) (itr_list (by rw [List.length_map]; unfold sizeLine; omega))
    (fun c' hI => runs1 (CL1.pair (fv := ["places", "reached"]) (caps := [.dat (.int n), .bdict (rowsD n f rows)]) rows (fun r => .int (numI f (rot r))) (fun r => .int (farOf n r - fallsOf n r)) (fun _ => false) (fun _ => .int 1) rfl (fun r hr => ?_) (fun _ _ h => by cases h)) ?_)).s.cast (d' := .list (iL [])) ?_).w (El.l0.s.cast (d' := .list (iL [])) rfl).w cmp_ine).cast (b' := false) rfl) (fun hb => by cases hb) (fun _ => Ex.nil ?_))
  · obtain ⟨h1, h2⟩ := rowOk_rot (hall r hr)
    have hlk : (rowsD n f rows).lookup (numI f (rot r)) = some (.int (farOf n (rot r))) :=
      lookup_num F (fun r => .int (farOf n r)) (wf _ h1) (fun x hx => wf x (List.mem_reverse.mp hx)) (List.mem_reverse.mpr h1)
    exact Ts.one ((Tr.cmp (Es.bin (Es.bin (Es.bget (At.there (.there (.there .here))) (Es.name At.here).w hlk).w (Es.name (At.there .here)).w bin_sub).w (Es.name (At.there (.there .here))).w (bin_fmod (by omega))).w Es.int.w cmp_ne).cast (by rw [h2]; rfl))
  · rw [List.length_map]
    have := List.length_filter_le (fun _ => false) rows
    unfold sizeLine; omega
  · rw [List.filter_eq_nil_iff.mpr (by simp)]; rfl
  refine Ex.cons (Ex1.forE (Es.ty (i := "range") B (kd hsc (by kernel_rfl)) (by decide +kernel) (.two Es.int.w (Es.bin (Es.name (by trivial)).w Es.int.w bin_add).w) cal_rng2) (itr_upfrom rfl (by omega))
    (Lp.gen (fun k : Nat => .int (k : Int)) (fun rest ρ => ∃ e1 e2 e3 : Ent, ρ = [xsE, drE, totE, .dat (.int n), kdE, fgE, uE, cntE, plE, kiE, .mlist (iL (rows.map (farOf n))), .mdict (rowsD n f rows), .mlist (rows.map fun r => .tup [.int (numI f (rot r)), .int (farOf n r - fallsOf n r)]), .mlist (iL (rows.map (epOf n))), hea, .mlist (iL sizes), roE, nuE, eK, eTold, eWord, eSpace, eFar, eFalls, eFound, e1, e2, e3] ∧ ∀ k ∈ rest, k ∈ List.range' 1 n) _ _ ⟨_, _, _, rfl, fun _ h => h⟩ (fun k rest ρ h => ?_) fun ρ h => ?_))
  · obtain ⟨e1, e2, e3, rfl, hk⟩ := h
    have hk0 := hk k (.head _)
    have hkb : 1 ≤ k ∧ k ≤ n := by simp [List.mem_range'] at hk0; omega
    have hc := hcol k hk0
    simp only [colOk, Bool.and_eq_true, beq_iff_eq] at hc
    refine ⟨_, Asg.name (by trivial), ?_⟩
    refine Ex.cons (Ex1.assign (Es.bi (i := "sum") (ds := [.list (iL ((rows.map (epOf n)).filter fun p => (k : Int).fmod p == 0))]) B (kd hsc (by kernel_rfl)) (by decide +kernel) (.one ((El.comp (tv := ["part"]) (fv := ["columns"]) (caps := [.dat (.int (k : Nat))]) (d := .list (iL (rows.map (epOf n)))) (ds := (rows.map (epOf n)).map D.int) (by decide +kernel) (.cons (by trivial) (kd hsc (by kernel_rfl)) .dat .nil) (Ev.mname (by trivial)) (itr_list (by show ((rows.map (epOf n)).map D.int).length ≤ _; rw [List.length_map, List.length_map]; unfold sizeLine; omega))
      (fun c' hI => runs1 (CL1.one (fv := ["columns"]) (caps := [.dat (.int (k : Nat))]) (rows.map (epOf n)) D.int (fun p => (k : Int).fmod p == 0) D.int rfl (fun p hp => Ts.one (Tr.cmp (Es.bin (Es.name (At.there .here)).w (Es.name At.here).w (bin_fmod ?_)).w Es.int.w cmp_eq)) (fun _ _ _ => Es.name At.here)) ?_)).s.w)) cal_sum) (Asg.name (by trivial)) ?_)
    · obtain ⟨r, hr, rfl⟩ := List.mem_map.mp hp
      exact rowOk_ep (hall r hr)
    · rw [List.length_map]
      have := List.length_filter_le (fun p => (k : Int).fmod p == 0) (rows.map (epOf n))
      rw [List.length_map] at this
      unfold sizeLine; omega
    refine Ex.cons (Ex1.comp (tv := ["size"]) (fv := ["columns", "places"]) (caps := [.dat (.int (k : Nat)), .dat (.int n)]) (d := .list (iL sizes)) (ds := sizes.map D.int) (by decide +kernel) (.cons (by trivial) (kd hsc (by kernel_rfl)) .dat (.cons (by trivial) (kd hsc (by kernel_rfl)) .dat .nil)) (Ev.mname (by trivial)) (itr_list (by show (sizes.map D.int).length ≤ _; rw [List.length_map]; unfold sizeLine; omega))
      (fun c' hI => runs1 (CL1.one (fv := ["columns", "places"]) (caps := [.dat (.int (k : Nat)), .dat (.int n)]) sizes D.int (fun s => ((k : Int) * s).fmod n == 0) D.int rfl (fun s _ => Ts.one (Tr.cmp (Es.bin (Es.bin (Es.name (At.there .here)).w (Es.name At.here).w (bin_mul (.inl (by omega)))).w (Es.name (At.there (.there .here))).w (bin_fmod (by omega))).w Es.int.w cmp_eq)) (fun _ _ _ => Es.name At.here)) ?_) (by trivial) ?_ ((sww_env hsc).trans (by kernel_rfl)))
    · rw [List.length_map]
      have := List.length_filter_le (fun s => ((k : Int) * s).fmod n == 0) sizes
      unfold sizeLine; omega
    have hfl := List.length_filter_le (fun s => ((k : Int) * s).fmod n == 0) sizes
    refine Ex.cons (Ex1.ife ((Tr.bool (TrAnd.or (b := false) (b' := false || false) ((Tr.cmp (Es.bin (Es.lmeth (by trivial) PySem.F.slot_list_count PySem.F.type_list_count (.one (Es.name (by trivial)).w) cal_count).w (Es.name (by trivial)).w (bin_mul (.inr (by omega)))).w (Es.name (by trivial)).w cmp_ne).cast ?_) (fun _ => TrAnd.or (b := false) (b' := false) ((Tr.cmp (Es.bin (Es.bi (i := "len") B (kd hsc (by kernel_rfl)) (by decide +kernel) (.one (Es.name (by trivial)).w) (cal_len (by rw [List.length_map]; omega))).w (Es.name (by trivial)).w (bin_mul (.inr (by omega)))).w (Es.name (by trivial)).w cmp_ne).cast ?_) (fun _ => TrAnd.nil)))).cast (b' := false) rfl) (fun hb => by cases hb) (fun _ => Ex.nil ?_))
    · rw [hc.1]; simp
    · rw [List.length_map, hc.2]; simp
    · exact Ex.nil ⟨_, _, _, rfl, fun k' hk' => hk k' (.tail _ hk')⟩
  · obtain ⟨e1, e2, e3, rfl, hk⟩ := h
    exact Ex.cons (Ex1.ret Es.bool rfl)
end
end Mine

namespace Mine
open PySem PySem.Calls PyProof.Rows PySem.SeqAt PySem.W
local macro_rules | `(tactic| trivial) => `(tactic| first | with_reducible exact At.here | with_reducible exact Put.here | (with_reducible apply At.there; trivial) | (with_reducible apply Put.there; trivial))

theorem lawOk_out {n : Nat} {cnt : List Int} (h : lawOk n cnt = true) : (∀ r ∈ rowsOf n cnt, rowOk n (rowsOf n cnt) r = true) ∧ (rowsOf n cnt).length ≤ 1000 ∧
    ∃ fin, headsOf ([], []) (rowsOf n cnt) = some fin ∧ fin.1.length = fin.2.length ∧ ∀ k ∈ List.range' 1 n, colOk n (rowsOf n cnt) fin.2 (k : Nat) = true := by
  unfold lawOk at h
  rw [Bool.and_eq_true, Bool.and_eq_true, Bool.and_eq_true] at h
  obtain ⟨⟨⟨h1, _⟩, h3⟩, h4⟩ := h
  refine ⟨List.all_eq_true.mp h1, of_decide_eq_true h3, ?_⟩
  split at h4
  · cases h4
  · rename_i st hst
    rw [Bool.and_eq_true] at h4
    exact ⟨st, hst, of_decide_eq_true h4.1, List.all_eq_true.mp h4.2⟩
section
variable {c : Cx} {P : Params} (T : Tp c.G (K2 P)) (hsc : c.env.scope = scopeOf Pr2 11) (hlv : 2 ≤ c.lv)
include T hsc hlv
set_option maxHeartbeats 4000000 in
theorem law_tail : Ahead fun ρ => Ex c ⟨vLaw⟩ ρ ((bodyOf Pr2 11).drop 8) (fnPost (.bool true)) := by
  intro xs dr tot n kd' f cnt e1 e2 e3 hn F hc3 hok
  have B := bs2 T
  obtain ⟨hall, hrl, fin, hfin, hfl, hcol⟩ := lawOk_out hok
  have hn6 : n ≤ 6 := by omega
  refine Ex.freeze (y := "figures") (by trivial) (by trivial) ?_
  refine Ex.freeze (y := "counts") (by trivial) (by trivial) ?_
  refine Ex.cons (Ex1.assignL El.l0 (by trivial) ?_)
  refine Ex.cons (Ex1.dictNew (by trivial) ?_)
  refine Ex.cons (Ex1.assignL El.l0 (by trivial) ?_)
  refine Ex.cons (Ex1.assignL El.l0 (by trivial) ?_)
  refine Ex.cons (Ex1.assignL El.l0 (by trivial) ?_)
  refine Ex.cons (Ex1.assignL El.l0 (by trivial) ?_)
  obtain ⟨o1, fd1, ho1, hfd1, _⟩ := (at_rows (G := c.G) T.X).ex
  refine Ex.cons (Ex1.forE (d := .list ((rowsOf n cnt).map fun r => .list (iL r))) (ds := (rowsOf n cnt).map fun r => .list (iL r)) (Es.callF (T.ref (by kernel_rfl)) (kd hsc (by kernel_rfl)) ho1 hfd1 (by omega) (.cons (Es.name (by trivial)) (.one (Es.name (by trivial)))) (c_rows T hc3 hn6)) (itr_list (by rw [List.length_map]; unfold sizeLine; omega))
    (Lp.gen (fun r : List Int => .list (iL r)) (fun rest ρ => ∃ (done : List (List Int)) (st : HS) (eR eN eK eT eW eS eF eL eU : Ent), done ++ rest = rowsOf n cnt ∧ headsOf st rest = some fin ∧ st.1.length = st.2.length ∧ (∀ h ∈ st.1, Wf n h) ∧ st.1.length ≤ done.length ∧
      ρ = [.dat (.list (iL xs)), .dat (.list (iL dr)), .dat (.int tot), .dat (.int n), .dat (.int kd'), .dat (.list (iL (figL f))), e1, .dat (.list (iL cnt)), e2, e3, .mlist (iL (done.map (farOf n))), .mdict (rowsD n f done), .mlist (done.map (turnD n f)), .mlist (iL (done.map (epOf n))), .mlist (st.1.map (headD f)), .mlist (iL st.2), eR, eN, eK, eT, eW, eS, eF, eL, eU, .any, .any, .any]) _ _ ⟨[], ([], []), _, _, _, _, _, _, _, _, _, rfl, hfin, rfl, (fun _ h => by cases h), Nat.le_refl _, rfl⟩ (fun r rest ρ h => ?_) fun ρ h => ?_))
  · obtain ⟨done, st, eR, eN, eK, eT, eW, eS, eF, eL, eU, hd, hh, hl, hw, hz, rfl⟩ := h
    have hr : r ∈ rowsOf n cnt := by rw [← hd]; simp
    have wr := rowOk_wf (hall r hr)
    have hdl : done.length < 1000 := by
      have := congrArg List.length hd
      rw [List.length_append, List.length_cons] at this; omega
    rw [headsOf] at hh
    obtain ⟨st', h1, h2⟩ := Option.bind_eq_some_iff.mp hh
    obtain ⟨k1, k2, k3⟩ := headStep_keeps h1 hl
    refine ⟨_, Asg.name (by trivial), ?_⟩
    refine law_row1 T hsc hlv hn F wr fun eK => ?_
    refine law_row2 T hsc hlv hn F hdl wr (hall r hr) fun eS eF eL => ?_
    refine law_row3 T hsc hlv hn F wr h1 hl hw (by omega) fun eU => ?_
    refine ⟨done ++ [r], st', _, _, _, _, _, _, _, _, _, by rw [← hd]; simp, h2, k1, (fun h hh => (k2 h hh).elim (hw h) (fun e => e ▸ wr)), by rw [List.length_append, List.length_singleton]; omega, rfl⟩
  · obtain ⟨done, st, eR, eN, eK, eT, eW, eS, eF, eL, eU, hd, hh, hl, hw, hz, rfl⟩ := h
    rw [List.append_nil] at hd
    rw [headsOf] at hh
    cases hh
    subst hd
    exact law_end T hsc hlv hn F hall hrl (by omega) hcol
theorem law_whole {xs : List Int} (hx : xs.length ≤ 63) : Ex c ⟨vLaw⟩ (.dat (.list (iL xs)) :: anys ["drawn", "total", "places", "kinds", "figures", "unit", "counts", "place", "kind", "carried", "reached", "turned", "equal_parts", "heads", "sizes", "row", "number", "k", "told", "word", "space", "far", "falls", "found", "columns", "due", "rings"]) (bodyOf Pr2 11) (fnPost (.bool true)) :=
  law_ahead T hsc hx (law_tail T hsc hlv)
end
end Mine

open PySem PySem.W PyProof.Rows
set_option maxHeartbeats 8000000 in
theorem PySem.Challenge.cw_sc0062_02_holds : PySem.Challenge.rw_sc0062_02.Holds :=
  Mine.hd2 (by
  w_on
  k_go0
  rename_i w s₀ s₁ mg mb G Y fa o pm doc ho hg KX X V GL T B TE TW a16 a15 M a14 a13 hcd xs hs hlay0 hL1 hr1 hl2 a11 a10 D vs a7 hL ra w1 r0 hI hr hc1 hc2 K0 hD h₁ tk₁ F o6 o5 o4 o3 o2 o1 o0 l5 l4 l3 l2 l1 l0 rr N0 X0
  refine Mine.law_begin (G := ⟨PySem.Challenge.pw_sc0062_02, w, s₁.heap, mg, mb, T.g, T.b, T.nolimit⟩) (p0 := "script") (rest := ["drawn", "total", "places", "kinds", "figures", "unit", "counts", "place", "kind", "carried", "reached", "turned", "equal_parts", "heads", "sizes", "row", "number", "k", "told", "word", "space", "far", "falls", "found", "columns", "due", "rings"]) rfl F N0 X0 hL hI rfl (by decide +kernel) (fun c hG hlv hsc => ?_) (fun s' hk hgn hos => ?_)
  · have TT : Mine.Tp c.G (Mine.K2 w.params) := by
      subst_vars
      rw [hG]
      exact ⟨KX, fun x e => Mine.ns_in KX T.g e, T.builtins⟩
    exact Mine.law_whole TT hsc (by omega) (by omega)
  · exact ⟨.inl ⟨.bool true, .bool true, [], rfl, (fun cls => by rfl), .bool true, PySem.W.postW_of (X := (true == true)) (by rfl) (PySem.W.w_eq_bool (PySem.W.w_res rfl) PySem.W.w_lit) rfl, fun _ => ⟨.nil, fun _ h => by cases h⟩⟩, hk, hos, hgn.trans hg⟩)
