import PyProof.Rows.All
import Wide.All
import OpenK.AllK
import Wide.FinOn
import PySem.Challenge.RW_tc0043_01
set_option Elab.async false
section
open PySem PySem.W PyProof.Rows
set_option linter.unusedVariables false
namespace Mine

abbrev lobj (vs : Array Value) (n : Nat) : Obj := { cls := .type "list", data := .seq vs n }
abbrev tobj (vs : Array Value) (n : Nat) : Obj := { cls := .type "tuple", data := .seq vs n }
mutual
/-- the value V is the datum d at the heap h; no list within it lies in av -/
inductive VR (av : List Addr) (h : Heap) : PyData → Value → Prop
  | none : VR av h .none .none
  | bool {b : Bool} : VR av h (.bool b) (.bool b)
  | int {i : Int} {t : Tok} : VR av h (.int i) (.int i t)
  | str {x : Str} {t : Tok} : VR av h (.str x) (.str x t)
  | ty : VR av h (.dict []) (.type "int")
  | ref {a : Addr} : VR av h (.dict [(.int a, .none)]) (.ref a)
  | list {a : Addr} {vs : Array Value} {n : Nat} {ds : List PyData} : a ∉ av → h.get? a = some (lobj vs n) → VRs av h ds vs.toList → VR av h (.list ds) (.ref a)
  | tuple {a : Addr} {vs : Array Value} {n : Nat} {ds : List PyData} : a ∉ av → h.get? a = some (tobj vs n) → VRs av h ds vs.toList → VR av h (.tuple ds) (.ref a)
inductive VRs (av : List Addr) (h : Heap) : List PyData → List Value → Prop
  | nil : VRs av h [] []
  | cons {d : PyData} {V : Value} {ds : List PyData} {Vs : List Value} : VR av h d V → VRs av h ds Vs → VRs av h (d :: ds) (V :: Vs)
end

/-- every object outside av is kept -/
def Pres (av : List Addr) (h h' : Heap) : Prop := ∀ b o, b ∉ av → h.get? b = some o → h'.get? b = some o

mutual
theorem VR.pres {av : List Addr} {h h' : Heap} (k : Pres av h h') : ∀ {d : PyData} {V : Value}, VR av h d V → VR av h' d V
  | _, _, .none => .none
  | _, _, .bool => .bool
  | _, _, .int => .int
  | _, _, .str => .str
  | _, _, .ty => .ty
  | _, _, .ref => .ref
  | _, _, .list n e r => .list n (k _ _ n e) (VRs.pres k r)
  | _, _, .tuple n e r => .tuple n (k _ _ n e) (VRs.pres k r)
theorem VRs.pres {av : List Addr} {h h' : Heap} (k : Pres av h h') : ∀ {ds : List PyData} {Vs : List Value}, VRs av h ds Vs → VRs av h' ds Vs
  | _, _, .nil => .nil
  | _, _, .cons r rs => .cons (VR.pres k r) (VRs.pres k rs)
end
mutual
/-- what av' holds is of av or not there yet -/
theorem VR.more {av av' : List Addr} {h : Heap} (k : ∀ a ∈ av', a ∈ av ∨ h.get? a = none) : ∀ {d : PyData} {V : Value}, VR av h d V → VR av' h d V
  | _, _, .none => .none
  | _, _, .bool => .bool
  | _, _, .int => .int
  | _, _, .str => .str
  | _, _, .ty => .ty
  | _, _, .ref => .ref
  | _, _, .list n e r => .list (fun hm => (k _ hm).elim n fun q => by rw [e] at q; cases q) e (VRs.more k r)
  | _, _, .tuple n e r => .tuple (fun hm => (k _ hm).elim n fun q => by rw [e] at q; cases q) e (VRs.more k r)
theorem VRs.more {av av' : List Addr} {h : Heap} (k : ∀ a ∈ av', a ∈ av ∨ h.get? a = none) : ∀ {ds : List PyData} {Vs : List Value}, VRs av h ds Vs → VRs av' h ds Vs
  | _, _, .nil => .nil
  | _, _, .cons r rs => .cons (VR.more k r) (VRs.more k rs)
end
mutual
theorem VR.reads {av : List Addr} {h : Heap} : ∀ {d : PyData} {V : Value}, PyData.canLay0 d = true → VR av h d V → ∃ as, Reads h V d as
  | _, _, _, .none => ⟨_, .none⟩
  | _, _, _, .bool => ⟨_, .bool _⟩
  | _, _, _, .int => ⟨_, .int _ _⟩
  | _, _, _, .str => ⟨_, .str _ _⟩
  | _, _, c, .ty => by simp [PyData.canLay0] at c
  | _, _, c, .ref => by simp [PyData.canLay0] at c
  | _, _, c, .list _ e r => let ⟨as, q⟩ := VRs.reads (by simpa [PyData.canLay0] using c) r; ⟨_, .list e rfl rfl q⟩
  | _, _, c, .tuple _ e r => let ⟨as, q⟩ := VRs.reads (by simpa [PyData.canLay0] using c) r; ⟨_, .tuple e rfl rfl q⟩
theorem VRs.reads {av : List Addr} {h : Heap} : ∀ {ds : List PyData} {Vs : List Value}, PyData.canLayAll0 ds = true → VRs av h ds Vs → ∃ as, ReadsAll h Vs ds as
  | _, _, _, .nil => ⟨_, .nil⟩
  | _, _, c, .cons r rs => by
    rw [PyData.canLayAll0, Bool.and_eq_true] at c
    obtain ⟨as, q⟩ := VR.reads c.1 r
    obtain ⟨bs, p⟩ := VRs.reads c.2 rs
    exact ⟨_, .cons q p⟩
end

section
variable {av av' : List Addr} {h h' : Heap} {d : PyData} {ds : List PyData} {V : Value} {Vs : List Value} {a : Addr}
theorem Pres.of_keeps (k : ∀ b o, h.get? b = some o → h'.get? b = some o) : Pres av h h' := fun b o _ e => k b o e
theorem Pres.refl : Pres av h h := fun _ _ _ e => e
theorem Pres.trans {h'' : Heap} (x : Pres av h h') (y : Pres av h' h'') : Pres av h h'' := fun b o n e => y b o n (x b o n e)
theorem VR.keeps (x : VR av h d V) (k : ∀ b o, h.get? b = some o → h'.get? b = some o) : VR av h' d V := VR.pres (Pres.of_keeps k) x
theorem VRs.keeps (x : VRs av h ds Vs) (k : ∀ b o, h.get? b = some o → h'.get? b = some o) : VRs av h' ds Vs := VRs.pres (Pres.of_keeps k) x
theorem VR.sub (x : VR av h d V) (k : ∀ a ∈ av', a ∈ av) : VR av' h d V := VR.more (fun a ha => .inl (k a ha)) x
theorem VRs.sub (x : VRs av h ds Vs) (k : ∀ a ∈ av', a ∈ av) : VRs av' h ds Vs := VRs.more (fun a ha => .inl (k a ha)) x
theorem VRs.nil_inv (y : VRs av h [] Vs) : Vs = [] := by cases y; rfl
theorem VRs.cons_inv (y : VRs av h (d :: ds) Vs) : ∃ V Vs', Vs = V :: Vs' ∧ VR av h d V ∧ VRs av h ds Vs' := by
  cases y with
  | cons r q => exact ⟨_, _, rfl, r, q⟩
theorem VRs.length : ∀ {ds : List PyData} {Vs : List Value}, VRs av h ds Vs → Vs.length = ds.length
  | [], Vs, y => by rw [y.nil_inv]; rfl
  | d :: ds, Vs, y => by obtain ⟨V, Vs', rfl, _, r⟩ := y.cons_inv; rw [List.length_cons, List.length_cons, r.length]
theorem VRs.get : ∀ {ds : List PyData} {Vs : List Value} {i : Nat} {d : PyData}, VRs av h ds Vs → ds[i]? = some d → ∃ V, Vs[i]? = some V ∧ VR av h d V
  | [], _, i, d, _, e => by simp at e
  | d :: ds, Vs, 0, d', y, e => by obtain ⟨V, Vs', rfl, r, _⟩ := y.cons_inv; cases e; exact ⟨V, rfl, r⟩
  | d :: ds, Vs, i + 1, d', y, e => by obtain ⟨V, Vs', rfl, _, r⟩ := y.cons_inv; exact r.get (i := i) e
theorem VRs.append : ∀ {ds es : List PyData} {Vs Ws : List Value}, VRs av h ds Vs → VRs av h es Ws → VRs av h (ds ++ es) (Vs ++ Ws)
  | [], _, Vs, _, x, y => by rw [x.nil_inv]; exact y
  | d :: ds, _, Vs, _, x, y => by obtain ⟨V, Vs', rfl, r, q⟩ := x.cons_inv; exact .cons r (q.append y)
theorem VRs.set : ∀ {ds : List PyData} {Vs : List Value} (i : Nat) {d : PyData} {V : Value}, VRs av h ds Vs → VR av h d V → VRs av h (ds.set i d) (Vs.set i V)
  | [], Vs, _, _, _, x, _ => by rw [x.nil_inv]; exact .nil
  | d :: ds, Vs, 0, _, _, x, y => by obtain ⟨V, Vs', rfl, r, q⟩ := x.cons_inv; exact .cons y q
  | d :: ds, Vs, i + 1, _, _, x, y => by obtain ⟨V, Vs', rfl, r, q⟩ := x.cons_inv; exact .cons r (q.set i y)
theorem VRs.drop : ∀ {ds : List PyData} {Vs : List Value} (i : Nat), VRs av h ds Vs → VRs av h (ds.drop i) (Vs.drop i)
  | _, _, 0, x => x
  | [], Vs, i + 1, x => by rw [x.nil_inv]; exact .nil
  | d :: ds, Vs, i + 1, x => by obtain ⟨V, Vs', rfl, r, q⟩ := x.cons_inv; exact q.drop i
theorem VRs.take : ∀ {ds : List PyData} {Vs : List Value} (i : Nat), VRs av h ds Vs → VRs av h (ds.take i) (Vs.take i)
  | _, _, 0, x => .nil
  | [], Vs, i + 1, x => by rw [x.nil_inv]; exact .nil
  | d :: ds, Vs, i + 1, x => by obtain ⟨V, Vs', rfl, r, q⟩ := x.cons_inv; exact .cons r (q.take i)

theorem VR.int_inv {i : Int} (x : VR av h (.int i) V) : ∃ t, V = .int i t := by cases x; exact ⟨_, rfl⟩
theorem VR.str_inv {y : Str} (x : VR av h (.str y) V) : ∃ t, V = .str y t := by cases x; exact ⟨_, rfl⟩
theorem VR.bool_inv {b : Bool} (x : VR av h (.bool b) V) : V = .bool b := by cases x; rfl
theorem VR.none_inv (x : VR av h .none V) : V = .none := by cases x; rfl
theorem VR.ty_inv (x : VR av h (.dict []) V) : V = .type "int" := by cases x; rfl
theorem VR.ref_inv {b : Addr} (x : VR av h (.dict [(.int b, .none)]) V) : V = .ref b := by cases x; rfl
theorem VR.list_inv (x : VR av h (.list ds) V) : ∃ a vs n, V = .ref a ∧ a ∉ av ∧ h.get? a = some (lobj vs n) ∧ VRs av h ds vs.toList := by
  cases x with
  | list n e r => exact ⟨_, _, _, rfl, n, e, r⟩
theorem VR.tuple_inv (x : VR av h (.tuple ds) V) : ∃ a vs n, V = .ref a ∧ a ∉ av ∧ h.get? a = some (tobj vs n) ∧ VRs av h ds vs.toList := by
  cases x with
  | tuple n e r => exact ⟨_, _, _, rfl, n, e, r⟩
theorem isList_of {vs : Array Value} {n : Nat} (e : h.get? a = some (lobj vs n)) : h.IsList a vs := ⟨_, e, rfl, n, rfl⟩
theorem isTuple_of {vs : Array Value} {n : Nat} (e : h.get? a = some (tobj vs n)) : h.IsTuple a vs := ⟨_, e, rfl, n, rfl⟩
theorem plain_of {vs : Array Value} {n : Nat} (e : h.get? a = some (lobj vs n)) : h.PlainList a vs := ⟨n, e⟩
theorem VR.listP {vs : Array Value} (ha : a ∉ av) (hl : h.PlainList a vs) (y : VRs av h ds vs.toList) : VR av h (.list ds) (.ref a) := let ⟨n, e⟩ := hl; .list ha e y
end
end Mine
end
section
open PySem PySem.W PyProof.Rows
set_option linter.unusedVariables false
namespace Mine

structure OkA (k : Nat) (A : Around) : Prop where
  hh : A.handled = none
  depth : A.depth + k ≤ 600
  units : A.units + 10 * k ≤ 600
theorem OkA.deeper {k : Nat} {A : Around} {env : Env} (x : OkA (k + 1) A) : OkA k (A.deeper env) :=
  ⟨x.hh, by have := x.depth; show A.depth + 1 + k ≤ 600; omega, by have := x.units; show A.units + 3 + 10 * k ≤ 600; omega⟩
theorem OkA.in1 {k : Nat} {A : Around} (x : OkA (k + 1) A) : OkA k A.in1 :=
  ⟨x.hh, by have := x.depth; show A.depth + k ≤ 600; omega, by have := x.units; show A.units + 1 + 10 * k ≤ 600; omega⟩
theorem OkA.mono {k j : Nat} {A : Around} (x : OkA k A) (h : j ≤ k) : OkA j A := ⟨x.hh, by have := x.depth; omega, by have := x.units; omega⟩
theorem OkA.room {k : Nat} {A : Around} (x : OkA k A) : A.depth < recursionLimit := by have := x.depth; show A.depth < 1000; omega
theorem OkA.u64 {k : Nat} {A : Around} (x : OkA k A) : A.units + 65 < cLine := by have := x.units; show A.units + 65 < 9900; omega
theorem OkA.u {k : Nat} {A : Around} (x : OkA k A) : A.units < cLine := by have := x.units; show A.units < 9900; omega

structure EnvOk (env : Env) : Prop where
  kind : env.scope.kind = .function
  glob : env.globals = mainGlobals
  blt : env.builtins = builtinsNs

inductive Has (env : Env) (h : Heap) (x : Str) (V : Value) : Prop
  | loc {m : Str → Option Value} : env.kindOf x = some .local → h.Ns env.locals m → m x = some V → Has env h x V
  | cell {c : Addr} : env.kindOf x = some .cell → env.cells.lookup x = some c → h.IsCell c (some V) → Has env h x V
  | free {c : Addr} : env.kindOf x = some .free → (x == ("__classdict__" : Str)) = false → env.cells.lookup x = some c → h.IsCell c (some V) → Has env h x V
theorem Has.keeps {env : Env} {h h' : Heap} {x : Str} {V : Value} (k : ∀ b o, h.get? b = some o → h'.get? b = some o) : Has env h x V → Has env h' x V
  | .loc a b c => .loc a (b.keeps k) c
  | .cell a b c => .cell a b (c.keeps k)
  | .free a n b c => .free a n b (c.keeps k)

/-- what is held mutably: a list, an iterator over a list (what is still to come) -/
inductive Ow
  | lst (its : List PyData)
  | itr (rest : List PyData)
  | hdr (C : Addr) (its : List (Str × Str))
/-- a slot of the state: nothing known, a value, a thing of one's own, values known beside the names -/
inductive Sl
  | no
  | v (d : PyData)
  | o (k : Ow)
  | k (ds : List PyData) (Ws : List Value)

/-- the entries of a Headers object: tuples of two texts -/
inductive HIts (av : List Addr) (h : Heap) : List (Str × Str) → List Addr → Prop
  | nil : HIts av h [] []
  | cons {x y : Str} {t u : Tok} {a : Addr} {n : Nat} {its : List (Str × Str)} {ts : List Addr} : a ∉ av → h.get? a = some (tobj #[.str x t, .str y u] n) → HIts av h its ts → HIts av h ((x, y) :: its) (a :: ts)
theorem HIts.keeps {av : List Addr} {h h' : Heap} (k : ∀ b o, h.get? b = some o → h'.get? b = some o) : ∀ {its ts}, HIts av h its ts → HIts av h' its ts
  | _, _, .nil => .nil
  | _, _, .cons a b c => .cons a (k _ _ b) (c.keeps k)
inductive OwR (av : List Addr) (h : Heap) : Ow → Value → List Addr → Prop
  | lst {a : Addr} {its : List PyData} {Vs : List Value} : h.PlainList a Vs.toArray → VRs av h its Vs → OwR av h (.lst its) (.ref a) [a]
  | itr {I l : Addr} {rest : List PyData} {vs : Array Value} {n i : Nat} : l ∉ av → h.IsListIter I l i → h.get? l = some (lobj vs n) → VRs av h rest (vs.toList.drop i) → OwR av h (.itr rest) (.ref I) [I]
  | hdr {T d l C : Addr} {e : DictEntry} {n : Nat} {its : List (Str × Str)} {ts : List Addr} : h.get? T = some ⟨.ref C, some d, .plain, #[]⟩ → e.key.isStr "_headers" = true → e.val = .ref l → h.get? d = some (dictOf [e] n) → h.PlainList l (ts.map .ref).toArray → HIts av h its ts →
      OwR av h (.hdr C its) (.ref T) [T, d, l]

inductive HSlot (env : Env) (av : List Addr) (h : Heap) (x : Str) : Sl → List Addr → Prop
  | no : HSlot env av h x .no []
  | v {d : PyData} {V : Value} : Has env h x V → VR av h d V → HSlot env av h x (.v d) []
  | o {k : Ow} {V : Value} {as : List Addr} : Has env h x V → OwR av h k V as → HSlot env av h x (.o k) as
  | k {ds : List PyData} {Ws : List Value} : VRs av h ds Ws → HSlot env av h x (.k ds Ws) []
abbrev Vs := List (Str × Sl)
inductive Hold (env : Env) (av : List Addr) (h : Heap) : Vs → List Addr → Prop
  | nil : Hold env av h [] []
  | cons {x : Str} {o : Sl} {r : Vs} {as os : List Addr} : HSlot env av h x o as → Hold env av h r os → Hold env av h ((x, o) :: r) (as ++ os)
theorem OwR.keeps {av : List Addr} {h h' : Heap} {o : Ow} {V : Value} {as : List Addr} (k : ∀ b o, h.get? b = some o → h'.get? b = some o) : OwR av h o V as → OwR av h' o V as
  | .lst b c => .lst (b.at fun o e => k _ o e) (c.keeps k)
  | .itr b c d e => .itr b (c.at fun o e => k _ o e) (k _ _ d) (e.keeps k)
  | .hdr a b c d e f => .hdr (k _ _ a) b c (k _ _ d) (e.at fun o x => k _ o x) (f.keeps k)
theorem HSlot.keeps {env : Env} {av : List Addr} {h h' : Heap} {o : Sl} {x : Str} {as : List Addr} (k : ∀ b o, h.get? b = some o → h'.get? b = some o) : HSlot env av h x o as → HSlot env av h' x o as
  | .no => .no
  | .v a b => .v (a.keeps k) (b.keeps k)
  | .o a b => .o (a.keeps k) (b.keeps k)
  | .k a => .k (a.keeps k)
theorem Hold.keeps {env : Env} {av : List Addr} {h h' : Heap} (k : ∀ b o, h.get? b = some o → h'.get? b = some o) : ∀ {ρ os}, Hold env av h ρ os → Hold env av h' ρ os
  | _, _, .nil => .nil
  | _, _, .cons a r => .cons (a.keeps k) (r.keeps k)
theorem Hold.split {env : Env} {av : List Addr} {h : Heap} {x : Str} {sl : Sl} : ∀ {ρ : Vs} {os : List Addr} {i : Nat}, Hold env av h ρ os → ρ[i]? = some (x, sl) →
    ∃ l as r, os = l ++ (as ++ r) ∧ Hold env av h (ρ.take i) l ∧ HSlot env av h x sl as ∧ Hold env av h (ρ.drop (i + 1)) r
  | [], _, i, _, e => by simp at e
  | (y, s) :: ρ, _, 0, .cons a r, e => by cases e; exact ⟨[], _, _, rfl, .nil, a, r⟩
  | (y, s) :: ρ, _, i + 1, .cons a r, e => by
    obtain ⟨l, as, r', rfl, h1, h2, h3⟩ := r.split (i := i) e
    exact ⟨_, as, r', by rw [List.append_assoc], .cons a h1, h2, h3⟩
theorem Hold.join {env : Env} {av : List Addr} {h : Heap} {x : Str} {sl : Sl} : ∀ {ρ : Vs} {l as r : List Addr} {i : Nat}, i < ρ.length → Hold env av h (ρ.take i) l → HSlot env av h x sl as → Hold env av h (ρ.drop (i + 1)) r →
    Hold env av h (ρ.set i (x, sl)) (l ++ (as ++ r))
  | [], _, _, _, _, e, _, _, _ => by simp at e
  | (y, s) :: ρ, _, _, _, 0, _, .nil, a, r => by rw [List.nil_append]; exact .cons a r
  | (y, s) :: ρ, _, _, _, i + 1, e, .cons a b, c, d => by rw [List.append_assoc]; exact .cons a (b.join (Nat.lt_of_succ_lt_succ e) c d)

structure R (env : Env) (B : Heap) (ρ : Vs) (os av : List Addr) (s : Shared) : Prop where
  ok : EnvOk env
  base : ∀ b o, B.get? b = some o → s.heap.get? b = some o
  hold : Hold env av s.heap ρ os
  alive : ∀ a ∈ av, ∃ o, s.heap.get? a = some o

theorem kp_refl (s : Shared) : Keeps s s := ⟨s.heap, s.toks, rfl, fun _ _ e => e⟩
theorem kp_tok (s : Shared) (t : Nat) : Keeps s { s with toks := t } := ⟨s.heap, t, rfl, fun _ _ e => e⟩
theorem kp_push (s : Shared) (o : Obj) : Keeps s { s with heap := s.heap.push o } := ⟨_, s.toks, rfl, fun _ _ e => Heap.get?_push_of_some _ e⟩
theorem kp_trans {s s₁ s₂ : Shared} (x : Keeps s s₁) (y : Keeps s₁ s₂) : Keeps s s₂ := by
  obtain ⟨h, t, rfl, k⟩ := x
  obtain ⟨h', t', rfl, k'⟩ := y
  exact ⟨h', t', rfl, fun b o e => k' b o (k b o e)⟩
theorem kp {s s' : Shared} (x : Keeps s s') : ∀ b o, s.heap.get? b = some o → s'.heap.get? b = some o := by
  obtain ⟨h, t, rfl, k⟩ := x
  exact k
theorem R.keeps {env : Env} {B : Heap} {ρ : Vs} {os av : List Addr} {s s' : Shared} (x : R env B ρ os av s) (k : Keeps s s') : R env B ρ os av s' where
  ok := x.ok
  base := fun b o e => kp k b o (x.base b o e)
  hold := x.hold.keeps (kp k)
  alive := fun a h => let ⟨o, e⟩ := x.alive a h; ⟨o, kp k a o e⟩
theorem not_alive {h : Heap} {av : List Addr} (x : ∀ a ∈ av, ∃ o, h.get? a = some o) {a : Addr} (e : h.get? a = none) : a ∉ av := fun hm => by
  obtain ⟨o, q⟩ := x a hm
  rw [e] at q; cases q
theorem next_none (h : Heap) : h.get? h.objs.size = none := by
  cases e : h.get? h.objs.size with
  | none => rfl
  | some o => exact absurd (Heap.lt_size e) (Nat.lt_irrefl _)

/-- evaluating e yields what reads as d, and changes nothing that is there -/
structure PE (prog : Program) (w : World) (k : Nat) (env : Env) (B : Heap) (ρ : Vs) (e : Expr) (d : PyData) : Prop where
  out : ∀ A os av s, OkA k A → R env B ρ os av s → wpAny (model prog w) A (eval e env) (fun V s' => VR av s'.heap d V ∧ Keeps s s') (fun _ _ => False) s
/-- the test e comes out as b -/
structure PT (prog : Program) (w : World) (k : Nat) (env : Env) (B : Heap) (ρ : Vs) (e : Expr) (b : Bool) : Prop where
  out : ∀ A os av s, OkA k A → R env B ρ os av s → wpAny (model prog w) A (isTrue e env (eval e env)) (fun r s' => r = b ∧ Keeps s s') (fun _ _ => False) s
/-- an operator on two values that read as a and b -/
structure BinR (prog : Program) (w : World) (k : Nat) (op : Operator) (a b d : PyData) : Prop where
  out : ∀ A av s V W, OkA k A → (∀ a ∈ av, ∃ o, s.heap.get? a = some o) → VR av s.heap a V → VR av s.heap b W → wpAny (model prog w) A (binaryOp op V W) (fun X s' => VR av s'.heap d X ∧ Keeps s s') (fun _ _ => False) s
structure InR (prog : Program) (w : World) (k : Nat) (op : Operator) (a b d : PyData) : Prop where
  out : ∀ A av s V W, OkA k A → (∀ a ∈ av, ∃ o, s.heap.get? a = some o) → VR av s.heap a V → VR av s.heap b W → wpAny (model prog w) A (inplaceOp op V W) (fun X s' => VR av s'.heap d X ∧ Keeps s s') (fun _ _ => False) s
structure CmpR (prog : Program) (w : World) (k : Nat) (op : CmpOp) (a b : PyData) (r : Bool) : Prop where
  out : ∀ A av s V W, OkA k A → VR av s.heap a V → VR av s.heap b W → wpAny (model prog w) A (compareOp op V W) (fun X s' => X = .bool r ∧ Keeps s s') (fun _ _ => False) s
structure TruR (prog : Program) (w : World) (k : Nat) (a : PyData) (r : Bool) : Prop where
  out : ∀ A av s V, OkA k A → VR av s.heap a V → wpAny (model prog w) A (truthy V) (fun X s' => X = r ∧ Keeps s s') (fun _ _ => False) s

section
variable {prog : Program} {w : World} {k : Nat} {env : Env} {B : Heap} {ρ : Vs}

theorem mem_of_at {α : Type} {l : List α} {i : Nat} {x : α} (h : l[i]? = some x) : x ∈ l := List.mem_of_getElem? h

theorem Hold.at {env : Env} {av : List Addr} {h : Heap} {ρ : Vs} {os : List Addr} {x : Str} {d : PyData} {i : Nat} (H : Hold env av h ρ os) (e : ρ[i]? = some (x, .v d)) : ∃ V, Has env h x V ∧ VR av h d V := by
  obtain ⟨_, _, _, _, _, q, _⟩ := H.split e
  cases q with
  | v a b => exact ⟨_, a, b⟩
theorem Hold.kn {env : Env} {av : List Addr} {h : Heap} {ρ : Vs} {os : List Addr} {x : Str} {ds : List PyData} {Ws : List Value} {i : Nat} (H : Hold env av h ρ os) (e : ρ[i]? = some (x, .k ds Ws)) : VRs av h ds Ws := by
  obtain ⟨_, _, _, _, _, q, _⟩ := H.split e
  cases q with
  | k a => exact a
theorem Hold.own {env : Env} {av : List Addr} {h : Heap} {ρ : Vs} {os : List Addr} {x : Str} {k : Ow} {i : Nat} (H : Hold env av h ρ os) (e : ρ[i]? = some (x, .o k)) : ∃ V as, Has env h x V ∧ OwR av h k V as ∧ ∀ a ∈ as, a ∈ os := by
  obtain ⟨l, as, r, rfl, _, q, _⟩ := H.split e
  cases q with
  | o a b => exact ⟨_, _, a, b, fun a ha => by simp [ha]⟩
theorem wpAny_NameHas {A : Around} {x : Str} {pos : Pos} {V : Value} {s : Shared} {E : Value → Shared → Prop} {Q : Value → Shared → Prop} (hk : env.scope.kind = .function) (hv : Has env s.heap x V) (h : Q V s)
    (hd : (x == ("__debug__" : Str)) = false := by decide) : wpAny (model prog w) A (eval (.Name x pos) env) Q E s := by
  refine wpAny_Name ?_ hd
  cases hv with
  | loc a b c => exact wpAny_loadName_local hk a b c h
  | cell a b c => exact wpAny_loadName_cell hk a b c h
  | free a n b c => exact wpAny_loadName_free hk a b c h n
theorem PE.var {x : Str} {pos : Pos} {d : PyData} (i : Nat) (h : ρ[i]? = some (x, .v d)) (hd : (x == ("__debug__" : Str)) = false := by decide) : PE prog w k env B ρ (.Name x pos) d := by
  constructor
  intro A os av s hA r
  obtain ⟨V, hv, hr⟩ := r.hold.at h
  exact wpAny_NameHas r.ok.kind hv ⟨hr, kp_refl s⟩ hd
theorem PE.int {i : Int} {j : Nat} {pos : Pos} : PE prog w k env B ρ (.Constant (.int i) j pos) (.int i) := ⟨fun _ _ _ s _ _ => wpAny_Constant_int ⟨.int, kp_tok s _⟩⟩
theorem PE.str {x : Str} {j : Nat} {pos : Pos} : PE prog w k env B ρ (.Constant (.str x) j pos) (.str x) := ⟨fun _ _ _ s _ _ => wpAny_Constant_str ⟨.str, kp_tok s _⟩⟩
theorem PE.nn {j : Nat} {pos : Pos} : PE prog w k env B ρ (.Constant .none j pos) .none := ⟨fun _ _ _ s _ _ => wpAny_Constant_none ⟨.none, kp_refl s⟩⟩
theorem PE.bool {b : Bool} {j : Nat} {pos : Pos} : PE prog w k env B ρ (.Constant (.bool b) j pos) (.bool b) := ⟨fun _ _ _ s _ _ => wpAny_Constant_bool ⟨.bool, kp_refl s⟩⟩

theorem PE.bin {l r : Expr} {op : Operator} {pos : Pos} {a b d : PyData} (hl : PE prog w k env B ρ l a) (hr : PE prog w k env B ρ r b) (ho : BinR prog w k op a b d) : PE prog w k env B ρ (.BinOp l op r pos) d := by
  constructor
  intro A os av s hA h
  refine wpAny_BinOp (wpAny_mono (hl.out A os av s hA h) (fun V s₁ p => wpAny_mono (hr.out A os av s₁ hA (h.keeps p.2)) (fun W s₂ q => ?_) fun _ _ e => e) fun _ _ e => e)
  refine wpAny_mono (ho.out A av s₂ V W hA ((h.keeps p.2).keeps q.2).alive (p.1.keeps (kp q.2)) q.1) (fun X s₃ z => ⟨z.1, kp_trans p.2 (kp_trans q.2 z.2)⟩) fun _ _ e => e
theorem PE.cmp {l r : Expr} {op : CmpOp} {pos : Pos} {a b : PyData} {d : Bool} (hl : PE prog w k env B ρ l a) (hr : PE prog w k env B ρ r b) (ho : CmpR prog w k op a b d)
    (hm : behindInMarks op r = false := by with_unfolding_all rfl) : PE prog w k env B ρ (.Compare l [op] [r] pos) (.bool d) := by
  constructor
  intro A os av s hA h
  refine wpAny_Compare1 (wpAny_mono (hl.out A os av s hA h) (fun V s₁ p => wpAny_mono (hr.out A os av s₁ hA (h.keeps p.2)) (fun W s₂ q => ?_) fun _ _ e => e) fun _ _ e => e) hm
  refine wpAny_mono (ho.out A av s₂ V W hA (p.1.keeps (kp q.2)) q.1) (fun X s₃ z => ⟨z.1 ▸ .bool, kp_trans p.2 (kp_trans q.2 z.2)⟩) fun _ _ e => e
theorem PT.cmp {l r : Expr} {op : CmpOp} {pos : Pos} {a b : PyData} {d : Bool} (hl : PE prog w k env B ρ l a) (hr : PE prog w k env B ρ r b) (ho : CmpR prog w k op a b d)
    (hm : behindInMarks op r = false := by with_unfolding_all rfl) : PT prog w k env B ρ (.Compare l [op] [r] pos) d := by
  constructor
  intro A os av s hA h
  refine wpAny_isTrue_Compare1 (wpAny_mono (hl.out A os av s hA h) (fun V s₁ p => wpAny_mono (hr.out A os av s₁ hA (h.keeps p.2)) (fun W s₂ q => ?_) fun _ _ e => e) fun _ _ e => e) hm
  refine wpAny_mono (ho.out A av s₂ V W hA (p.1.keeps (kp q.2)) q.1) (fun X s₃ z => ?_) fun _ _ e => e
  obtain ⟨rfl, z⟩ := z
  exact wpAny_truthy_bool ⟨rfl, kp_trans p.2 (kp_trans q.2 z)⟩
theorem PT.not {e : Expr} {pos : Pos} {b : Bool} (h : PT prog w k env B ρ e b) : PT prog w k env B ρ (.UnaryOp .Not e pos) (!b) := ⟨fun A os av s hA r =>
  wpAny_isTrue_Not (wpAny_mono (h.out A os av s hA r) (fun c s₁ p => ⟨by rw [p.1], p.2⟩) fun _ _ e => e)⟩
theorem PT.val {e : Expr} {d : PyData} {b : Bool} (h : PE prog w k env B ρ e d) (ht : TruR prog w k d b) (he : ∀ whole, isTrue e env whole = (do let v ← whole; standAt e.pos; holding [v] (truthy v)) := by intro _; rfl) : PT prog w k env B ρ e b :=
  ⟨fun A os av s hA r => wpAny_isTrue_value (wpAny_mono (h.out A os av s hA r) (fun V s₁ p => wpAny_mono (ht.out A av s₁ V hA p.1) (fun c s₂ q => ⟨q.1, kp_trans p.2 q.2⟩) fun _ _ e => e) fun _ _ e => e) (he _)⟩
structure PTs (prog : Program) (w : World) (k : Nat) (env : Env) (B : Heap) (ρ : Vs) (op : BoolOp) (es : List Expr) (b : Bool) : Prop where
  out : ∀ A os av s, OkA k A → R env B ρ os av s → wpAny (model prog w) A (allTrue op es env) (fun r s' => r = b ∧ Keeps s s') (fun _ _ => False) s
theorem PTs.and_nil : PTs prog w k env B ρ .And [] true := ⟨fun _ _ _ s _ _ => wpAny_allTrue_And_nil ⟨rfl, kp_refl s⟩⟩
theorem PTs.or_nil : PTs prog w k env B ρ .Or [] false := ⟨fun _ _ _ s _ _ => wpAny_allTrue_Or_nil ⟨rfl, kp_refl s⟩⟩
theorem PTs.and {e : Expr} {es : List Expr} {b c : Bool} (h : PT prog w k env B ρ e b) (hs : b = true → PTs prog w k env B ρ .And es c) : PTs prog w k env B ρ .And (e :: es) (b && c) := by
  constructor
  intro A os av s hA r
  refine wpAny_allTrue_And_cons (wpAny_mono (h.out A os av s hA r) (fun x s₁ p => ?_) fun _ _ e => e)
  obtain ⟨rfl, p⟩ := p
  cases x with
  | false => exact ⟨rfl, p⟩
  | true => exact wpAny_mono ((hs rfl).out A os av s₁ hA (r.keeps p)) (fun c s₂ q => ⟨q.1, kp_trans p q.2⟩) fun _ _ e => e
theorem PTs.or {e : Expr} {es : List Expr} {b c : Bool} (h : PT prog w k env B ρ e b) (hs : b = false → PTs prog w k env B ρ .Or es c) : PTs prog w k env B ρ .Or (e :: es) (b || c) := by
  constructor
  intro A os av s hA r
  refine wpAny_allTrue_Or_cons (wpAny_mono (h.out A os av s hA r) (fun x s₁ p => ?_) fun _ _ e => e)
  obtain ⟨rfl, p⟩ := p
  cases x with
  | true => exact ⟨rfl, p⟩
  | false => exact wpAny_mono ((hs rfl).out A os av s₁ hA (r.keeps p)) (fun c s₂ q => ⟨q.1, kp_trans p q.2⟩) fun _ _ e => e
theorem PT.all {op : BoolOp} {es : List Expr} {pos : Pos} {b : Bool} (h : PTs prog w k env B ρ op es b) : PT prog w k env B ρ (.BoolOp op es pos) b := ⟨fun A os av s hA r => wpAny_isTrue_BoolOp (h.out A os av s hA r)⟩
theorem PE.ite {t x y : Expr} {pos : Pos} {b : Bool} {d : PyData} (h : PT prog w k env B ρ t b) (h1 : b = true → PE prog w k env B ρ x d) (h2 : b = false → PE prog w k env B ρ y d) : PE prog w k env B ρ (.IfExp t x y pos) d := by
  constructor
  intro A os av s hA r
  refine wpAny_IfExp (wpAny_mono (h.out A os av s hA r) (fun c s₁ p => ?_) fun _ _ e => e)
  obtain ⟨rfl, p⟩ := p
  cases c with
  | true => exact wpAny_mono ((h1 rfl).out A os av s₁ hA (r.keeps p)) (fun V s₂ q => ⟨q.1, kp_trans p q.2⟩) fun _ _ e => e
  | false => exact wpAny_mono ((h2 rfl).out A os av s₁ hA (r.keeps p)) (fun V s₂ q => ⟨q.1, kp_trans p q.2⟩) fun _ _ e => e
theorem PE.or {x y : Expr} {pos : Pos} {a d : PyData} {b : Bool} (h : PE prog w k env B ρ x a) (ht : TruR prog w k a b) (h1 : b = true → a = d) (h2 : b = false → PE prog w k env B ρ y d) : PE prog w k env B ρ (.BoolOp .Or [x, y] pos) d := by
  constructor
  intro A os av s hA r
  refine wpAny_Or2 (wpAny_mono (h.out A os av s hA r) (fun V s₁ p => wpAny_mono (ht.out A av s₁ V hA p.1) (fun c s₂ q => ?_) fun _ _ e => e) fun _ _ e => e)
  obtain ⟨rfl, q⟩ := q
  cases c with
  | true => exact ⟨h1 rfl ▸ p.1.keeps (kp q), kp_trans p.2 q⟩
  | false => exact wpAny_mono ((h2 rfl).out A os av s₂ hA ((r.keeps p.2).keeps q)) (fun V s₂ z => ⟨z.1, kp_trans p.2 (kp_trans q z.2)⟩) fun _ _ e => e
theorem PE.neg {e : Expr} {pos : Pos} {i : Int} (h : PE prog w k env B ρ e (.int i)) : PE prog w k env B ρ (.UnaryOp .USub e pos) (.int (-i)) := by
  constructor
  intro A os av s hA r
  refine wpAny_UnaryOp (wpAny_mono (h.out A os av s hA r) (fun V s₁ p => ?_) fun _ _ e => e)
  obtain ⟨t, rfl⟩ := p.1.int_inv
  exact P.neg_int ⟨.int, kp_trans p.2 (kp_tok _ _)⟩
end
end Mine
end
section
open PySem PySem.W PyProof.Rows
set_option linter.unusedVariables false
namespace Mine
section
variable {prog : Program} {w : World} {k : Nat}

theorem BinR.add {a b : Int} : BinR prog w k .Add (.int a) (.int b) (.int (a + b)) := by
  constructor
  intro A av s V W _ _ x y
  obtain ⟨t, rfl⟩ := x.int_inv
  obtain ⟨u, rfl⟩ := y.int_inv
  exact P.add_int ⟨.int, kp_tok s _⟩
theorem InR.add {a b : Int} : InR prog w k .Add (.int a) (.int b) (.int (a + b)) := by
  constructor
  intro A av s V W _ _ x y
  obtain ⟨t, rfl⟩ := x.int_inv
  obtain ⟨u, rfl⟩ := y.int_inv
  exact P.iadd_int ⟨.int, kp_tok s _⟩
theorem BinR.sub {a b : Int} : BinR prog w k .Sub (.int a) (.int b) (.int (a - b)) := by
  constructor
  intro A av s V W _ _ x y
  obtain ⟨t, rfl⟩ := x.int_inv
  obtain ⟨u, rfl⟩ := y.int_inv
  exact P.sub_int ⟨.int, kp_tok s _⟩
theorem InR.sub {a b : Int} : InR prog w k .Sub (.int a) (.int b) (.int (a - b)) := by
  constructor
  intro A av s V W _ _ x y
  obtain ⟨t, rfl⟩ := x.int_inv
  obtain ⟨u, rfl⟩ := y.int_inv
  exact P.isub_int ⟨.int, kp_tok s _⟩
theorem BinR.mul {a b : Int} (hm : IntMulOk a b) : BinR prog w k .Mult (.int a) (.int b) (.int (a * b)) := by
  constructor
  intro A av s V W _ _ x y
  obtain ⟨t, rfl⟩ := x.int_inv
  obtain ⟨u, rfl⟩ := y.int_inv
  exact P.mul_int ⟨.int, kp_tok s _⟩ hm
theorem BinR.fdiv {a b : Int} (h0 : b ≠ 0) (hb : b.natAbs < 1073741824) : BinR prog w k .FloorDiv (.int a) (.int b) (.int (a.fdiv b)) := by
  constructor
  intro A av s V W _ _ x y
  obtain ⟨t, rfl⟩ := x.int_inv
  obtain ⟨u, rfl⟩ := y.int_inv
  exact floordiv_int h0 ⟨.int, kp_tok s _⟩ (.inl (PyProof.noPylong_small hb))
theorem InR.fdiv {a b : Int} (h0 : b ≠ 0) (hb : b.natAbs < 1073741824) : InR prog w k .FloorDiv (.int a) (.int b) (.int (a.fdiv b)) := by
  constructor
  intro A av s V W _ _ x y
  obtain ⟨t, rfl⟩ := x.int_inv
  obtain ⟨u, rfl⟩ := y.int_inv
  exact ifloordiv_int h0 ⟨.int, kp_tok s _⟩ (.inl (PyProof.noPylong_small hb))
theorem BinR.mod {a b : Int} (h0 : b ≠ 0) : BinR prog w k .Mod (.int a) (.int b) (.int (a.fmod b)) := by
  constructor
  intro A av s V W _ _ x y
  obtain ⟨t, rfl⟩ := x.int_inv
  obtain ⟨u, rfl⟩ := y.int_inv
  exact mod_int' h0 ⟨.int, kp_tok s _⟩
theorem BinR.pow {a b : Int} (h0 : 0 ≤ b) (h1 : b ≤ 1000000) (ha : a.natAbs < 2 ^ 64) : BinR prog w k .Pow (.int a) (.int b) (.int (a ^ b.toNat)) := by
  constructor
  intro A av s V W _ _ x y
  obtain ⟨t, rfl⟩ := x.int_inv
  obtain ⟨u, rfl⟩ := y.int_inv
  exact pow_int_small h0 h1 ha ⟨.int, kp_tok s _⟩
theorem BinR.and {a b : Int} : BinR prog w k .BitAnd (.int a) (.int b) (.int (Builtin.bitAnd a b)) := by
  constructor
  intro A av s V W _ _ x y
  obtain ⟨t, rfl⟩ := x.int_inv
  obtain ⟨u, rfl⟩ := y.int_inv
  exact and_int ⟨.int, kp_tok s _⟩
theorem InR.or {a b : Int} : InR prog w k .BitOr (.int a) (.int b) (.int (Builtin.bitOr a b)) := by
  constructor
  intro A av s V W _ _ x y
  obtain ⟨t, rfl⟩ := x.int_inv
  obtain ⟨u, rfl⟩ := y.int_inv
  exact ior_int ⟨.int, kp_tok s _⟩
theorem InR.shl {a b : Int} (h0 : 0 ≤ b) (h1 : b ≤ 1000000) (ha : a.natAbs < 2 ^ 64) : InR prog w k .LShift (.int a) (.int b) (.int (a * 2 ^ b.toNat)) := by
  constructor
  intro A av s V W _ _ x y
  obtain ⟨t, rfl⟩ := x.int_inv
  obtain ⟨u, rfl⟩ := y.int_inv
  exact ilshift_int_small h0 h1 ha ⟨.int, kp_tok s _⟩
theorem BinR.subB {a b : Bool} : BinR prog w k .Sub (.bool a) (.bool b) (.int (b2i a - b2i b)) := by
  constructor
  intro A av s V W _ _ x y
  obtain rfl := x.bool_inv
  obtain rfl := y.bool_inv
  exact sub_bool ⟨.int, kp_tok s _⟩
theorem BinR.addS {a b : Str} (hs : a.length + b.length ≤ sizeLine) : BinR prog w k .Add (.str a) (.str b) (.str (a ++ b)) := by
  constructor
  intro A av s V W _ _ x y
  obtain ⟨t, rfl⟩ := x.str_inv
  obtain ⟨u, rfl⟩ := y.str_inv
  exact add_str (fun t' tk => ⟨.str, kp_tok s _⟩) hs
theorem BinR.mulS {a : Str} {n : Int} (hs : MulOk a n) : BinR prog w k .Mult (.str a) (.int n) (.str (Txt.mul a n)) := by
  constructor
  intro A av s V W _ _ x y
  obtain ⟨t, rfl⟩ := x.str_inv
  obtain ⟨u, rfl⟩ := y.int_inv
  exact SB.mul hs fun t' tk => ⟨.str, kp_tok s _⟩
theorem VR.newList {av : List Addr} {h : Heap} {ds : List PyData} {vs : Array Value} (ha : ∀ a ∈ av, ∃ o, h.get? a = some o) (y : VRs av h ds vs.toList) :
    VR av (h.push { cls := .type "list", data := .seq vs }) (.list ds) (.ref h.objs.size) :=
  .list (not_alive ha (next_none _)) (Heap.get?_push_size _ rfl) (y.keeps fun _ _ e => Heap.get?_push_of_some _ e)
theorem VR.newTuple {av : List Addr} {h : Heap} {ds : List PyData} {vs : Array Value} (ha : ∀ a ∈ av, ∃ o, h.get? a = some o) (y : VRs av h ds vs.toList) :
    VR av (h.push { cls := .type "tuple", data := .seq vs }) (.tuple ds) (.ref h.objs.size) :=
  .tuple (not_alive ha (next_none _)) (Heap.get?_push_size _ rfl) (y.keeps fun _ _ e => Heap.get?_push_of_some _ e)

theorem CmpR.eqI {a b : Int} : CmpR prog w k .Eq (.int a) (.int b) (a == b) := by
  constructor
  intro A av s V W _ x y
  obtain ⟨t, rfl⟩ := x.int_inv
  obtain ⟨u, rfl⟩ := y.int_inv
  exact P.eq_int ⟨rfl, kp_refl s⟩
theorem CmpR.neI {a b : Int} : CmpR prog w k .NotEq (.int a) (.int b) (a != b) := by
  constructor
  intro A av s V W _ x y
  obtain ⟨t, rfl⟩ := x.int_inv
  obtain ⟨u, rfl⟩ := y.int_inv
  exact P.ne_int ⟨rfl, kp_refl s⟩
theorem CmpR.ltI {a b : Int} : CmpR prog w k .Lt (.int a) (.int b) (decide (a < b)) := by
  constructor
  intro A av s V W _ x y
  obtain ⟨t, rfl⟩ := x.int_inv
  obtain ⟨u, rfl⟩ := y.int_inv
  exact P.lt_int ⟨rfl, kp_refl s⟩
theorem CmpR.gtI {a b : Int} : CmpR prog w k .Gt (.int a) (.int b) (decide (a > b)) := by
  constructor
  intro A av s V W _ x y
  obtain ⟨t, rfl⟩ := x.int_inv
  obtain ⟨u, rfl⟩ := y.int_inv
  exact P.gt_int ⟨rfl, kp_refl s⟩
theorem CmpR.eqS {a b : Str} : CmpR prog w k .Eq (.str a) (.str b) (a == b) := by
  constructor
  intro A av s V W _ x y
  obtain ⟨t, rfl⟩ := x.str_inv
  obtain ⟨u, rfl⟩ := y.str_inv
  exact eq_str ⟨rfl, kp_refl s⟩
theorem CmpR.neS {a b : Str} : CmpR prog w k .NotEq (.str a) (.str b) (a != b) := by
  constructor
  intro A av s V W _ x y
  obtain ⟨t, rfl⟩ := x.str_inv
  obtain ⟨u, rfl⟩ := y.str_inv
  exact ne_str ⟨rfl, kp_refl s⟩
theorem CmpR.ltS {a b : Str} : CmpR prog w k .Lt (.str a) (.str b) (decide (a.cps.toList < b.cps.toList)) := by
  constructor
  intro A av s V W _ x y
  obtain ⟨t, rfl⟩ := x.str_inv
  obtain ⟨u, rfl⟩ := y.str_inv
  exact lt_str ⟨rfl, kp_refl s⟩
theorem CmpR.gtS {a b : Str} : CmpR prog w k .Gt (.str a) (.str b) (decide (b.cps.toList < a.cps.toList)) := by
  constructor
  intro A av s V W _ x y
  obtain ⟨t, rfl⟩ := x.str_inv
  obtain ⟨u, rfl⟩ := y.str_inv
  exact P.gt_str ⟨rfl, kp_refl s⟩
theorem CmpR.ne {a b : PyData} (ha : SeqAt.shaped a = true) (hb : SeqAt.shaped b = true) : CmpR prog w k .NotEq a b (!PyData.eqv a b) := by
  constructor
  intro A av s V W hA x y
  obtain ⟨_, x⟩ := x.reads (SeqAt.canLay_of_shaped ha)
  obtain ⟨_, y⟩ := y.reads (SeqAt.canLay_of_shaped hb)
  exact ne_dataH x y ha hb (by have := hA.u64; omega) ⟨rfl, kp_refl s⟩
theorem CmpR.inL {a : PyData} {xs : List PyData} (ha : SeqAt.shaped a = true) (hb : SeqAt.shaped (.list xs) = true) : CmpR prog w k .In a (.list xs) (xs.any fun y => PyData.eqv y a) := by
  constructor
  intro A av s V W hA x y
  obtain ⟨_, x⟩ := x.reads (SeqAt.canLay_of_shaped ha)
  obtain ⟨_, y⟩ := y.reads (SeqAt.canLay_of_shaped hb)
  exact SeqAt.in_list_reads y x (SeqAt.canLay_of_shaped hb) (SeqAt.canLay_of_shaped ha) (room_in_shaped ha hA.u64) ⟨rfl, kp_refl s⟩
theorem TruR.int {a : Int} : TruR prog w k (.int a) (a != 0) := by
  constructor
  intro A av s V hA x
  obtain ⟨t, rfl⟩ := x.int_inv
  exact P.truthy_int ⟨rfl, kp_refl s⟩
theorem TruR.str {a : Str} (h : a.length < 1000000) : TruR prog w k (.str a) ((a.length : Int) != 0) := by
  constructor
  intro A av s V hA x
  obtain ⟨t, rfl⟩ := x.str_inv
  exact P.truthy_str (by omega) ⟨rfl, kp_tok s _⟩
theorem TruR.bool {a : Bool} : TruR prog w k (.bool a) a := by
  constructor
  intro A av s V hA x
  obtain rfl := x.bool_inv
  exact wpAny_truthy_bool ⟨rfl, kp_refl s⟩
end
end Mine
end
section
open PySem PySem.W PyProof.Rows
set_option linter.unusedVariables false
namespace Mine

def Sq (o : Obj) : Prop := ∃ vs n, o = lobj vs n ∨ o = tobj vs n
/-- a list or tuple that is outside av stays outside av' and is kept -/
def Mv (av : List Addr) (h : Heap) (av' : List Addr) (h' : Heap) : Prop := ∀ a o, Sq o → a ∉ av → h.get? a = some o → a ∉ av' ∧ h'.get? a = some o
theorem sql {vs : Array Value} {n : Nat} : Sq (lobj vs n) := ⟨_, _, .inl rfl⟩
theorem sqt {vs : Array Value} {n : Nat} : Sq (tobj vs n) := ⟨_, _, .inr rfl⟩
mutual
theorem VR.mv {av av' : List Addr} {h h' : Heap} (k : Mv av h av' h') : ∀ {d : PyData} {V : Value}, VR av h d V → VR av' h' d V
  | _, _, .none => .none
  | _, _, .bool => .bool
  | _, _, .int => .int
  | _, _, .str => .str
  | _, _, .ty => .ty
  | _, _, .ref => .ref
  | _, _, .list n e r => .list (k _ _ sql n e).1 (k _ _ sql n e).2 (VRs.mv k r)
  | _, _, .tuple n e r => .tuple (k _ _ sqt n e).1 (k _ _ sqt n e).2 (VRs.mv k r)
theorem VRs.mv {av av' : List Addr} {h h' : Heap} (k : Mv av h av' h') : ∀ {ds : List PyData} {Vs : List Value}, VRs av h ds Vs → VRs av' h' ds Vs
  | _, _, .nil => .nil
  | _, _, .cons r rs => .cons (VR.mv k r) (VRs.mv k rs)
end
theorem HIts.mv {av av' : List Addr} {h h' : Heap} (k : Mv av h av' h') : ∀ {its ts}, HIts av h its ts → HIts av' h' its ts
  | _, _, .nil => .nil
  | _, _, .cons a b c => .cons (k _ _ sqt a b).1 (k _ _ sqt a b).2 (c.mv k)
theorem OwR.mv {av av' : List Addr} {h h' : Heap} (k : Mv av h av' h') {o : Ow} {V : Value} {as : List Addr} (po : ∀ a ∈ as, ∀ o, h.get? a = some o → h'.get? a = some o) : OwR av h o V as → OwR av' h' o V as
  | .lst b c => .lst (b.at (po _ (by simp))) (c.mv k)
  | .itr b c d e => .itr (k _ _ sql b d).1 (c.at (po _ (by simp))) (k _ _ sql b d).2 (e.mv k)
  | .hdr a b c d e f => .hdr (po _ (by simp) _ a) b c (po _ (by simp) _ d) (e.at (po _ (by simp))) (f.mv k)
theorem OwR.alive {av : List Addr} {h : Heap} {o : Ow} {V : Value} {as : List Addr} : OwR av h o V as → ∀ a ∈ as, ∃ o, h.get? a = some o
  | .lst ⟨n, b⟩ c => fun a ha => by simp at ha; subst ha; exact ⟨_, b⟩
  | .itr b ⟨o, c, _⟩ d e => fun a ha => by simp at ha; subst ha; exact ⟨_, c⟩
  | .hdr a b c d ⟨m, e⟩ f => fun q hq => by
    simp at hq
    rcases hq with rfl | rfl | rfl
    · exact ⟨_, a⟩
    · exact ⟨_, d⟩
    · exact ⟨_, e⟩
theorem Hold.alive {env : Env} {av : List Addr} {h : Heap} : ∀ {ρ : Vs} {os : List Addr}, Hold env av h ρ os → ∀ a ∈ os, ∃ o, h.get? a = some o
  | _, _, .nil => fun a ha => by simp at ha
  | _, _, .cons s r => fun a ha => by
    rcases List.mem_append.mp ha with q | q
    · cases s with
      | no => simp at q
      | k _ => simp at q
      | v _ _ => simp at q
      | o _ b => exact b.alive a q
    · exact r.alive a q
theorem Hold.mem {env : Env} {av : List Addr} {h : Heap} : ∀ {ρ : Vs} {os : List Addr}, Hold env av h ρ os → ∀ a ∈ os, ∃ k V as, OwR av h k V as ∧ a ∈ as
  | _, _, .nil => fun a ha => by simp at ha
  | _, _, .cons s r => fun a ha => by
    rcases List.mem_append.mp ha with q | q
    · cases s with
      | no => simp at q
      | k _ => simp at q
      | v _ _ => simp at q
      | o _ b => exact ⟨_, _, _, b, q⟩
    · exact r.mem a q
theorem HSlot.move {env : Env} {av av' : List Addr} {h h' : Heap} {y : Str} {sl : Sl} {as : List Addr} (f : ∀ W, Has env h y W → Has env h' y W) (mv : Mv av h av' h')
    (po : ∀ a ∈ as, ∀ o, h.get? a = some o → h'.get? a = some o) : HSlot env av h y sl as → HSlot env av' h' y sl as
  | .no => .no
  | .v a b => .v (f _ a) (b.mv mv)
  | .o a b => .o (f _ a) (b.mv mv po)
  | .k a => .k (a.mv mv)
theorem Hold.move {env : Env} {av av' : List Addr} {h h' : Heap} (mv : Mv av h av' h') : ∀ {ρ : Vs} {os : List Addr}, (∀ p ∈ ρ, ∀ W, Has env h p.1 W → Has env h' p.1 W) →
    (∀ a ∈ os, ∀ o, h.get? a = some o → h'.get? a = some o) → Hold env av h ρ os → Hold env av' h' ρ os
  | _, _, _, _, .nil => .nil
  | _, _, f, po, .cons s r => .cons (s.move (f _ (.head _)) mv fun a ha => po a (by simp [ha])) (Hold.move mv (fun p hp => f p (.tail _ hp)) (fun a ha => po a (by simp [ha])) r)
theorem lt_of_at {α : Type} {l : List α} {i : Nat} {x : α} (h : l[i]? = some x) : i < l.length := by
  rcases Nat.lt_or_ge i l.length with q | q
  · exact q
  · rw [List.getElem?_eq_none q] at h; cases h
theorem names_apart : ∀ {ρ : Vs} {i : Nat} {x : Str} {sl : Sl}, (ρ.map (·.1)).Nodup → ρ[i]? = some (x, sl) → (∀ p ∈ ρ.take i, p.1 ≠ x) ∧ (∀ p ∈ ρ.drop (i + 1), p.1 ≠ x)
  | [], i, x, sl, _, e => by simp at e
  | q :: ρ, 0, x, sl, n, e => by
    cases e
    refine ⟨fun p hp => by simp at hp, fun p hp e => ?_⟩
    rw [List.map_cons, List.nodup_cons] at n
    exact n.1 (e ▸ List.mem_map_of_mem (f := (·.1)) (show p ∈ ρ from hp))
  | q :: ρ, i + 1, x, sl, n, e => by
    rw [List.map_cons, List.nodup_cons] at n
    obtain ⟨a, b⟩ := names_apart (i := i) n.2 e
    refine ⟨fun p hp => ?_, b⟩
    rw [List.take_succ_cons] at hp
    rcases List.mem_cons.mp hp with rfl | hp
    · intro e'; exact n.1 (e' ▸ List.mem_map_of_mem (mem_of_at (i := i) e))
    · exact a p hp
theorem map_set : ∀ {ρ : Vs} {i : Nat} {x : Str} {sl sl' : Sl}, ρ[i]? = some (x, sl) → (ρ.set i (x, sl')).map (·.1) = ρ.map (·.1)
  | [], i, x, sl, _, e => by simp at e
  | q :: ρ, 0, x, sl, _, e => by cases e; rfl
  | q :: ρ, i + 1, x, sl, _, e => by rw [List.set_cons_succ, List.map_cons, List.map_cons, map_set (i := i) e]
theorem Hold.store {env : Env} {av av' : List Addr} {h h' : Heap} {ρ : Vs} {o₁ as' : List Addr} {i : Nat} {x : Str} {sl sl' : Sl} (H : Hold env av h ρ o₁) (n : (ρ.map (·.1)).Nodup) (e : ρ[i]? = some (x, sl))
    (f : ∀ y W, y ≠ x → Has env h y W → Has env h' y W) (mv : Mv av h av' h')
    (po : ∀ l as r, o₁ = l ++ (as ++ r) → HSlot env av h x sl as → ∀ a ∈ l ++ r, ∀ o, h.get? a = some o → h'.get? a = some o) (c : HSlot env av' h' x sl' as') :
    ∃ l as r, o₁ = l ++ (as ++ r) ∧ HSlot env av h x sl as ∧ Hold env av' h' (ρ.set i (x, sl')) (l ++ (as' ++ r)) := by
  obtain ⟨l, as, r, rfl, a, b, d⟩ := H.split e
  obtain ⟨n1, n2⟩ := names_apart n e
  refine ⟨l, as, r, rfl, b, .join (lt_of_at e) (.move mv (fun p hp W => f _ _ (n1 p hp)) (fun q hq => po l as r rfl b q (by simp [hq])) a) c (.move mv (fun p hp W => f _ _ (n2 p hp)) (fun q hq => po l as r rfl b q (by simp [hq])) d)⟩

def avOf (env : Env) (os av₀ : List Addr) : List Addr := env.locals :: (env.cells.map (·.2) ++ (os ++ av₀))
abbrev Fp := Addr → Option Obj
structure St (env : Env) (B : Heap) (F : Fp) (av₀ : List Addr) (ρ : Vs) (os : List Addr) (s : Shared) : Prop where
  ok : EnvOk env
  base : ∀ b o, B.get? b = some o → F b = some o
  keep : ∀ b o, F b = some o → s.heap.get? b = some o
  hold : ∃ o₁, Hold env (avOf env os av₀) s.heap ρ o₁ ∧ (∀ a ∈ o₁, a ∈ os) ∧ o₁.Nodup
  ns : ∃ m, s.heap.Ns env.locals m
  cells : ∀ p ∈ env.cells, ∃ v, s.heap.IsCell p.2 v
  inj : ∀ x y c, env.cells.lookup x = some c → env.cells.lookup y = some c → x = y
  fresh : ∀ a ∈ env.locals :: (env.cells.map (·.2) ++ os), F a = none
  old : ∀ a ∈ av₀, ∃ o, F a = some o
  osA : ∀ a ∈ os, ∃ o, s.heap.get? a = some o
  ap : ∀ a ∈ os, a ≠ env.locals ∧ ∀ p ∈ env.cells, a ≠ p.2
  names : (ρ.map (·.1)).Nodup

section
variable {env : Env} {B : Heap} {F : Fp} {av₀ : List Addr} {ρ : Vs} {os : List Addr} {s : Shared}
theorem mem_of_lookup : ∀ {l : List (Str × Addr)} {x : Str} {c : Addr}, l.lookup x = some c → (x, c) ∈ l
  | [], _, _, h => by simp at h
  | (y, d) :: l, x, c, h => by
    rw [List.lookup_cons] at h
    by_cases hx : x == y
    · simp only [hx] at h; cases h; rw [eq_of_beq hx]; exact .head _
    · simp only [hx] at h; exact .tail _ (mem_of_lookup h)
theorem Ns.alive {h : Heap} {a : Addr} {m : Str → Option Value} (x : h.Ns a m) : ∃ o, h.get? a = some o := let ⟨o, _, _, e, _⟩ := x; ⟨o, e⟩
theorem IsCell.alive {h : Heap} {a : Addr} {m : Option Value} (x : h.IsCell a m) : ∃ o, h.get? a = some o := let ⟨o, e, _⟩ := x; ⟨o, e⟩
theorem ns_ne_cell {h : Heap} {a c : Addr} {m : Str → Option Value} {v : Option Value} (x : h.Ns a m) (y : h.IsCell c v) : a ≠ c := by
  rintro rfl
  obtain ⟨o, _, _, e, d, _⟩ := x
  obtain ⟨o', e', d'⟩ := y
  rw [e] at e'; cases e'; rw [d] at d'; cases d'
theorem cell_ne_list {h : Heap} {a c : Addr} {m : Option Value} {v : Array Value} (x : h.IsCell a m) (y : h.PlainList c v) : a ≠ c := by
  rintro rfl
  obtain ⟨o, e, d⟩ := x
  obtain ⟨o', e'⟩ := y
  rw [e] at e'; cases e'; cases d
theorem St.avA (X : St env B F av₀ ρ os s) : ∀ a ∈ avOf env os av₀, ∃ o, s.heap.get? a = some o := by
  intro a ha
  rcases List.mem_cons.mp ha with rfl | ha
  · obtain ⟨m, h⟩ := X.ns; exact Ns.alive h
  rcases List.mem_append.mp ha with ha | ha
  · obtain ⟨p, hp, rfl⟩ := List.mem_map.mp ha
    obtain ⟨v, h⟩ := X.cells p hp; exact IsCell.alive h
  rcases List.mem_append.mp ha with ha | ha
  · exact X.osA a ha
  · obtain ⟨o, h⟩ := X.old a ha; exact ⟨o, X.keep a o h⟩
theorem St.R (X : St env B F av₀ ρ os s) : ∃ o₁, R env B ρ o₁ (avOf env os av₀) s ∧ (∀ a ∈ o₁, a ∈ os) := by
  obtain ⟨o₁, H, a, b⟩ := X.hold
  exact ⟨o₁, ⟨X.ok, fun b o e => X.keep b o (X.base b o e), H, X.avA⟩, a⟩
theorem St.keeps {s' : Shared} (X : St env B F av₀ ρ os s) (k : Keeps s s') : St env B F av₀ ρ os s' where
  ok := X.ok
  base := X.base
  keep := fun b o e => kp k b o (X.keep b o e)
  hold := let ⟨o₁, H, a, b⟩ := X.hold; ⟨o₁, H.keeps (kp k), a, b⟩
  ns := let ⟨m, h⟩ := X.ns; ⟨m, h.keeps (kp k)⟩
  cells := fun p hp => let ⟨m, h⟩ := X.cells p hp; ⟨m, h.keeps (kp k)⟩
  inj := X.inj
  fresh := X.fresh
  old := X.old
  osA := fun a ha => let ⟨o, h⟩ := X.osA a ha; ⟨o, kp k a o h⟩
  ap := X.ap
  names := X.names
theorem St.locals_mem : env.locals ∈ avOf env os av₀ := .head _
theorem St.cell_mem {x : Str} {c : Addr} (h : env.cells.lookup x = some c) : c ∈ avOf env os av₀ := .tail _ (List.mem_append_left _ (List.mem_map_of_mem (f := (·.2)) (mem_of_lookup h)))
theorem St.os_mem {a : Addr} (h : a ∈ os) : a ∈ avOf env os av₀ := .tail _ (List.mem_append_right _ (List.mem_append_left _ h))

theorem Has.stLocal {h h' : Heap} {x y : Str} {V W : Value} {m : Str → Option Value} (n : h.Ns env.locals m) (n' : h'.Ns env.locals (fun z => if z = x then some V else m z)) (hs : Heap.SameBut env.locals h h') (hne : y ≠ x) :
    Has env h y W → Has env h' y W
  | .loc a b c => .loc a n' (by rw [if_neg hne, n.agree b]; exact c)
  | .cell a b c => .cell a b (c.sameBut hs (Ne.symm (ns_ne_cell n c)))
  | .free a f b c => .free a f b (c.sameBut hs (Ne.symm (ns_ne_cell n c)))
theorem Has.sameBut {h h' : Heap} {y : Str} {W : Value} {c : Addr} (hs : Heap.SameBut c h h') (hL : env.locals ≠ c) (hc : ∀ d v, h.IsCell d v → env.cells.lookup y = some d → d ≠ c) : Has env h y W → Has env h' y W
  | .loc a b d => .loc a (b.sameBut hs hL) d
  | .cell a b d => .cell a b (d.sameBut hs (hc _ _ d b))
  | .free a f b d => .free a f b (d.sameBut hs (hc _ _ d b))

/-- x is a name that the function may store into -/
def Stor (env : Env) (x : Str) : Prop := env.kindOf x = some .local ∨ (env.kindOf x = some .cell ∧ ∃ c, env.cells.lookup x = some c)
def Up (s s' : Shared) : Prop := ∃ h t, s' = { s with heap := h, toks := t }
theorem up_refl (s : Shared) : Up s s := ⟨s.heap, s.toks, rfl⟩
theorem up_kp {s s' : Shared} (k : Keeps s s') : Up s s' := let ⟨h, t, e, _⟩ := k; ⟨h, t, e⟩
theorem up_trans {s s' s'' : Shared} (x : Up s s') (y : Up s' s'') : Up s s'' := by
  obtain ⟨h, t, rfl⟩ := x
  obtain ⟨h', t', rfl⟩ := y
  exact ⟨h', t', rfl⟩

/-- the state after h' differs from h at one address c of the function's own -/
theorem St.at1 {h' : Heap} {tk : Nat} {c : Addr} {ρ' : Vs} (X : St env B F av₀ ρ os s) (hs : Heap.SameBut c s.heap h') (hc : c ∈ env.locals :: (env.cells.map (·.2) ++ os))
    (hold : ∃ o₁, Hold env (avOf env os av₀) h' ρ' o₁ ∧ (∀ a ∈ o₁, a ∈ os) ∧ o₁.Nodup) (ns : ∃ m, h'.Ns env.locals m) (cells : ∀ p ∈ env.cells, ∃ v, h'.IsCell p.2 v) (hca : ∃ o, h'.get? c = some o)
    (names : (ρ'.map (·.1)).Nodup) : St env B F av₀ ρ' os { s with heap := h', toks := tk } where
  ok := X.ok
  base := X.base
  keep := fun b o e => by
    have : b ≠ c := by rintro rfl; rw [X.fresh _ hc] at e; cases e
    exact (hs.2 b this).trans (X.keep b o e)
  hold := hold
  ns := ns
  cells := cells
  inj := X.inj
  fresh := X.fresh
  old := X.old
  osA := fun a ha => by
    obtain ⟨o, e⟩ := X.osA a ha
    by_cases q : a = c
    · subst q; exact hca
    · exact ⟨o, (hs.2 a q).trans e⟩
  ap := X.ap
  names := names

theorem nodup_mid {l as r : List Addr} (h : (l ++ (as ++ r)).Nodup) : (l ++ r).Nodup := by
  rw [List.nodup_append] at h ⊢
  obtain ⟨a, b, c⟩ := h
  rw [List.nodup_append] at b
  exact ⟨a, b.2.1, fun x hx y hy => c x hx y (by simp [hy])⟩

/-- storing a value -/
theorem St.putV' {prog : Program} {w : World} {A : Around} {i : Nat} {x : Str} {sl : Sl} {V : Value} {d : PyData} (X : St env B F av₀ ρ os s) (e : ρ[i]? = some (x, sl)) (hk : Stor env x) (hV : VR (avOf env os av₀) s.heap d V) :
    wpAny (model prog w) A (storeName env x V) (fun _ s' => Up s s' ∧ St env B F av₀ (ρ.set i (x, .v d)) os s' ∧ Pres (avOf env os av₀) s.heap s'.heap) (fun _ _ => False) s := by
  obtain ⟨o₁, H, ho, hn⟩ := X.hold
  obtain ⟨m, n⟩ := X.ns
  have fin : ∀ h' c, Heap.SameBut c s.heap h' → c ∈ avOf env os av₀ → (∀ a ∈ o₁, a ≠ c) → (∀ y W, y ≠ x → Has env s.heap y W → Has env h' y W) → Has env h' x V →
      ∃ o₂, Hold env (avOf env os av₀) h' (ρ.set i (x, .v d)) o₂ ∧ (∀ a ∈ o₂, a ∈ os) ∧ o₂.Nodup := by
    intro h' c hs hc hoc f hx
    have mv : Mv (avOf env os av₀) s.heap (avOf env os av₀) h' := fun a o _ ha e => ⟨ha, (hs.2 a (by rintro rfl; exact ha hc)).trans e⟩
    obtain ⟨l, as, r, rfl, _, q⟩ := H.store (as' := []) X.names e f mv (fun l as r e' _ a ha o e => (hs.2 a (hoc a (by subst e'; simp at ha ⊢; rcases ha with ha | ha <;> simp [ha]))).trans e) (.v hx (hV.mv mv))
    exact ⟨_, q, fun a ha => ho a (by simp at ha ⊢; rcases ha with ha | ha <;> simp [ha]), by rw [List.nil_append]; exact nodup_mid hn⟩
  have hown : ∀ a ∈ o₁, a ≠ env.locals ∧ ∀ p ∈ env.cells, a ≠ p.2 := fun a ha => X.ap a (ho a ha)
  rcases hk with hk | ⟨hk, c, hc⟩
  · refine wpAny_storeName_local hk n (fun h' n' hs => ⟨⟨_, _, rfl⟩, X.at1 hs (.head _) ?_ ⟨_, n'⟩ (fun p hp => ?_) (Ns.alive n') ?_, fun b o hb eb => (hs.2 b (by rintro rfl; exact hb St.locals_mem)).trans eb⟩) (by rw [X.ok.kind]; rfl)
    · exact fin h' _ hs St.locals_mem (fun a ha => (hown a ha).1) (fun y W hy => Has.stLocal n n' hs hy) (.loc hk n' (if_pos rfl))
    · obtain ⟨v, q⟩ := X.cells p hp
      exact ⟨v, q.sameBut hs (Ne.symm (ns_ne_cell n q))⟩
    · rw [map_set e]; exact X.names
  · obtain ⟨v, q⟩ := X.cells _ (mem_of_lookup hc)
    refine wpAny_storeName_cell X.ok.kind hk hc q fun h' q' hs => ⟨⟨_, _, rfl⟩, X.at1 (tk := s.toks) hs (.tail _ (List.mem_append_left _ (List.mem_map_of_mem (f := (·.2)) (mem_of_lookup hc)))) ?_ ⟨_, n.sameBut hs (ns_ne_cell n q)⟩ (fun p hp => ?_) (IsCell.alive q') ?_, fun b o hb eb => (hs.2 b (by rintro rfl; exact hb (St.cell_mem hc))).trans eb⟩
    · exact fin h' _ hs (St.cell_mem hc) (fun a ha => (hown a ha).2 _ (mem_of_lookup hc)) (fun y W hy => Has.sameBut hs (ns_ne_cell n q) fun d v _ hd => by rintro rfl; exact hy (X.inj _ _ _ hd hc)) (.cell hk hc q')
    · obtain ⟨v', z⟩ := X.cells p hp
      by_cases hpc : p.2 = c
      · rw [hpc]; exact ⟨_, q'⟩
      · exact ⟨v', z.sameBut hs hpc⟩
    · rw [map_set e]; exact X.names
theorem St.putV {prog : Program} {w : World} {A : Around} {i : Nat} {x : Str} {sl : Sl} {V : Value} {d : PyData} (X : St env B F av₀ ρ os s) (e : ρ[i]? = some (x, sl)) (hk : Stor env x) (hV : VR (avOf env os av₀) s.heap d V) :
    wpAny (model prog w) A (storeName env x V) (fun _ s' => Up s s' ∧ St env B F av₀ (ρ.set i (x, .v d)) os s') (fun _ _ => False) s :=
  wpAny_mono (X.putV' e hk hV) (fun _ _ p => ⟨p.1, p.2.1⟩) fun _ _ e => e
end
end Mine
end
section
open PySem PySem.W PyProof.Rows
set_option linter.unusedVariables false
namespace Mine
section
variable {env : Env} {B : Heap} {F : Fp} {av₀ : List Addr} {ρ : Vs} {os : List Addr} {s : Shared} {prog : Program} {w : World} {k : Nat}

theorem St.F_none {a : Addr} (X : St env B F av₀ ρ os s) (h : s.heap.get? a = none) : F a = none := by
  cases e : F a with
  | none => rfl
  | some o => rw [X.keep a o e] at h; cases h
theorem St.mvNew {s' : Shared} {a : Addr} (X : St env B F av₀ ρ os s) (k : Keeps s s') (ha : s.heap.get? a = none) : Mv (avOf env os av₀) s.heap (avOf env (a :: os) av₀) s'.heap := by
  intro b o _ hb e
  refine ⟨fun hm => ?_, kp k b o e⟩
  have : b ≠ a := by rintro rfl; rw [e] at ha; cases ha
  simp only [avOf, List.mem_cons, List.mem_append] at hm hb
  rcases hm with h | h | (h | h) | h
  · exact hb (.inl h)
  · exact hb (.inr (.inl h))
  · exact this h
  · exact hb (.inr (.inr (.inl h)))
  · exact hb (.inr (.inr (.inr h)))
/-- a new object is taken as one's own -/
theorem St.grow {s' : Shared} {a : Addr} (X : St env B F av₀ ρ os s) (k : Keeps s s') (ha : s.heap.get? a = none) (hA : ∃ o, s'.heap.get? a = some o) : St env B F av₀ ρ (a :: os) s' where
  ok := X.ok
  base := X.base
  keep := fun b o e => kp k b o (X.keep b o e)
  hold := let ⟨o₁, H, x, y⟩ := X.hold; ⟨o₁, H.move (X.mvNew k ha) (fun p _ W q => q.keeps (kp k)) (fun a _ o e => kp k a o e), fun a h => .tail _ (x a h), y⟩
  ns := let ⟨m, h⟩ := X.ns; ⟨m, h.keeps (kp k)⟩
  cells := fun p hp => let ⟨m, h⟩ := X.cells p hp; ⟨m, h.keeps (kp k)⟩
  inj := X.inj
  fresh := fun b hb => by
    simp only [List.mem_cons, List.mem_append] at hb
    rcases hb with h | h | h | h
    · exact X.fresh b (by simp [h])
    · exact X.fresh b (by rw [List.mem_cons, List.mem_append]; exact .inr (.inl h))
    · subst h; exact X.F_none ha
    · exact X.fresh b (by rw [List.mem_cons, List.mem_append]; exact .inr (.inr h))
  old := X.old
  osA := fun b hb => by
    rcases List.mem_cons.mp hb with rfl | hb
    · exact hA
    · obtain ⟨o, e⟩ := X.osA b hb; exact ⟨o, kp k b o e⟩
  ap := fun b hb => by
    rcases List.mem_cons.mp hb with rfl | hb
    · refine ⟨?_, fun p hp => ?_⟩
      · rintro rfl
        obtain ⟨m, n⟩ := X.ns
        obtain ⟨o, e⟩ := Ns.alive n
        rw [e] at ha; cases ha
      · rintro rfl
        obtain ⟨v, q⟩ := X.cells p hp
        obtain ⟨o, e⟩ := IsCell.alive q
        rw [e] at ha; cases ha
    · exact X.ap b hb
  names := X.names

/-- storing a new thing of one's own -/
theorem St.putO {A : Around} {i : Nat} {x : Str} {sl : Sl} {a : Addr} {kk : Ow} {s₀ : Shared} (X₀ : St env B F av₀ ρ os s₀) (kp₀ : Keeps s₀ s) (ha : s₀.heap.get? a = none)
    (e : ρ[i]? = some (x, sl)) (hk : Stor env x) (b : OwR (avOf env (a :: os) av₀) s.heap kk (.ref a) [a]) :
    wpAny (model prog w) A (storeName env x (.ref a)) (fun _ s' => Up s s' ∧ St env B F av₀ (ρ.set i (x, .o kk)) (a :: os) s') (fun _ _ => False) s := by
  have X := X₀.grow kp₀ ha (b.alive a (.head _))
  obtain ⟨o₁, H₀, ho₀, hn⟩ := X₀.hold
  have H := H₀.move (X₀.mvNew kp₀ ha) (fun p _ W q => q.keeps (kp kp₀)) (fun a _ o e => kp kp₀ a o e)
  have ho : ∀ c ∈ o₁, c ∈ a :: os := fun c h => .tail _ (ho₀ c h)
  have hna : a ∉ o₁ := fun hm => by obtain ⟨o, q⟩ := H₀.alive a hm; rw [q] at ha; cases ha
  obtain ⟨m, n⟩ := X.ns
  have fin : ∀ h' c, Heap.SameBut c s.heap h' → c ∈ avOf env (a :: os) av₀ → (∀ d ∈ o₁, d ≠ c) → a ≠ c → (∀ y W, y ≠ x → Has env s.heap y W → Has env h' y W) → Has env h' x (.ref a) →
      ∃ o₂, Hold env (avOf env (a :: os) av₀) h' (ρ.set i (x, .o kk)) o₂ ∧ (∀ d ∈ o₂, d ∈ a :: os) ∧ o₂.Nodup := by
    intro h' c hs hc hoc hac f hx
    have mv : Mv (avOf env (a :: os) av₀) s.heap (avOf env (a :: os) av₀) h' := fun d o _ hd e => ⟨hd, (hs.2 d (by rintro rfl; exact hd hc)).trans e⟩
    obtain ⟨l, as, r, rfl, _, q⟩ := H.store (as' := [a]) X.names e f mv (fun l as r e' _ d hd o e => (hs.2 d (hoc d (by subst e'; simp at hd ⊢; rcases hd with hd | hd <;> simp [hd]))).trans e)
      (.o hx (b.mv mv fun d hd o e => by simp at hd; subst hd; exact (hs.2 d hac).trans e))
    refine ⟨_, q, fun d hd => ?_, ?_⟩
    · simp only [List.mem_append, List.mem_cons, List.not_mem_nil, or_false] at hd
      rcases hd with hd | hd | hd
      · exact ho d (by simp [hd])
      · rw [hd]; exact .head _
      · exact ho d (by simp [hd])
    · have hm := nodup_mid hn
      rw [List.nodup_append] at hm ⊢
      refine ⟨hm.1, ?_, fun x hx y hy => ?_⟩
      · rw [List.singleton_append, List.nodup_cons]
        exact ⟨fun h => hna (by simp [h]), hm.2.1⟩
      · rw [List.singleton_append] at hy
        rcases List.mem_cons.mp hy with hy | hy
        · subst hy; intro hxy; subst hxy; exact hna (List.mem_append_left _ (by assumption))
        · exact hm.2.2 _ (by assumption) y hy
  have hown : ∀ a ∈ o₁, a ≠ env.locals ∧ ∀ p ∈ env.cells, a ≠ p.2 := fun a ha => X.ap a (ho a ha)
  have hoa := X.ap a (.head _)
  rcases hk with hk | ⟨hk, c, hc⟩
  · refine wpAny_storeName_local hk n (fun h' n' hs => ⟨⟨_, _, rfl⟩, X.at1 hs (.head _) ?_ ⟨_, n'⟩ (fun p hp => ?_) (Ns.alive n') ?_⟩) (by rw [X.ok.kind]; rfl)
    · exact fin h' _ hs St.locals_mem (fun a ha => (hown a ha).1) hoa.1 (fun y W hy => Has.stLocal n n' hs hy) (.loc hk n' (if_pos rfl))
    · obtain ⟨v, q⟩ := X.cells p hp
      exact ⟨v, q.sameBut hs (Ne.symm (ns_ne_cell n q))⟩
    · rw [map_set e]; exact X.names
  · obtain ⟨v, q⟩ := X.cells _ (mem_of_lookup hc)
    refine wpAny_storeName_cell X.ok.kind hk hc q fun h' q' hs => ⟨⟨_, _, rfl⟩, X.at1 (tk := s.toks) hs (.tail _ (List.mem_append_left _ (List.mem_map_of_mem (f := (·.2)) (mem_of_lookup hc)))) ?_ ⟨_, n.sameBut hs (ns_ne_cell n q)⟩ (fun p hp => ?_) (IsCell.alive q') ?_⟩
    · exact fin h' _ hs (St.cell_mem hc) (fun a ha => (hown a ha).2 _ (mem_of_lookup hc)) (hoa.2 _ (mem_of_lookup hc)) (fun y W hy => Has.sameBut hs (ns_ne_cell n q) fun d v _ hd => by rintro rfl; exact hy (X.inj _ _ _ hd hc)) (.cell hk hc q')
    · obtain ⟨v', z⟩ := X.cells p hp
      by_cases hpc : p.2 = c
      · rw [hpc]; exact ⟨_, q'⟩
      · exact ⟨v', z.sameBut hs hpc⟩
    · rw [map_set e]; exact X.names

/-- changing a thing of one's own (one address) -/
theorem St.mut {i : Nat} {x : Str} {kk : Ow} (X : St env B F av₀ ρ os s) (e : ρ[i]? = some (x, .o kk)) :
    ∃ V as, Has env s.heap x V ∧ OwR (avOf env os av₀) s.heap kk V as ∧ (∀ a ∈ as, a ∈ os) ∧
      ∀ a, a ∈ as → ∀ h' tk kk', Heap.SameBut a s.heap h' → OwR (avOf env os av₀) h' kk' V as → St env B F av₀ (ρ.set i (x, .o kk')) os { s with heap := h', toks := tk } := by
  obtain ⟨o₁, H, ho, hn⟩ := X.hold
  obtain ⟨m, n⟩ := X.ns
  obtain ⟨l, as, r, rfl, p, q, r'⟩ := H.split e
  cases q with
  | @o _ V _ hx b =>
    refine ⟨V, as, hx, b, fun a ha => ho a (by simp [ha]), fun a ha h' tk kk' hs b' => ?_⟩
    have hoa : a ∈ os := ho a (by simp [ha])
    have hap := X.ap a hoa
    have f : ∀ y W, Has env s.heap y W → Has env h' y W := fun y W => Has.sameBut hs (Ne.symm hap.1) fun d v q hl => Ne.symm (hap.2 _ (mem_of_lookup hl))
    have mv : Mv (avOf env os av₀) s.heap (avOf env os av₀) h' := fun d o _ hd e => ⟨hd, (hs.2 d (by rintro rfl; exact hd (St.os_mem hoa))).trans e⟩
    refine X.at1 hs (.tail _ (List.mem_append_right _ hoa)) ?_ ⟨_, n.sameBut hs (Ne.symm hap.1)⟩ (fun p hp => ?_) (b'.alive a ha) (by rw [map_set e]; exact X.names)
    · obtain ⟨n1, n2⟩ := names_apart X.names e
      have hn₀ := hn
      rw [List.nodup_append] at hn
      obtain ⟨_, hn2, hn3⟩ := hn
      rw [List.nodup_append] at hn2
      refine ⟨l ++ (as ++ r), .join (lt_of_at e) (.move mv (fun p hp W => f _ _) (fun d hd o e => (hs.2 d ?_).trans e) p) (.o (f _ _ hx) b') (.move mv (fun p hp W => f _ _) (fun d hd o e => (hs.2 d ?_).trans e) r'), ho, hn₀⟩
      · exact hn3 d hd a (by simp [ha])
      · exact Ne.symm (hn2.2.2 a ha d hd)
    · obtain ⟨v, z⟩ := X.cells p hp
      exact ⟨v, z.sameBut hs (Ne.symm (hap.2 p hp))⟩

/-- changing a thing of one's own, with new objects beside it -/
theorem St.mutK {i : Nat} {x : Str} {kk : Ow} (X : St env B F av₀ ρ os s) (e : ρ[i]? = some (x, .o kk)) :
    ∃ V as, Has env s.heap x V ∧ OwR (avOf env os av₀) s.heap kk V as ∧ (∀ a ∈ as, a ∈ os) ∧
      ∀ h' tk kk', (∀ b o, b ∉ as → s.heap.get? b = some o → h'.get? b = some o) → OwR (avOf env os av₀) h' kk' V as → St env B F av₀ (ρ.set i (x, .o kk')) os { s with heap := h', toks := tk } := by
  obtain ⟨o₁, H, ho, hn⟩ := X.hold
  obtain ⟨m, n⟩ := X.ns
  obtain ⟨l, as, r, rfl, p, q, r'⟩ := H.split e
  cases q with
  | @o _ V _ hx b =>
    refine ⟨V, as, hx, b, fun a ha => ho a (by simp [ha]), fun h' tk kk' hs b' => ?_⟩
    have hoa : ∀ a ∈ as, a ∈ os := fun a ha => ho a (by simp [ha])
    have hL : env.locals ∉ as := fun h => (X.ap _ (hoa _ h)).1 rfl
    have hC : ∀ p ∈ env.cells, p.2 ∉ as := fun p hp h => (X.ap _ (hoa _ h)).2 p hp rfl
    have f : ∀ y W, Has env s.heap y W → Has env h' y W := fun y W hh => by
      cases hh with
      | loc a b c => exact .loc a (b.at' fun o e => hs _ o hL e) c
      | cell a b c => obtain ⟨o, e, d⟩ := c; exact .cell a b ⟨o, hs _ o (hC _ (mem_of_lookup b)) e, d⟩
      | free a g b c => obtain ⟨o, e, d⟩ := c; exact .free a g b ⟨o, hs _ o (hC _ (mem_of_lookup b)) e, d⟩
    have mv : Mv (avOf env os av₀) s.heap (avOf env os av₀) h' := fun d o _ hd e => ⟨hd, hs d o (fun h => hd (St.os_mem (hoa d h))) e⟩
    obtain ⟨n1, n2⟩ := names_apart X.names e
    have hn₀ := hn
    rw [List.nodup_append] at hn
    obtain ⟨_, hn2, hn3⟩ := hn
    rw [List.nodup_append] at hn2
    refine ⟨X.ok, X.base, fun d o ed => hs d o (fun h => ?_) (X.keep d o ed), ⟨l ++ (as ++ r), .join (lt_of_at e) (.move mv (fun p hp W => f _ _) (fun d hd o e => hs d o (fun h => hn3 d hd d (by simp [h]) rfl) e) p) (.o (f _ _ hx) b') (.move mv (fun p hp W => f _ _) (fun d hd o e => hs d o (fun h => hn2.2.2 d h d hd rfl) e) r'), ho, hn₀⟩,
      ⟨m, n.at' fun o e => hs _ o hL e⟩, fun p hp => ?_, X.inj, X.fresh, X.old, fun d hd => ?_, X.ap, by rw [map_set e]; exact X.names⟩
    · have := X.fresh d (.tail _ (List.mem_append_right _ (hoa d h)))
      rw [this] at ed; cases ed
    · obtain ⟨v, o, e, dd⟩ := X.cells p hp
      exact ⟨v, o, hs _ o (hC p hp) e, dd⟩
    · by_cases h : d ∈ as
      · exact b'.alive d h
      · obtain ⟨o, e⟩ := X.osA d hd; exact ⟨o, hs d o h e⟩
theorem av_filter {a : Addr} (h : a ∈ avOf env (os.filter (· ≠ a)) av₀) (h1 : a ≠ env.locals) (h2 : ∀ p ∈ env.cells, p.2 ≠ a) (h3 : a ∉ av₀) : False := by
  simp only [avOf, List.mem_cons, List.mem_append] at h
  rcases h with h | h | h | h
  · exact h1 h
  · obtain ⟨p, hp, e⟩ := List.mem_map.mp h; exact h2 p hp e
  · have := (List.mem_filter.mp h).2; simp at this
  · exact h3 h
/-- a list of one's own becomes a value -/
theorem St.freeze {i : Nat} {x : Str} {its : List PyData} (X : St env B F av₀ ρ os s) (e : ρ[i]? = some (x, .o (.lst its))) : ∃ os', St env B F av₀ (ρ.set i (x, .v (.list its))) os' s := by
  obtain ⟨o₁, H, ho, hn⟩ := X.hold
  obtain ⟨m, n⟩ := X.ns
  obtain ⟨l, as, r, rfl, p, q, r'⟩ := H.split e
  obtain ⟨n1, n2⟩ := names_apart X.names e
  cases q with
  | @o _ V _ hx b =>
    cases b with
    | @lst a _ Vs b c =>
    have hoa : a ∈ os := ho a (by simp)
    have hap := X.ap a hoa
    have sub : ∀ d, d ∈ avOf env (os.filter (· ≠ a)) av₀ → d ∈ avOf env os av₀ := fun d hd => by
      simp only [avOf, List.mem_cons, List.mem_append, List.mem_filter] at hd ⊢
      rcases hd with h | h | h | h
      · exact .inl h
      · exact .inr (.inl h)
      · exact .inr (.inr (.inl h.1))
      · exact .inr (.inr (.inr h))
    have mv : Mv (avOf env os av₀) s.heap (avOf env (os.filter (· ≠ a)) av₀) s.heap := fun d o _ hd eo => ⟨fun h => hd (sub d h), eo⟩
    have ha₀ : a ∉ av₀ := fun h => by
      obtain ⟨o, eo⟩ := X.old a h
      rw [X.fresh a (.tail _ (List.mem_append_right _ hoa))] at eo; cases eo
    have hna : a ∉ avOf env (os.filter (· ≠ a)) av₀ := fun h => av_filter h hap.1 (fun p hp => Ne.symm (hap.2 p hp)) ha₀
    rw [List.nodup_append] at hn
    obtain ⟨hn1, hn2, hn3⟩ := hn
    rw [List.nodup_append] at hn2
    refine ⟨os.filter (· ≠ a), { X with hold := ⟨l ++ ([] ++ r), .join (lt_of_at e) (.move mv (fun p hp W z => z) (fun _ _ _ eo => eo) p) (.v hx (.listP hna b (c.mv mv))) (.move mv (fun p hp W z => z) (fun _ _ _ eo => eo) r'), fun d hd => ?_, ?_⟩, fresh := fun d hd => X.fresh d ?_, osA := fun d hd => X.osA d (List.mem_filter.mp hd).1, ap := fun d hd => X.ap d (List.mem_filter.mp hd).1, names := by rw [map_set e]; exact X.names }⟩
    · rw [List.mem_filter]
      simp only [List.nil_append, List.mem_append] at hd
      rcases hd with hd | hd
      · exact ⟨ho d (by simp [hd]), by simpa using hn3 d hd a (by simp)⟩
      · exact ⟨ho d (by simp [hd]), by simpa using Ne.symm (hn2.2.2 a (by simp) d hd)⟩
    · rw [List.nil_append, List.nodup_append]
      exact ⟨hn1, hn2.2.1, fun x hx y hy => hn3 x hx y (by simp [hy])⟩
    · simp only [List.mem_cons, List.mem_append, List.mem_filter] at hd ⊢
      rcases hd with h | h | h
      · exact .inl h
      · exact .inr (.inl h)
      · exact .inr (.inr h.1)

inductive Le : Vs → Vs → Prop
  | nil : Le [] []
  | same {p : Str × Sl} {r r' : Vs} : Le r r' → Le (p :: r) (p :: r')
  | drop {x : Str} {sl : Sl} {r r' : Vs} : Le r r' → Le ((x, sl) :: r) ((x, .no) :: r')
theorem Le.refl : ∀ (ρ : Vs), Le ρ ρ
  | [] => .nil
  | p :: r => .same (Le.refl r)
theorem Le.names : ∀ {ρ ρ' : Vs}, Le ρ ρ' → ρ'.map (·.1) = ρ.map (·.1)
  | _, _, .nil => rfl
  | _, _, .same r => by rw [List.map_cons, List.map_cons, r.names]
  | _, _, .drop r => by rw [List.map_cons, List.map_cons, r.names]
theorem Hold.le {av : List Addr} {h : Heap} : ∀ {ρ ρ' : Vs} {o₁ : List Addr}, Le ρ ρ' → Hold env av h ρ o₁ → ∃ o₂, Hold env av h ρ' o₂ ∧ o₂.Sublist o₁
  | _, _, _, .nil, .nil => ⟨[], .nil, .slnil⟩
  | _, _, _, .same r, .cons a b => let ⟨o₂, x, y⟩ := Hold.le r b; ⟨_, .cons a x, (List.Sublist.refl _).append y⟩
  | _, _, _, .drop r, .cons a b => let ⟨o₂, x, y⟩ := Hold.le r b; ⟨[] ++ o₂, .cons .no x, by rw [List.nil_append]; exact y.trans (List.sublist_append_right _ _)⟩
theorem St.le {ρ' : Vs} (X : St env B F av₀ ρ os s) (h : Le ρ ρ') : St env B F av₀ ρ' os s :=
  { X with hold := let ⟨o₁, H, a, b⟩ := X.hold; let ⟨o₂, x, y⟩ := H.le h; ⟨o₂, x, fun d hd => a d (y.subset hd), b.sublist y⟩, names := by rw [h.names]; exact X.names }
theorem St.less {F' : Fp} (X : St env B F' av₀ ρ os s) (h : ∀ b o, F b = some o → F' b = some o) (hb : ∀ b o, B.get? b = some o → F b = some o) (ho : ∀ a ∈ av₀, ∃ o, F a = some o) : St env B F av₀ ρ os s :=
  { X with
    base := hb
    keep := fun b o e => X.keep b o (h b o e)
    fresh := fun a ha => by
      cases e : F a with
      | none => rfl
      | some o => have := h a o e; rw [X.fresh a ha] at this; cases this
    old := ho }
theorem St.ret (X : St env B F av₀ ρ os s) {d : PyData} {V : Value} (h : VR (avOf env os av₀) s.heap d V) : VR av₀ s.heap d V := h.sub fun a ha => by simp [avOf, ha]

inductive Out
  | nx (ρ : Vs)
  | rt (d : PyData)
def Res (env : Env) (B : Heap) (F : Fp) (av₀ : List Addr) : Out → Flow → Shared → Prop
  | .nx ρ, f, s => f = .next ∧ ∃ os, St env B F av₀ ρ os s
  | .rt d, f, s => ∃ V, f = .ret V ∧ VR av₀ s.heap d V ∧ ∀ b o, F b = some o → s.heap.get? b = some o

structure PS (prog : Program) (w : World) (k : Nat) (env : Env) (B : Heap) (ρ : Vs) (ss : List Stmt) (o : Out) : Prop where
  out : ∀ A F av₀ os s, OkA k A → St env B F av₀ ρ os s → wpAny (model prog w) A (execs ss env) (fun f s' => Up s s' ∧ Res env B F av₀ o f s') (fun _ _ => False) s
structure P1 (prog : Program) (w : World) (k : Nat) (env : Env) (B : Heap) (ρ : Vs) (st : Stmt) (o : Out) : Prop where
  out : ∀ A F av₀ os s, OkA k A → St env B F av₀ ρ os s → wpAny (model prog w) A (exec st env) (fun f s' => Up s s' ∧ Res env B F av₀ o f s') (fun _ _ => False) s
/-- what is evaluated is a new thing of one's own -/
structure PN (prog : Program) (w : World) (k : Nat) (env : Env) (B : Heap) (ρ : Vs) (e : Expr) (kk : Ow) : Prop where
  out : ∀ A os av s, OkA k A → R env B ρ os av s → wpAny (model prog w) A (eval e env) (fun V s' => ∃ a, V = .ref a ∧ s.heap.get? a = none ∧ OwR (a :: av) s'.heap kk (.ref a) [a] ∧ Keeps s s') (fun _ _ => False) s

theorem PS.nil : PS prog w k env B ρ [] (.nx ρ) := ⟨fun A F av₀ os s hA X => wpAny_execs_nil ⟨up_refl s, rfl, os, X⟩⟩
theorem PS.cons {st : Stmt} {ss : List Stmt} {ρ₁ : Vs} {o : Out} (h : P1 prog w k env B ρ st (.nx ρ₁)) (h2 : PS prog w k env B ρ₁ ss o) : PS prog w k env B ρ (st :: ss) o := by
  constructor
  intro A F av₀ os s hA X
  refine wpAny_execs_cons (wpAny_mono (h.out A F av₀ os s hA X) (fun f s₁ p => ?_) fun _ _ e => e)
  obtain ⟨u, rfl, os₁, X₁⟩ := p
  exact wpAny_mono (h2.out A F av₀ os₁ s₁ hA X₁) (fun f s₂ q => ⟨up_trans u q.1, q.2⟩) fun _ _ e => e
theorem PS.ret {st : Stmt} {ss : List Stmt} {d : PyData} (h : P1 prog w k env B ρ st (.rt d)) : PS prog w k env B ρ (st :: ss) (.rt d) := by
  constructor
  intro A F av₀ os s hA X
  refine wpAny_execs_cons (wpAny_mono (h.out A F av₀ os s hA X) (fun f s₁ p => ?_) fun _ _ e => e)
  obtain ⟨u, V, rfl, q⟩ := p
  exact ⟨u, V, rfl, q⟩
theorem PS.frz {ss : List Stmt} {o : Out} (i : Nat) {x : Str} {its : List PyData} (e : ρ[i]? = some (x, .o (.lst its))) (h2 : PS prog w k env B (ρ.set i (x, .v (.list its))) ss o) : PS prog w k env B ρ ss o := ⟨fun A F av₀ os s hA X =>
  let ⟨os', X'⟩ := X.freeze e; h2.out A F av₀ os' s hA X'⟩
theorem PS.post {ss : List Stmt} {ρ₁ ρ₂ : Vs} (h2 : PS prog w k env B ρ ss (.nx ρ₁)) (h : Le ρ₁ ρ₂) : PS prog w k env B ρ ss (.nx ρ₂) := ⟨fun A F av₀ os s hA X =>
  wpAny_mono (h2.out A F av₀ os s hA X) (fun f s₁ p => let ⟨u, e, os', X'⟩ := p; ⟨u, e, os', X'.le h⟩) fun _ _ e => e⟩

theorem PE.st {e : Expr} {d : PyData} (h : PE prog w k env B ρ e d) {A : Around} (hA : OkA k A) (X : St env B F av₀ ρ os s) :
    wpAny (model prog w) A (eval e env) (fun V s' => VR (avOf env os av₀) s'.heap d V ∧ Keeps s s') (fun _ _ => False) s := let ⟨_, r, _⟩ := X.R; h.out A _ _ s hA r
theorem PT.st {e : Expr} {d : Bool} (h : PT prog w k env B ρ e d) {A : Around} (hA : OkA k A) (X : St env B F av₀ ρ os s) :
    wpAny (model prog w) A (isTrue e env (eval e env)) (fun b s' => b = d ∧ Keeps s s') (fun _ _ => False) s := let ⟨_, r, _⟩ := X.R; h.out A _ _ s hA r

theorem P1.set (i : Nat) {x : Str} {sl : Sl} {e : Expr} {px pos : Pos} {d : PyData} (he : PE prog w k env B ρ e d) (hi : ρ[i]? = some (x, sl)) (hk : Stor env x) (hs : swapsWith e (some (.Name x px)) pos.line env = pure false := by rfl) :
    P1 prog w k env B ρ (.Assign [.Name x px] e pos) (.nx (ρ.set i (x, .v d))) := by
  constructor
  intro A F av₀ os s hA X
  refine wpAny_Assign_Name (wpAny_mono (he.st hA X) (fun V s₁ p => ?_) fun _ _ e => e) hs
  exact wpAny_mono ((X.keeps p.2).putV hi hk p.1) (fun _ s₂ q => ⟨up_trans (up_kp p.2) q.1, rfl, _, q.2⟩) fun _ _ e => e
theorem P1.own (i : Nat) {x : Str} {sl : Sl} {e : Expr} {px pos : Pos} {kk : Ow} (he : PN prog w k env B ρ e kk) (hi : ρ[i]? = some (x, sl)) (hk : Stor env x) (hs : swapsWith e (some (.Name x px)) pos.line env = pure false := by rfl) :
    P1 prog w k env B ρ (.Assign [.Name x px] e pos) (.nx (ρ.set i (x, .o kk))) := by
  constructor
  intro A F av₀ os s hA X
  obtain ⟨_, r, _⟩ := X.R
  refine wpAny_Assign_Name (wpAny_mono (he.out A _ _ s hA r) (fun V s₁ p => ?_) fun _ _ e => e) hs
  obtain ⟨a, rfl, ha, b, kp⟩ := p
  refine wpAny_mono (X.putO kp ha hi hk (b.mv ?_ fun _ _ _ e => e)) (fun _ s₂ q => ⟨up_trans (up_kp kp) q.1, rfl, _, q.2⟩) fun _ _ e => e
  intro d o _ hd eo
  refine ⟨fun hm => hd ?_, eo⟩
  simp only [avOf, List.mem_cons, List.mem_append] at hm ⊢
  rcases hm with h | h | (h | h) | h
  · exact .inr (.inl h)
  · exact .inr (.inr (.inl h))
  · exact .inl h
  · exact .inr (.inr (.inr (.inl h)))
  · exact .inr (.inr (.inr (.inr h)))
theorem P1.aug (i : Nat) {x : Str} {e : Expr} {px pos : Pos} {op : Operator} {a b d : PyData} (hi : ρ[i]? = some (x, .v a)) (hk : Stor env x) (he : PE prog w k env B ρ e b) (ho : InR prog w k op a b d) :
    P1 prog w k env B ρ (.AugAssign (.Name x px) op e pos) (.nx (ρ.set i (x, .v d))) := by
  constructor
  intro A F av₀ os s hA X
  obtain ⟨_, r, _⟩ := X.R
  obtain ⟨V, hv, hr⟩ := r.hold.at hi
  have hname : ∀ Q : Value → Shared → Prop, Q V s → wpAny (model prog w) A (loadName env x) Q (fun _ _ => False) s := by
    intro Q h
    cases hv with
    | loc a b c => exact wpAny_loadName_local r.ok.kind a b c h
    | cell a b c => exact wpAny_loadName_cell r.ok.kind a b c h
    | free a n b c => exact wpAny_loadName_free r.ok.kind a b c h n
  refine wpAny_AugAssign_Name (hname _ (wpAny_mono (he.st hA X) (fun W s₁ p => ?_) fun _ _ e => e))
  refine wpAny_mono (ho.out A _ s₁ V W hA (X.keeps p.2).avA (hr.keeps (kp p.2)) p.1) (fun Y s₂ q => ?_) fun _ _ e => e
  exact wpAny_mono (((X.keeps p.2).keeps q.2).putV hi hk q.1) (fun _ s₃ z => ⟨up_trans (up_kp p.2) (up_trans (up_kp q.2) z.1), rfl, _, z.2⟩) fun _ _ e => e
theorem P1.ite {t : Expr} {b1 b2 : List Stmt} {pos : Pos} {b : Bool} {o : Out} (ht : PT prog w k env B ρ t b) (h1 : b = true → PS prog w k env B ρ b1 o) (h2 : b = false → PS prog w k env B ρ b2 o) : P1 prog w k env B ρ (.If t b1 b2 pos) o := by
  constructor
  intro A F av₀ os s hA X
  refine wpAny_If (wpAny_mono (ht.st hA X) (fun c s₁ p => ?_) fun _ _ e => e)
  obtain ⟨rfl, p⟩ := p
  cases c with
  | true => exact wpAny_mono ((h1 rfl).out A F av₀ os s₁ hA (X.keeps p)) (fun f s₂ q => ⟨up_trans (up_kp p) q.1, q.2⟩) fun _ _ e => e
  | false => exact wpAny_mono ((h2 rfl).out A F av₀ os s₁ hA (X.keeps p)) (fun f s₂ q => ⟨up_trans (up_kp p) q.1, q.2⟩) fun _ _ e => e
theorem P1.ret {e : Expr} {pos : Pos} {d : PyData} (he : PE prog w k env B ρ e d) : P1 prog w k env B ρ (.Return (some e) pos) (.rt d) := by
  constructor
  intro A F av₀ os s hA X
  refine wpAny_Return_some (wpAny_mono (he.st hA X) (fun V s₁ p => ?_) fun _ _ e => e)
  exact ⟨up_kp p.2, V, rfl, (X.keeps p.2).ret p.1, (X.keeps p.2).keep⟩

inductive Wh {α : Type} (c : α → Bool) (nxt : α → α) : Nat → α → α → Prop
  | stop {a : α} : c a = false → Wh c nxt 0 a a
  | step {a b : α} {n : Nat} : c a = true → Wh c nxt n (nxt a) b → Wh c nxt (n + 1) a b
theorem P1.while {α : Type} (st : α → Vs) (c : α → Bool) (nxt : α → α) (P : α → Prop) {t : Expr} {body : List Stmt} {pos : Pos} {n : Nat} {a b : α} (hw : Wh c nxt n a b) (hP : P a)
    (ht : ∀ a, P a → PT prog w k env B (st a) t (c a)) (hb : ∀ a, P a → c a = true → PS prog w k env B (st a) body (.nx (st (nxt a))) ∧ P (nxt a)) : P1 prog w k env B (st a) (.While t body [] pos) (.nx (st b)) := by
  constructor
  intro A F av₀ os s hA X
  refine wpAny_While (codeAny_whileLoop (fun n s' => ∃ a os', Wh c nxt n a b ∧ P a ∧ Up s s' ∧ St env B F av₀ (st a) os' s') ?_ n ⟨a, os, hw, hP, up_refl s, X⟩)
  rintro n s₁ ⟨a, os', hw, hP, u, X⟩
  refine wpAny_mono ((ht a hP).st hA X) (fun r s₂ p => ?_) fun _ _ e => e.elim
  obtain ⟨rfl, p⟩ := p
  cases hw with
  | stop h =>
    rw [h]
    exact wpAny_execs_nil ⟨up_trans u (up_kp p), rfl, _, X.keeps p⟩
  | @step _ _ n h hw =>
    rw [if_pos h]
    refine wpAny_mono ((hb a hP h).1.out A F av₀ os' s₂ hA (X.keeps p)) (fun f s₃ q => ?_) fun _ _ e => e.elim
    obtain ⟨u', rfl, os₃, X₃⟩ := q
    exact ⟨n, Nat.lt_succ_self n, _, os₃, hw, (hb a hP h).2, up_trans u (up_trans (up_kp p) u'), X₃⟩
end
end Mine
end
section
open PySem PySem.W PyProof.Rows
set_option linter.unusedVariables false
namespace Mine

def Kb (wr : List Addr) (s s' : Shared) : Prop := ∃ h' tk, s' = { s with heap := h', toks := tk } ∧ ∀ b o, b ∉ wr → s.heap.get? b = some o → h'.get? b = some o
theorem kb {wr : List Addr} {s s' : Shared} (x : Kb wr s s') : ∀ b o, b ∉ wr → s.heap.get? b = some o → s'.heap.get? b = some o := by
  obtain ⟨h, t, rfl, k⟩ := x
  exact k
theorem kb_up {wr : List Addr} {s s' : Shared} (x : Kb wr s s') : Up s s' := let ⟨h, t, e, _⟩ := x; ⟨h, t, e⟩

/-- `it` gives under the target, one after the other, values that read as xs -/
structure Src (prog : Program) (w : World) (tgt : Expr) (its : List PyData) (items : List Value) (xs : List PyData) (it : Value) (fp wr : List Addr) (I : Nat → Heap → Prop) : Prop where
  sub : ∀ b ∈ wr, b ∈ fp
  frame : ∀ i h h', I i h → (∀ b ∈ fp, ∀ o, h.get? b = some o → h'.get? b = some o) → I i h'
  alive : ∀ i h, I i h → ∀ b ∈ fp, ∃ o, h.get? b = some o
  shape : ∀ i h, I i h → ∀ b ∈ wr, ∀ o, h.get? b = some o → ¬ Sq o
  item : ∀ A av s i d, A.handled = none → xs[i]? = some d → I i s.heap → VRs av s.heap its items → (∀ a ∈ av, ∃ o, s.heap.get? a = some o) → (∀ b ∈ wr, b ∉ av) →
    wpAny (model prog w) A (pyNext it) (fun r s₁ => ∃ V, r = some V ∧ wpAny (model prog w) A (letOwnedTupleGo tgt it V) (fun _ s₂ => I (i + 1) s₂.heap ∧ VR av s₂.heap d V ∧ Kb wr s s₂) (fun _ _ => False) s₁) (fun _ _ => False) s
  done : ∀ A s, A.handled = none → I xs.length s.heap → wpAny (model prog w) A (pyNext it) (fun r s₁ => r = none ∧ Kb wr s s₁) (fun _ _ => False) s
  self : ∀ A s i, A.handled = none → I i s.heap → wpAny (model prog w) A (pyIter it) (fun V s' => V = it ∧ s' = s) (fun _ _ => False) s

section
variable {env : Env} {B : Heap} {F : Fp} {av₀ : List Addr} {ρ : Vs} {os : List Addr} {s : Shared} {prog : Program} {w : World} {k : Nat}

/-- iterating over what `iter` gives -/
structure PIc (prog : Program) (w : World) (k : Nat) (env : Env) (B : Heap) (ρ : Vs) (tgt iter : Expr) (xs : List PyData) : Prop where
  out : ∀ A os av s, OkA k A → R env B ρ os av s → wpAny (model prog w) A (eval iter env) (fun x s₁ => wpAny (model prog w) A (pyIter x) (fun it s₂ => Keeps s s₂ ∧ ∃ its items fp wr I, Src prog w tgt its items xs it fp wr I ∧ I 0 s₂.heap ∧
    VRs av s₂.heap its items ∧ (∀ b ∈ wr, s.heap.get? b = none) ∧ xs.length ≤ 16777216) (fun _ _ => False) s₁) (fun _ _ => False) s
structure PI (prog : Program) (w : World) (k : Nat) (env : Env) (B : Heap) (ρ : Vs) (tgt iter : Expr) (xs : List PyData) : Prop where
  out : ∀ A os av s, OkA k A → R env B ρ os av s → wpAny (model prog w) A (eval iter env) (fun x s₁ => wpAny (model prog w) A (pyIter x) (fun it s₂ => Keeps s s₂ ∧ ∃ its items fp wr I, Src prog w tgt its items xs it fp wr I ∧ I 0 s₂.heap ∧
    VRs av s₂.heap its items ∧ (∀ b ∈ wr, s.heap.get? b = none) ∧ xs.length ≤ 16777216 ∧ ∀ b ∈ fp, b ∉ av) (fun _ _ => False) s₁) (fun _ _ => False) s
theorem PI.c {tgt iter : Expr} {xs : List PyData} (h : PI prog w k env B ρ tgt iter xs) : PIc prog w k env B ρ tgt iter xs := ⟨fun A os av s hA r =>
  wpAny_mono (h.out A os av s hA r) (fun x s₁ p => wpAny_mono p (fun it s₂ q => let ⟨a, its, items, fp, wr, I, b, c, d, e, f, g⟩ := q; ⟨a, its, items, fp, wr, I, b, c, d, e, f⟩) fun _ _ e => e) fun _ _ e => e⟩

structure Tg (prog : Program) (w : World) (env : Env) (B : Heap) (tgt : Expr) (d : PyData) (ρ ρ' : Vs) : Prop where
  out : ∀ A F av₀ os s V, A.handled = none → St env B F av₀ ρ os s → VR (avOf env os av₀) s.heap d V → wpAny (model prog w) A (assign tgt env V) (fun _ s' => Up s s' ∧ St env B F av₀ ρ' os s') (fun _ _ => False) s

theorem Tg.name (i : Nat) {x : Str} {px : Pos} {d : PyData} {sl : Sl} (hi : ρ[i]? = some (x, sl)) (hk : Stor env x) : Tg prog w env B (.Name x px) d ρ (ρ.set i (x, .v d)) := ⟨fun A F av₀ os s V hA X hV =>
  wpAny_assign_Name (X.putV hi hk hV)⟩
theorem Tg.pair (i j : Nat) {x y : Str} {px py pt : Pos} {z} {d e : PyData} {sl sl' : Sl} (hi : ρ[i]? = some (x, sl)) (hk : Stor env x) (hj : (ρ.set i (x, .v d))[j]? = some (y, sl')) (hk' : Stor env y) :
    Tg prog w env B (.Tuple [.Name x px, .Name y py] z pt) (.tuple [d, e]) ρ ((ρ.set i (x, .v d)).set j (y, .v e)) := by
  constructor
  intro A F av₀ os s V hA X hV
  obtain ⟨a, vs, n, rfl, ha, hg, hv⟩ := hV.tuple_inv
  obtain ⟨V1, Vs', e1, r1, h2⟩ := hv.cons_inv
  obtain ⟨V2, Vs'', rfl, r2, h3⟩ := h2.cons_inv
  rw [h3.nil_inv] at e1
  refine wpAny_assign_Tuple hA (isTuple_of hg) (by rw [← Array.length_toList, e1]; rfl) rfl fun h' hk₁ => ?_
  have kk : Keeps s { s with heap := h' } := ⟨h', s.toks, rfl, fun b o eb => hk₁ b o (by rintro rfl; exact absurd (Heap.lt_size eb) (Nat.lt_irrefl _)) eb⟩
  rw [e1]
  refine wpAny_assignInOrder_more (wpAny_mono (wpAny_assign_Name ((X.keeps kk).putV' hi hk (r1.keeps (kp kk)))) (fun _ s₁ p => ?_) fun _ _ e => e)
  refine wpAny_assignInOrder_more (wpAny_mono (wpAny_assign_Name (p.2.1.putV hj hk' ((r2.keeps (kp kk)).pres p.2.2))) (fun _ s₂ q => ?_) fun _ _ e => e)
  exact wpAny_assignInOrder_none ⟨up_trans (up_kp kk) (up_trans p.1 q.1), q.2⟩

theorem mem_md {a : Addr} (h : a ∈ env.locals :: (env.cells.map (·.2) ++ os)) : a ∈ avOf env os av₀ := by
  simp only [avOf, List.mem_cons, List.mem_append] at h ⊢
  rcases h with h | h | h
  · exact .inl h
  · exact .inr (.inl h)
  · exact .inr (.inr (.inl h))
theorem av_md {a : Addr} (h : a ∈ avOf env os av₀) : a ∈ env.locals :: (env.cells.map (·.2) ++ os) ∨ a ∈ av₀ := by
  simp only [avOf, List.mem_cons, List.mem_append] at h ⊢
  rcases h with h | h | h | h
  · exact .inl (.inl h)
  · exact .inl (.inr (.inl h))
  · exact .inl (.inr (.inr h))
  · exact .inr h
/-- the iterator's own objects change -/
theorem St.step {s' : Shared} {wr : List Addr} (X : St env B F av₀ ρ os s) (k : Kb wr s s') (hF : ∀ b ∈ wr, ∃ o, F b = some o) (hB : ∀ b ∈ wr, B.get? b = none) (hsh : ∀ b ∈ wr, ∀ o, s.heap.get? b = some o → ¬ Sq o) (ho : ∀ a ∈ av₀, a ∉ wr) :
    St env B (fun b => if b ∈ wr then s'.heap.get? b else F b) av₀ ρ os s' := by
  have hmd : ∀ a ∈ env.locals :: (env.cells.map (·.2) ++ os), a ∉ wr := fun a ha hw => by
    obtain ⟨o, e⟩ := hF a hw
    rw [X.fresh a ha] at e; cases e
  have hmc : ∀ p ∈ env.cells, p.2 ∉ wr := fun p hp => hmd _ (.tail _ (List.mem_append_left _ (List.mem_map_of_mem (f := (·.2)) hp)))
  have hL : env.locals ∉ wr := hmd _ (.head _)
  obtain ⟨o₁, H, ho₁, hn⟩ := X.hold
  refine ⟨X.ok, fun b o e => ?_, fun b o e => ?_, ⟨o₁, H.move (fun a o hs ha e => ⟨ha, kb k a o (fun hw => hsh a hw o e hs) e⟩) (fun p hp W q => ?_) (fun a ha o e => kb k a o (hmd a (.tail _ (List.mem_append_right _ (ho₁ a ha)))) e) , ho₁, hn⟩, ?_, fun p hp => ?_, X.inj, fun a ha => ?_, fun a ha => ?_, fun a ha => ?_, X.ap, X.names⟩
  · have hbw : b ∉ wr := fun hw => by rw [hB b hw] at e; cases e
    rw [if_neg hbw]; exact X.base b o e
  · by_cases hw : b ∈ wr
    · rw [if_pos hw] at e; exact e
    · rw [if_neg hw] at e; exact kb k b o hw (X.keep b o e)
  · cases q with
    | loc a b c => exact .loc a (b.at' fun o e => kb k _ o hL e) c
    | cell a b c =>
      refine .cell a b ?_
      obtain ⟨o, e, d⟩ := c
      exact ⟨o, kb k _ o (hmc _ (mem_of_lookup b)) e, d⟩
    | free a f b c =>
      refine .free a f b ?_
      obtain ⟨o, e, d⟩ := c
      exact ⟨o, kb k _ o (hmc _ (mem_of_lookup b)) e, d⟩
  · obtain ⟨m, n⟩ := X.ns
    exact ⟨m, n.at' fun o e => kb k _ o hL e⟩
  · obtain ⟨v, o, e, d⟩ := X.cells p hp
    exact ⟨v, o, kb k _ o (hmc p hp) e, d⟩
  · rw [if_neg (hmd a ha)]; exact X.fresh a ha
  · obtain ⟨o, e⟩ := X.old a ha
    exact ⟨o, by rw [if_neg (ho a ha)]; exact e⟩
  · obtain ⟨o, e⟩ := X.osA a ha
    exact ⟨o, kb k _ o (hmd a (.tail _ (List.mem_append_right _ ha))) e⟩
/-- the state as what is kept -/
theorem St.seal (X : St env B F av₀ ρ os s) : St env B (fun b => if b ∈ env.locals :: (env.cells.map (·.2) ++ os) then none else s.heap.get? b) av₀ ρ os s :=
  { X with
    base := fun b o e => by
      have := X.base b o e
      rw [if_neg (fun h => by rw [X.fresh b h] at this; cases this)]; exact X.keep b o this
    keep := fun b o e => by
      by_cases h : b ∈ env.locals :: (env.cells.map (·.2) ++ os)
      · rw [if_pos h] at e; cases e
      · rw [if_neg h] at e; exact e
    fresh := fun a ha => by rw [if_pos ha]
    old := fun a ha => by
      obtain ⟨o, e⟩ := X.old a ha
      refine ⟨o, ?_⟩
      rw [if_neg (fun h => by rw [X.fresh a h] at e; cases e)]; exact X.keep a o e }

theorem P1.for (st : Nat → Vs) {tgt iter : Expr} {body : List Stmt} {pos : Pos} {xs : List PyData} (hi : PI prog w k env B (st 0) tgt iter xs)
    (hb : ∀ i d, xs[i]? = some d → ∃ ρ₁, Tg prog w env B tgt d (st i) ρ₁ ∧ PS prog w k env B ρ₁ body (.nx (st (i + 1)))) (hs : ∀ x, foldedSetIterable iter env x = pure x := by intro _; rfl) :
    P1 prog w k env B (st 0) (.For tgt iter body [] pos) (.nx (st xs.length)) := by
  constructor
  intro A F av₀ os s hA X
  obtain ⟨o₁, r, ho₁⟩ := X.R
  refine wpAny_For (wpAny_mono (hi.out A _ _ s hA r) (fun x s₁ p => wpAny_mono p (fun it s₂ q => ?_) fun _ _ e => e) fun _ _ e => e) hs
  obtain ⟨k₂, its, items, fp, wr, I, S, h0, hv, hwr, hlen, hfp⟩ := q
  have hwrF : ∀ b ∈ wr, F b = none := fun b hb => X.F_none (hwr b hb)
  have hwB : ∀ b ∈ wr, B.get? b = none := fun b hb => by
    cases e : B.get? b with
    | none => rfl
    | some o => have := X.base b o e; rw [hwrF b hb] at this; cases this
  have hw0 : ∀ a ∈ av₀, a ∉ wr := fun a ha hw => by
    obtain ⟨o, e⟩ := X.old a ha
    rw [hwrF a hw] at e; cases e
  let G : Fp := fun b => if b ∈ wr then none else if b ∈ env.locals :: (env.cells.map (·.2) ++ os) then none else s₂.heap.get? b
  have hFG : ∀ b o, F b = some o → G b = some o := fun b o e => by
    have h1 : b ∉ wr := fun hw => by rw [hwrF b hw] at e; cases e
    have h2 : b ∉ env.locals :: (env.cells.map (·.2) ++ os) := fun hw => by rw [X.fresh b hw] at e; cases e
    show (if b ∈ wr then none else if b ∈ env.locals :: (env.cells.map (·.2) ++ os) then none else s₂.heap.get? b) = some o
    rw [if_neg h1, if_neg h2]; exact kp k₂ b o (X.keep b o e)
  have hfpG : ∀ b ∈ fp, b ∉ wr → ∃ o, G b = some o := fun b hbf hbw => by
    obtain ⟨o, e⟩ := S.alive 0 _ h0 b hbf
    refine ⟨o, ?_⟩
    show (if b ∈ wr then none else if b ∈ env.locals :: (env.cells.map (·.2) ++ os) then none else s₂.heap.get? b) = some o
    rw [if_neg hbw, if_neg (fun h => hfp b hbf (mem_md h))]; exact e
  have rd : ∀ (Fi : Fp) (os' : List Addr) (s' : Shared) ρ', (∀ b o, G b = some o → Fi b = some o) → St env B Fi av₀ ρ' os' s' → VRs (avOf env os' av₀) s'.heap its items := by
    intro Fi os' s' ρ' hG X'
    refine hv.mv fun a o hsq ha e => ?_
    have hGa : G a = some o := by
      show (if a ∈ wr then none else if a ∈ env.locals :: (env.cells.map (·.2) ++ os) then none else s₂.heap.get? a) = some o
      rw [if_neg (fun hw => S.shape 0 _ h0 a hw o e hsq), if_neg (fun h => ha (mem_md h))]; exact e
    refine ⟨fun hm => ?_, X'.keep a o (hG a o hGa)⟩
    rcases av_md hm with h | h
    · have := hG a o hGa; rw [X'.fresh a h] at this; cases this
    · exact ha (by simp [avOf, h])
  have X₂ := X.keeps k₂
  refine codeAny_forLoop_any (fun n s' => ∃ i os' Fi, n = xs.length - i ∧ i ≤ xs.length ∧ Up s s' ∧ (∀ b o, G b = some o → Fi b = some o) ∧ (∀ b ∈ wr, ∃ o, Fi b = some o) ∧ I i s'.heap ∧ St env B Fi av₀ (st i) os' s') ?_ xs.length
    ⟨0, os, _, rfl, Nat.zero_le _, up_kp k₂, ?_, ?_, h0, X₂.seal⟩
  · rintro n s' ⟨i, os', Fi, rfl, hi, u, hG, hwF, hI, X'⟩
    have hsh : ∀ b ∈ wr, ∀ o, s'.heap.get? b = some o → ¬ Sq o := S.shape i _ hI
    have hwav : ∀ b ∈ wr, b ∉ avOf env os' av₀ := fun b hb hm => by
      rcases av_md hm with h | h
      · obtain ⟨o, e⟩ := hwF b hb; rw [X'.fresh b h] at e; cases e
      · exact hw0 b h hb
    rcases Nat.lt_or_ge i xs.length with hlt | hge
    · have hd := List.getElem?_eq_getElem hlt
      refine wpAny_mono (S.item A (avOf env os' av₀) s' i _ hA.hh hd hI (rd Fi os' s' _ hG X') X'.avA hwav) (fun rr s₃ p => ?_) fun _ _ e => e.elim
      obtain ⟨V, rfl, p⟩ := p
      refine wpAny_mono p (fun _ s₄ q => ?_) fun _ _ e => e.elim
      obtain ⟨hI', hV, hk⟩ := q
      obtain ⟨ρ₁, T, P⟩ := hb i _ hd
      have X₄ := X'.step hk hwF hwB hsh hw0
      refine wpAny_mono (T.out A _ av₀ os' s₄ V hA.hh X₄ hV) (fun _ s₅ z => ?_) fun _ _ e => e.elim
      refine wpAny_mono (P.out A _ av₀ os' s₅ hA z.2) (fun f s₆ y => ?_) fun _ _ e => e.elim
      obtain ⟨u₆, rfl, os₆, X₆⟩ := y
      refine ⟨xs.length - (i + 1), by omega, i + 1, os₆, _, rfl, hlt, up_trans u (up_trans (kb_up hk) (up_trans z.1 u₆)), fun b o e => ?_, fun b hbw => ?_, S.frame _ _ _ hI' fun b hbf o e => X₆.keep b o ?_, X₆⟩
      · have hbw : b ∉ wr := fun hw => by
          have : (if b ∈ wr then none else if b ∈ env.locals :: (env.cells.map (·.2) ++ os) then none else s₂.heap.get? b) = some o := e
          rw [if_pos hw] at this; cases this
        rw [if_neg hbw]; exact hG b o e
      · obtain ⟨o, e⟩ := S.alive _ _ hI' b (S.sub b hbw)
        exact ⟨o, by rw [if_pos hbw]; exact e⟩
      · by_cases hbw : b ∈ wr
        · rw [if_pos hbw]; exact e
        · rw [if_neg hbw]
          obtain ⟨o', e'⟩ := hfpG b hbf hbw
          have h1 := hG b o' e'
          have h2 := kb hk b o' hbw (X'.keep b o' h1)
          rw [e] at h2; cases h2; exact h1
    · have : i = xs.length := Nat.le_antisymm hi hge
      subst this
      refine wpAny_mono (S.done A s' hA.hh hI) (fun rr s₃ p => ?_) fun _ _ e => e.elim
      obtain ⟨rfl, hk⟩ := p
      have X₄ := X'.step hk hwF hwB hsh hw0
      refine wpAny_execs_nil ⟨up_trans u (kb_up hk), rfl, os', X₄.less (fun b o e => ?_) X.base X.old⟩
      have hbw : b ∉ wr := fun hw => by rw [hwrF b hw] at e; cases e
      rw [if_neg hbw]; exact hG b o (hFG b o e)
  · intro b o e
    have e' : (if b ∈ wr then none else if b ∈ env.locals :: (env.cells.map (·.2) ++ os) then none else s₂.heap.get? b) = some o := e
    by_cases hw : b ∈ wr
    · rw [if_pos hw] at e'; cases e'
    · rw [if_neg hw] at e'; exact e'
  · intro b hbw
    obtain ⟨o, e⟩ := S.alive 0 _ h0 b (S.sub b hbw)
    refine ⟨o, ?_⟩
    show (if b ∈ env.locals :: (env.cells.map (·.2) ++ os) then none else s₂.heap.get? b) = some o
    rw [if_neg (fun h => hfp b (S.sub b hbw) (mem_md h))]; exact e
end
end Mine
end
section
open PySem PySem.W PyProof.Rows
set_option linter.unusedVariables false
namespace Mine
section
variable {env : Env} {B : Heap} {F : Fp} {av₀ : List Addr} {ρ : Vs} {os : List Addr} {s : Shared} {prog : Program} {w : World} {k : Nat}

def BG (B : Heap) (x : Str) (V : Value) : Prop := ∃ mg, B.Ns mainGlobals mg ∧ mg x = some V
def BI (B : Heap) (x : Str) (V : Value) : Prop := ∃ mg mb, B.Ns mainGlobals mg ∧ mg x = none ∧ B.Ns builtinsNs mb ∧ mb x = some V
theorem wpAny_NameG {A : Around} {E : Value → Shared → Prop} {x : Str} {pos : Pos} {V : Value} {Q : Value → Shared → Prop} (ok : EnvOk env) (hk : env.kindOf x = some .globalImplicit) (g : BG B x V) (hb : ∀ b o, B.get? b = some o → s.heap.get? b = some o) (h : Q V s)
    (hd : (x == ("__debug__" : Str)) = false := by decide) : wpAny (model prog w) A (eval (.Name x pos) env) Q E s := by
  obtain ⟨mg, n, e⟩ := g
  exact Calls.Name_function_global ok.kind hk (Calls.loadGlobal_global (by rw [ok.glob]; exact n.keeps hb) e h) hd
theorem wpAny_NameB {A : Around} {E : Value → Shared → Prop} {x : Str} {pos : Pos} {V : Value} {Q : Value → Shared → Prop} (ok : EnvOk env) (hk : env.kindOf x = some .globalImplicit) (g : BI B x V) (hb : ∀ b o, B.get? b = some o → s.heap.get? b = some o) (h : Q V s)
    (hd : (x == ("__debug__" : Str)) = false := by decide) : wpAny (model prog w) A (eval (.Name x pos) env) Q E s := by
  obtain ⟨mg, mb, n, e, n', e'⟩ := g
  exact Calls.Name_function_global ok.kind hk (Calls.loadGlobal_builtin (by rw [ok.glob]; exact n.keeps hb) e (by rw [ok.blt]; exact n'.keeps hb) e' h) hd

def isStar : Expr → Bool
  | .Starred .. => true
  | _ => false
theorem star_eq {e : Expr} {es : List Expr} (h : isStar e = false) : starEach (e :: es) env = (false, eval e env) :: starEach es env := by
  cases e <;> first | rfl | cases h
theorem star_one {e : Expr} (h : isStar e = false) : starEach [e] env = [(false, eval e env)] := star_eq h
theorem noStar_any : ∀ {es : List Expr} {pos : Pos}, es.all (fun e => !isStar e) = true → (backTo pos (starEach es env)).any (·.1) = false
  | [], _, _ => rfl
  | e :: es, pos, h => by
    rw [List.all_cons, Bool.and_eq_true] at h
    have h1 : isStar e = false := by simpa using h.1
    rw [star_eq h1]
    show (false || (backTo pos (starEach es env)).any (·.1)) = false
    rw [noStar_any h.2]; rfl
theorem back_one {e : Expr} {pos : Pos} (h : isStar e = false) : backTo pos (starEach [e] env) = [(false, eval e env)] := by rw [star_one h]; rfl
theorem back_two {e f : Expr} {pos : Pos} (h : isStar e = false) (h' : isStar f = false) : backTo pos (starEach [e, f] env) = [(false, eval e env), (false, eval f env)] := by rw [star_eq h, star_one h']; rfl
theorem few_one {e : Expr} {cpos : Pos} (h : isStar e = false) : ((backTo cpos (starEach [e] env)).all (fun x => !x.1) && (backToKw cpos (keywordEach [] env)).all (fun x => x.1.isSome) && decide (([e] : List Expr).length + ([] : List Keyword).length + (if ([] : List Keyword).isEmpty then 0 else 1) < 30)) = true := by
  rw [back_one h]; rfl
theorem few_two {e f : Expr} {cpos : Pos} (h : isStar e = false) (h' : isStar f = false) : ((backTo cpos (starEach [e, f] env)).all (fun x => !x.1) && (backToKw cpos (keywordEach [] env)).all (fun x => x.1.isSome) && decide (([e, f] : List Expr).length + ([] : List Keyword).length + (if ([] : List Keyword).isEmpty then 0 else 1) < 30)) = true := by
  rw [back_two h h']; rfl
theorem call_name {x : Str} {px pos : Pos} {es : List Expr} : eval (.Call (.Name x px) es [] pos) env = (do callWith pos (← eval (.Name x px) env) [] (backTo pos (starEach es env)) (backToKw pos (keywordEach [] env))) := rfl

/-- arguments or items, from the left -/
structure PAs (prog : Program) (w : World) (k : Nat) (env : Env) (B : Heap) (ρ : Vs) (es : List Expr) (ds : List PyData) : Prop where
  out : ∀ A os av s pos, OkA k A → R env B ρ os av s → wpAny (model prog w) A (spliced (backTo pos (starEach es env))) (fun vs s' => VRs av s'.heap ds vs ∧ Keeps s s') (fun _ _ => False) s
theorem PAs.nil : PAs prog w k env B ρ [] [] := ⟨fun A os av s pos hA r => args_nil ⟨.nil, kp_refl s⟩⟩
theorem PAs.cons {e : Expr} {es : List Expr} {d : PyData} {ds : List PyData} (h : PE prog w k env B ρ e d) (hs : PAs prog w k env B ρ es ds)
    (he : isStar e = false := by rfl) : PAs prog w k env B ρ (e :: es) (d :: ds) := by
  constructor
  intro A os av s pos hA r
  refine args_cons (wpAny_mono (h.out A os av s hA r) (fun V s₁ p => wpAny_mono (hs.out A os av s₁ pos hA (r.keeps p.2)) (fun vs s₂ q => ?_) fun _ _ e => e) fun _ _ e => e) (star_eq he)
  exact ⟨.cons (p.1.keeps (kp q.2)) q.1, kp_trans p.2 q.2⟩
structure CallR (prog : Program) (w : World) (k : Nat) (B : Heap) (f : Value) (ds : List PyData) (d : PyData) : Prop where
  out : ∀ A av s Vs, OkA k A → (∀ b o, B.get? b = some o → s.heap.get? b = some o) → (∀ a ∈ av, ∃ o, s.heap.get? a = some o) → VRs av s.heap ds Vs → wpAny (model prog w) A (call f Vs) (fun V s' => VR av s'.heap d V ∧ Keeps s s') (fun _ _ => False) s
theorem PE.callB {x : Str} {id : String} {px pos : Pos} {e : Expr} {es : List Expr} {ds : List PyData} {d : PyData} (g : BI B x (.builtin id)) (hk : env.kindOf x = some .globalImplicit) (ha : PAs prog w k env B ρ (e :: es) ds) (hc : CallR prog w k B (.builtin id) ds d)
    (he : isStar e = false := by rfl) (hp : es.all (fun e => !isStar e) = true := by rfl) (hd : (x == ("__debug__" : Str)) = false := by decide) :
    PE prog w k env B ρ (.Call (.Name x px) (e :: es) [] pos) d := by
  constructor
  intro A os av s hA r
  refine Call_ (wpAny_NameB r.ok hk g r.base (callWith_builtin1 (wpAny_mono (ha.out A os av s pos hA r) (fun vs s₁ p => ?_) fun _ _ e => e) (star_eq he) (noStar_any hp)) hd) call_name
  exact wpAny_mono (hc.out A av s₁ vs hA (r.keeps p.2).base (r.keeps p.2).alive p.1) (fun V s₂ q => ⟨q.1, kp_trans p.2 q.2⟩) fun _ _ e => e
/-- a plain def of the text -/
structure Fn (B : Heap) (x : Str) (f : Addr) (params : Arguments) (body : List Stmt) (scope : Scope) : Prop where
  g : BG B x (.ref f)
  o : ∃ o pm cd doc, B.get? f = some o ∧ o.data = .func (Calls.docDef x params body scope pm cd doc) ∧ B.CodeRec cd x
  lim : B.NoLimit
theorem PE.callF {x : Str} {f : Addr} {params : Arguments} {body : List Stmt} {scope : Scope} {px pos : Pos} {e : Expr} {es : List Expr} {ds : List PyData} {d : PyData} (g : Fn B x f params body scope) (hk : env.kindOf x = some .globalImplicit) (ha : PAs prog w k env B ρ (e :: es) ds) (hc : CallR prog w k B (.ref f) ds d)
    (he : isStar e = false := by rfl) (hd : (x == ("__debug__" : Str)) = false := by decide) :
    PE prog w k env B ρ (.Call (.Name x px) (e :: es) [] pos) d := by
  constructor
  intro A os av s hA r
  obtain ⟨o, pm, cd, doc, ho, hdat, _⟩ := g.o
  refine Call_ (wpAny_NameG r.ok hk g.g r.base (callWith_def hdat (wpAny_mono (ha.out A os av s pos hA r) (fun vs s₁ p => ?_) fun _ _ e => e) (star_eq he)) hd) call_name
  exact ⟨(r.keeps p.2).base _ _ ho, wpAny_mono (hc.out A av s₁ vs hA (r.keeps p.2).base (r.keeps p.2).alive p.1) (fun V s₂ q => ⟨q.1, kp_trans p.2 q.2⟩) fun _ _ e => e⟩

theorem sz24 {n : Nat} (h : n ≤ 16777216) : n ≤ sizeLine := h
theorem PE.list {es : List Expr} {pos : Pos} {ds : List PyData} (h : PAs prog w k env B ρ es ds) (hn : ds.length ≤ 16777216 := by exact Nat.le_of_ble_eq_true (by rfl)) : PE prog w k env B ρ (.List es pos) (.list ds) := by
  constructor
  intro A os av s hA r
  refine wpAny_List (wpAny_mono (h.out A os av s pos hA r) (fun vs s₁ p => ⟨sz24 (by rw [p.1.length]; exact hn), ?_, ?_⟩) fun _ _ e => e)
  · exact .newList (r.keeps p.2).alive (by simpa using p.1)
  · exact kp_trans p.2 (kp_push _ _)
theorem PE.tuple {es : List Expr} {z : Nat} {pos : Pos} {ds : List PyData} (h : PAs prog w k env B ρ es ds) (hn : ds.length ≤ 16777216 := by exact Nat.le_of_ble_eq_true (by rfl)) : PE prog w k env B ρ (.Tuple es z pos) (.tuple ds) := by
  constructor
  intro A os av s hA r
  refine wpAny_Tuple (wpAny_mono (h.out A os av s pos hA r) (fun vs s₁ p => ⟨sz24 (by rw [p.1.length]; exact hn), ?_, ?_⟩) fun _ _ e => e)
  · exact .newTuple (r.keeps p.2).alive (by simpa using p.1)
  · exact kp_trans p.2 (kp_push _ _)
theorem VRs.grow {av : List Addr} {h h' : Heap} {a : Addr} {ds : List PyData} {Vs : List Value} (y : VRs av h ds Vs) (ha : h.get? a = none) (kk : ∀ b o, h.get? b = some o → h'.get? b = some o) : VRs (a :: av) h' ds Vs :=
  (y.more (fun b hb => by rcases List.mem_cons.mp hb with rfl | hb; exact .inr ha; exact .inl hb)).keeps kk
theorem kp_none {s s' : Shared} {a : Addr} (x : Keeps s s') (h : s'.heap.get? a = none) : s.heap.get? a = none := by
  cases e : s.heap.get? a with
  | none => rfl
  | some o => rw [kp x a o e] at h; cases h
theorem PN.list {es : List Expr} {pos : Pos} {ds : List PyData} (h : PAs prog w k env B ρ es ds) (hn : ds.length ≤ 16777216 := by exact Nat.le_of_ble_eq_true (by rfl)) : PN prog w k env B ρ (.List es pos) (.lst ds) := by
  constructor
  intro A os av s hA r
  refine wpAny_List (wpAny_mono (h.out A os av s pos hA r) (fun vs s₁ p => ⟨sz24 (by rw [p.1.length]; exact hn), _, rfl, kp_none p.2 (next_none _), ?_, kp_trans p.2 (kp_push _ _)⟩) fun _ _ e => e)
  exact .lst (Vs := vs) ⟨0, Heap.get?_push_size _ rfl⟩ (p.1.grow (next_none _) fun _ _ e => Heap.get?_push_of_some _ e)

structure IxR (prog : Program) (w : World) (k : Nat) (o i d : PyData) : Prop where
  out : ∀ A av s V W, OkA k A → (∀ a ∈ av, ∃ o, s.heap.get? a = some o) → VR av s.heap o V → VR av s.heap i W → ItemOn (model prog w) A (fun _ _ => False) V W (fun X s' => VR av s'.heap d X ∧ Keeps s s') s
theorem wpAny_sub {A : Around} {E : Value → Shared → Prop} {value slice : Expr} {o i : Value} {Q : Value → Shared → Prop} (h : ItemOn (model prog w) A E o i Q s)
    (hs : subscripted slice false o i = operate [o, i] (getItem o i) ∨ subscripted slice false o i = operate [i, o] (getItem o i)) : wpAny (model prog w) A (subscriptTail value slice o i) Q E s := by
  obtain ⟨T, id, hl, hT, h⟩ := h
  unfold subscriptTail
  refine wpAny_bind ?_
  rw [getitemInPython_of_ne hT.not_modules]
  refine wpAny_bind (wpAny_specialOf hT hl ?_)
  have fin : wpAny (model prog w) A (subscripted slice false o i) (fun r s₃ => wpAny (model prog w) A (letTemporaryGo value o r >>= fun _ => pure r) Q E s₃) E s := by
    rcases hs with hs | hs <;> rw [hs] <;> exact wpAny_operating (wpAny_mono h (fun r s₃ h₃ => wpAny_bind (wpAny_letTemporaryGo (wpAny_pure h₃))) fun _ _ x => x)
  first
    | exact wpAny_pure (wpAny_bind fin)
    | exact wpAny_bind (wpAny_pure (wpAny_bind fin))
    | exact wpAny_bind fin
theorem PE.sub {value slice : Expr} {pos : Pos} {o i d : PyData} (hv : PE prog w k env B ρ value o) (hi : PE prog w k env B ρ slice i) (ho : IxR prog w k o i d)
    (hs : ∀ o i, subscripted slice false o i = operate [o, i] (getItem o i) := by intro _ _; rfl) : PE prog w k env B ρ (.Subscript value slice pos) d := by
  constructor
  intro A os av s hA r
  refine Subscript_ (wpAny_mono (hv.out A os av s hA r) (fun V s₁ p => wpAny_mono (hi.out A os av s₁ hA (r.keeps p.2)) (fun W s₂ q => ?_) fun _ _ e => e) fun _ _ e => e)
  refine wpAny_mono (wpAny_sub (ho.out A av s₂ V W hA ((r.keeps p.2).keeps q.2).alive (p.1.keeps (kp q.2)) q.1) (.inl (hs _ _))) (fun X s₃ z => ⟨z.1, kp_trans p.2 (kp_trans q.2 z.2)⟩) fun _ _ e => e

theorem toList_at {vs : Array Value} {j : Nat} : vs.toList[j]? = vs[j]? := by rw [Array.getElem?_toList]
theorem IxR.list {ds : List PyData} {i : Int} {d : PyData} (h0 : 0 ≤ i) (h1 : i < 2 ^ 63) (hd : ds[i.toNat]? = some d) : IxR prog w k (.list ds) (.int i) d := by
  constructor
  intro A av s V W hA hal x y
  obtain ⟨a, vs, n, rfl, ha, e, hv⟩ := x.list_inv
  obtain ⟨t, rfl⟩ := y.int_inv
  obtain ⟨X, hX, hr⟩ := hv.get hd
  exact ⟨"list", _, list_getitem_lookup, (isList_of e).typeIs, wpAny_getItem_list (isList_of e) h0 h1 (by rw [← toList_at]; exact hX) ⟨hr, kp_refl s⟩⟩
theorem IxR.tuple {ds : List PyData} {i : Int} {d : PyData} (h0 : 0 ≤ i) (h1 : i < 2 ^ 63) (hd : ds[i.toNat]? = some d) : IxR prog w k (.tuple ds) (.int i) d := by
  constructor
  intro A av s V W hA hal x y
  obtain ⟨a, vs, n, rfl, ha, e, hv⟩ := x.tuple_inv
  obtain ⟨t, rfl⟩ := y.int_inv
  obtain ⟨X, hX, hr⟩ := hv.get hd
  refine ⟨"tuple", _, slot_tuple_getitem.lookup, (isTuple_of e).typeIs, P.getItem_tuple (n := n) (k := i.toNat) e (by omega) h1 ?_ (by rw [← toList_at]; exact hX) ⟨hr, kp_refl s⟩⟩
  have hlt : i.toNat < vs.size := by
    have := lt_of_at hX
    simpa using this
  unfold seqIndex?
  have h2 : ¬ i < 0 := by omega
  simp only [if_neg h2]
  rw [if_pos]
  simp; omega
theorem IxR.str {x : Str} {i : Int} {y : Str} (hr : fitsSsize i = true) (hin : (Txt.charAt x i).isSome = true) (hy : Txt.item x i = y) : IxR prog w k (.str x) (.int i) (.str y) := by
  constructor
  intro A av s V W hA hal p q
  obtain ⟨t, rfl⟩ := p.str_inv
  obtain ⟨u, rfl⟩ := q.int_inv
  exact SB.item hr hin ⟨hy ▸ .str, kp_tok s _⟩
end
end Mine
end
section
open PySem PySem.W PyProof.Rows
set_option linter.unusedVariables false
namespace Mine
section
variable {env : Env} {B : Heap} {F : Fp} {av₀ : List Addr} {ρ : Vs} {os : List Addr} {s : Shared} {prog : Program} {w : World} {k : Nat}

/-- the items of a slice -/
def sl {α : Type} (l : List α) (lo hi : Option Int) : List α := (sliceRange (sliceBounds lo hi none l.length).1 (sliceBounds lo hi none l.length).2.1 (sliceBounds lo hi none l.length).2.2).filterMap (l[·]?)
theorem VRs.pick {av : List Addr} {h : Heap} {ds : List PyData} {Vs : List Value} (y : VRs av h ds Vs) : ∀ (l : List Nat), VRs av h (l.filterMap (ds[·]?)) (l.filterMap (Vs[·]?))
  | [] => .nil
  | i :: l => by
    rw [List.filterMap_cons, List.filterMap_cons]
    cases e : ds[i]? with
    | none =>
      have : Vs[i]? = none := by
        rw [List.getElem?_eq_none_iff] at e ⊢
        rw [y.length]; exact e
      rw [this]; exact y.pick l
    | some d =>
      obtain ⟨V, hV, hr⟩ := y.get e
      rw [hV]; exact .cons hr (y.pick l)
structure PPt (prog : Program) (w : World) (k : Nat) (env : Env) (B : Heap) (ρ : Vs) (e : Option Expr) (p : Option Int) : Prop where
  out : ∀ A os av s, OkA k A → R env B ρ os av s → wpAny (model prog w) A (evalPart e env) (fun V s' => IsPart V p ∧ Keeps s s') (fun _ _ => False) s
theorem PPt.nil : PPt prog w k env B ρ none none := ⟨fun A os av s hA r => wpAny_pure ⟨.none, kp_refl s⟩⟩
theorem PPt.int {e : Expr} {i : Int} (h : PE prog w k env B ρ e (.int i)) : PPt prog w k env B ρ (some e) (some i) := ⟨fun A os av s hA r =>
  evalPart_some_step (wpAny_mono (h.out A os av s hA r) (fun V s₁ p => by obtain ⟨t, rfl⟩ := p.1.int_inv; exact ⟨.int i t, p.2⟩) fun _ _ e => e)⟩
theorem PPt.no {e : Expr} (h : PE prog w k env B ρ e .none) : PPt prog w k env B ρ (some e) none := ⟨fun A os av s hA r =>
  evalPart_some_step (wpAny_mono (h.out A os av s hA r) (fun V s₁ p => by obtain rfl := p.1.none_inv; exact ⟨.none, p.2⟩) fun _ _ e => e)⟩
theorem PE.slL {value : Expr} {lo hi : Option Expr} {p pos : Pos} {ds : List PyData} {a b : Option Int} (hv : PE prog w k env B ρ value (.list ds)) (hl : PPt prog w k env B ρ lo a) (hh : PPt prog w k env B ρ hi b) (hn : ds.length ≤ 16777216) :
    PE prog w k env B ρ (.Subscript value (.Slice lo hi none p) pos) (.list (sl ds a b)) := by
  constructor
  intro A os av s hA r
  refine Subscript_ (wpAny_mono (hv.out A os av s hA r) (fun V s₁ p => wpAny_Slice (wpAny_mono (hl.out A os av s₁ hA (r.keeps p.2)) (fun W s₂ q => wpAny_mono (hh.out A os av s₂ hA ((r.keeps p.2).keeps q.2)) (fun X s₃ z => wpAny_pure ?_) fun _ _ e => e) fun _ _ e => e)) fun _ _ e => e)
  have k₃ := kp_trans p.2 (kp_trans q.2 z.2)
  obtain ⟨l, vs, n, rfl, ha, e, hvs⟩ := (p.1.keeps (kp (kp_trans q.2 z.2))).list_inv
  have r₃ := r.keeps k₃
  have hsz : vs.size = ds.length := by rw [← Array.length_toList, hvs.length]
  refine wpAny_sub ⟨"list", _, list_getitem_lookup, ((isList_of e).push _).typeIs, wpAny_getItem_list_slice ((isList_of e).push _) (Heap.IsSliceOf.new ..) q.1 z.1 .none (by simp) ?_ (by rw [hsz]; exact hn)⟩ (.inr rfl)
  have kk : Keeps s₃ { s₃ with heap := s₃.heap.push { cls := .type "slice", data := .fields #[W, X, .none] } } := kp_push _ _
  refine ⟨.newList (r₃.keeps kk).alive ?_, kp_trans k₃ (kp_trans kk (kp_push _ _))⟩
  have := (hvs.keeps (kp kk)).pick (sliceRange (sliceBounds a b none ds.length).1 (sliceBounds a b none ds.length).2.1 (sliceBounds a b none ds.length).2.2)
  unfold sl slicePick
  rw [hsz]
  simpa using this
theorem part_out {V : Value} {p : Option Int} (h : IsPart V p) : ∃ l : Option (Int × Tok), V = partValue l ∧ l.map (·.1) = p := by
  cases h with
  | none => exact ⟨none, rfl, rfl⟩
  | int i t => exact ⟨some (i, t), rfl, rfl⟩
theorem slicePicked_map {x : Str} {l u : Option (Int × Tok)} : slicePicked x l u none = Builtin.Str.strSliceIndices (l.map (·.1)) (u.map (·.1)) 1 x.length := rfl
theorem PE.slS {value : Expr} {lo hi : Option Expr} {p pos : Pos} {x : Str} {a b : Option Int} (hv : PE prog w k env B ρ value (.str x)) (hl : PPt prog w k env B ρ lo a) (hh : PPt prog w k env B ρ hi b) (hn : x.length ≤ 16777216) :
    PE prog w k env B ρ (.Subscript value (.Slice lo hi none p) pos) (.str (Txt.slice x a b)) := by
  constructor
  intro A os av s hA r
  refine Subscript_ (wpAny_mono (hv.out A os av s hA r) (fun V s₁ p => wpAny_Slice (wpAny_mono (hl.out A os av s₁ hA (r.keeps p.2)) (fun W s₂ q => wpAny_mono (hh.out A os av s₂ hA ((r.keeps p.2).keeps q.2)) (fun X s₃ z => wpAny_pure ?_) fun _ _ e => e) fun _ _ e => e)) fun _ _ e => e)
  have k₃ := kp_trans p.2 (kp_trans q.2 z.2)
  obtain ⟨t, rfl⟩ := p.1.str_inv
  have r₃ := r.keeps k₃
  obtain ⟨l, rfl, rfl⟩ := part_out q.1
  obtain ⟨u, rfl, rfl⟩ := part_out z.1
  have kk : Keeps s₃ { s₃ with heap := s₃.heap.push { cls := .type "slice", data := .fields #[partValue l, partValue u, .none] } } := kp_push _ _
  refine wpAny_sub ⟨"str", _, F.slot_str_getitem.lookup, typeIs_str _ _ _, wpAny_getItem_str_slice (l := l) (u := u) (st := none) ⟨_, Heap.get?_push_size _ rfl, rfl, rfl⟩ rfl ?_⟩ (.inr rfl)
  unfold sliceMade
  have hle := Txt.slice_le x (l.map (·.1)) (u.map (·.1))
  unfold Txt.slice at hle ⊢
  rw [← slicePicked_map] at hle ⊢
  by_cases hc : ((1 : Int) == 1 && (slicePicked x l u none).length == x.length) = true
  · rw [if_pos hc] at hle ⊢
    have : (Option.getD (Option.map (·.1) (none : Option (Int × Tok))) 1 == 1 && (slicePicked x l u none).length == x.length) = true := hc
    rw [if_pos this]
    exact ⟨.str, kp_trans k₃ kk⟩
  · rw [if_neg hc] at hle ⊢
    have : ¬ (Option.getD (Option.map (·.1) (none : Option (Int × Tok))) 1 == 1 && (slicePicked x l u none).length == x.length) = true := hc
    rw [if_neg this]
    exact ⟨Nat.le_trans hle hn, .str, kp_trans k₃ (kp_trans kk (kp_tok _ _))⟩

-- calls of the language's own functions
theorem VRs.one {av : List Addr} {h : Heap} {d : PyData} {Vs : List Value} (y : VRs av h [d] Vs) : ∃ V, Vs = [V] ∧ VR av h d V := by
  obtain ⟨V, Vs', rfl, r, q⟩ := y.cons_inv
  exact ⟨V, by rw [q.nil_inv], r⟩
theorem VRs.two {av : List Addr} {h : Heap} {d e : PyData} {Vs : List Value} (y : VRs av h [d, e] Vs) : ∃ V W, Vs = [V, W] ∧ VR av h d V ∧ VR av h e W := by
  obtain ⟨V, Vs', rfl, r, q⟩ := y.cons_inv
  obtain ⟨W, e1, q'⟩ := q.one
  subst e1
  exact ⟨V, W, rfl, r, q'⟩
theorem VRs.ints {av : List Addr} {h : Heap} : ∀ {ns : List Int} {Vs : List Value}, VRs av h (ns.map .int) Vs → IntsAre Vs ns
  | [], _, y => by rw [y.nil_inv]; exact .nil
  | n :: ns, _, y => by
    obtain ⟨V, Vs', rfl, r, q⟩ := VRs.cons_inv (d := .int n) (ds := ns.map .int) y
    obtain ⟨t, rfl⟩ := r.int_inv
    exact .cons n t q.ints
theorem VRs.of_ints {av : List Addr} {h : Heap} : ∀ {ns : List Int} {Vs : List Value}, IntsAre Vs ns → VRs av h (ns.map .int) Vs
  | _, _, .nil => .nil
  | _, _, .cons n t r => .cons .int (VRs.of_ints r)
theorem CallR.lenL {ds : List PyData} (hn : ds.length ≤ 16777216) : CallR prog w k B (.builtin "len") [.list ds] (.int ds.length) := by
  constructor
  intro A av s Vs hA hB hal y
  obtain ⟨V, rfl, x⟩ := y.one
  obtain ⟨a, vs, n, rfl, ha, e, hv⟩ := x.list_inv
  have hsz : vs.size = ds.length := by rw [← Array.length_toList, hv.length]
  exact Calls.call_len_list (isList_of e) (by rw [hsz]; omega) ⟨by rw [hsz]; exact .int, kp_tok s _⟩
theorem CallR.lenS {x : Str} (hn : x.length ≤ 16777216) : CallR prog w k B (.builtin "len") [.str x] (.int x.length) := by
  constructor
  intro A av s Vs hA hB hal y
  obtain ⟨V, rfl, x⟩ := y.one
  obtain ⟨t, rfl⟩ := x.str_inv
  exact P.len_str (by omega) ⟨.int, kp_tok s _⟩
theorem kp_mk {h' : Heap} {tk : Nat} (k : ∀ b o, s.heap.get? b = some o → h'.get? b = some o) : Keeps s { s with heap := h', toks := tk } := ⟨h', tk, rfl, k⟩
theorem CallR.min2 {a b : Int} : CallR prog w k B (.builtin "min") [.int a, .int b] (.int (if b < a then b else a)) := by
  constructor
  intro A av s Vs hA hB hal y
  obtain ⟨V, W, rfl, x, z⟩ := y.two
  obtain ⟨t, rfl⟩ := x.int_inv
  obtain ⟨u, rfl⟩ := z.int_inv
  refine min_two_ints hA.hh fun h' tk kk => ⟨?_, kp_mk kk⟩
  by_cases h : b < a
  · rw [if_pos h, if_pos h]; exact .int
  · rw [if_neg h, if_neg h]; exact .int
theorem CallR.max2 {a b : Int} : CallR prog w k B (.builtin "max") [.int a, .int b] (.int (if b > a then b else a)) := by
  constructor
  intro A av s Vs hA hB hal y
  obtain ⟨V, W, rfl, x, z⟩ := y.two
  obtain ⟨t, rfl⟩ := x.int_inv
  obtain ⟨u, rfl⟩ := z.int_inv
  refine max_two_ints hA.hh fun h' tk kk => ⟨?_, kp_mk kk⟩
  by_cases h : b > a
  · rw [if_pos h, if_pos h]; exact .int
  · rw [if_neg h, if_neg h]; exact .int
end
end Mine
end
section
open PySem PySem.W PyProof.Rows
set_option linter.unusedVariables false
namespace Mine
section
variable {env : Env} {B : Heap} {F : Fp} {av₀ : List Addr} {ρ : Vs} {os : List Addr} {s : Shared} {prog : Program} {w : World} {k : Nat}

theorem Src.ofWalks {tgt : Expr} {its : List PyData} {items : List Value} {xs : List PyData} {I : Addr} {fp wr : List Addr} {P : Nat → Value → Prop} {St : Nat → Heap → Prop}
    (W : ∀ A, A.handled = none → Walks prog w A I fp wr xs.length P St) (al : ∀ i h, St i h → ∀ b ∈ fp, ∃ o, h.get? b = some o) (sh : ∀ i h, St i h → ∀ b ∈ wr, ∀ o, h.get? b = some o → ¬ Sq o)
    (hP : ∀ i v d av h, P i v → xs[i]? = some d → VRs av h its items → VR av h d v)
    (go : ∀ A s i V d (Q : Unit → Shared → Prop), xs[i]? = some d → VR [] s.heap d V → St (i + 1) s.heap → Q () s → wpAny (model prog w) A (letOwnedTupleGo tgt (.ref I) V) Q (fun _ _ => False) s) :
    Src prog w tgt its items xs (.ref I) fp wr St where
  sub := (W callerA rfl).sub
  frame := (W callerA rfl).frame
  alive := al
  shape := sh
  item := fun A av s i d hA hd hst hv hal hwr => by
    refine (W A hA).item i s _ _ (lt_of_at hd) hst fun v h' tk hp hst' hk => ⟨v, rfl, ?_⟩
    have hvr : VR av h' d v := by
      have h1 := hP i v d (wr ++ av) s.heap hp hd (hv.mv fun a o hs ha e => ⟨fun hm => ?_, e⟩)
      · refine h1.mv fun a o hs ha e => ⟨fun hm => ha (List.mem_append_right _ hm), hk a o (fun hm => ha (List.mem_append_left _ hm)) e⟩
      · rcases List.mem_append.mp hm with h | h
        · exact sh i _ hst a h o e hs
        · exact ha h
    exact go A _ i v d _ hd (hvr.sub (fun a ha => by simp at ha)) hst' ⟨hst', hvr, h', tk, rfl, hk⟩
  done := fun A s hA hst => (W A hA).done s _ _ hst fun h' tk hk => ⟨rfl, h', tk, rfl, hk⟩
  self := fun A s i hA hst => (W A hA).self i s _ _ hst ⟨rfl, rfl⟩

/-- a target that unpacks is given tuples only -/
def TgOk (tgt : Expr) (xs : List PyData) : Prop := (∀ it v, letOwnedTupleGo tgt it v = pure ()) ∨ ∃ elts z pt, tgt = .Tuple elts z pt ∧ ∀ d ∈ xs, ∃ ds, d = .tuple ds
theorem TgOk.name {x : Str} {px : Pos} {xs : List PyData} : TgOk (.Name x px) xs := .inl fun _ _ => rfl

theorem PI.list {tgt iter : Expr} {xs : List PyData} (hv : PE prog w k env B ρ iter (.list xs)) (hn : xs.length ≤ 16777216) (ht : TgOk tgt xs) : PI prog w k env B ρ tgt iter xs := by
  constructor
  intro A os av s hA r
  refine wpAny_mono (hv.out A os av s hA r) (fun V s₁ p => ?_) fun _ _ e => e
  obtain ⟨a, vs, n, rfl, ha, e, hvs⟩ := p.1.list_inv
  have r₁ := r.keeps p.2
  have hsz : vs.size = xs.length := by rw [← Array.length_toList, hvs.length]
  have hne : a ≠ s₁.heap.objs.size := fun h => by rw [h, next_none] at e; cases e
  refine wpAny_pyIter_list (isList_of e) ⟨kp_trans p.2 (kp_push _ _), xs, vs.toList, [s₁.heap.objs.size, a], [s₁.heap.objs.size], fun i h => h.IsListIter s₁.heap.objs.size a i ∧ h.IsList a vs,
    Src.ofWalks (P := fun i v => vs[i]? = some v) (fun A hA => hsz ▸ Walks.list hA s₁.heap.objs.size a hne vs) (fun i h st b hb => ?_) (fun i h st b hb o ho hs => ?_) (fun i v d av h hp hd hv => ?_) (fun A s i V d Q hd hV st hQ => ?_), ⟨⟨_, Heap.get?_push_size _ rfl, rfl, rfl⟩, (isList_of e).push _⟩, hvs.keeps (fun _ _ e => Heap.get?_push_of_some _ e), fun b hb => ?_, hn, fun b hb => ?_⟩
  · simp only [List.mem_cons, List.not_mem_nil, or_false] at hb
    rcases hb with rfl | rfl
    · obtain ⟨⟨o, h1, _⟩, _⟩ := st; exact ⟨o, h1⟩
    · obtain ⟨_, ⟨o, h1, _⟩⟩ := st; exact ⟨o, h1⟩
  · simp only [List.mem_cons, List.not_mem_nil, or_false] at hb
    subst hb
    obtain ⟨⟨o', h1, h2, h3⟩, _⟩ := st
    rw [ho] at h1; cases h1
    obtain ⟨vs', n', h4 | h4⟩ := hs <;> rw [h4] at h3 <;> cases h3
  · obtain ⟨V, h1, h2⟩ := hv.get hd
    rw [toList_at, hp] at h1; cases h1; exact h2
  · rcases ht with ht | ⟨elts, z, pt, rfl, ht⟩
    · exact wpAny_of_eq (ht _ _) hQ
    · obtain ⟨ds, rfl⟩ := ht d (mem_of_at hd)
      obtain ⟨T, _, _, rfl, _⟩ := hV.tuple_inv
      exact wpAny_letOwnedTupleGo_listiter st.1 hQ
  · simp only [List.mem_cons, List.not_mem_nil, or_false] at hb
    subst hb; exact kp_none p.2 (next_none _)
  · simp only [List.mem_cons, List.not_mem_nil, or_false] at hb
    rcases hb with rfl | rfl
    · exact not_alive r₁.alive (next_none _)
    · exact ha
/-- the numbers of range(a, b) -/
def rng (a : Int) (n : Nat) : List PyData := (List.range n).map fun (i : Nat) => .int (a + i)
theorem rng_len {a : Int} {n : Nat} : (rng a n).length = n := by simp [rng]
theorem rng_at {a : Int} {n i : Nat} {d : PyData} (h : (rng a n)[i]? = some d) : d = .int (a + i) ∧ i < n := by
  have hl := lt_of_at h
  rw [rng_len] at hl
  simp [rng, hl] at h
  exact ⟨h.symm, hl⟩
theorem PI.ofRange {x : Str} {px : Pos} {a b : Int} {t u v : Tok} {n : Nat} {s₁ : Shared} {A : Around} {av : List Addr} {I0 : Addr} (k₁ : Keeps s s₁) (hal : ∀ a ∈ av, ∃ o, s₁.heap.get? a = some o) (hr : IsRange s₁.heap I0 a b 1 t u v) (ha : -(2 ^ 62) ≤ a) (ha' : a < 2 ^ 62) (hb : -(2 ^ 62) ≤ b) (hb' : b < 2 ^ 62) (hn : n = (b - a).toNat) (hn' : n ≤ 16777216) :
    wpAny (model prog w) A (pyIter (.ref I0)) (fun it s₂ => Keeps s s₂ ∧ ∃ its items fp wr I, Src prog w (.Name x px) its items (rng a n) it fp wr I ∧ I 0 s₂.heap ∧
    VRs av s₂.heap its items ∧ (∀ b ∈ wr, s.heap.get? b = none) ∧ (rng a n).length ≤ 16777216 ∧ ∀ b ∈ fp, b ∉ av) (fun _ _ => False) s₁ := by
  refine wpAny_pyIter_range hr (small_one ha ha' hb hb') ⟨kp_trans k₁ (kp_push _ _), [], [], [s₁.heap.objs.size], [s₁.heap.objs.size], fun i h => IsRangeIter h s₁.heap.objs.size (a + (i : Nat) * 1) ((n : Int) - (i : Nat)) 1,
    Src.ofWalks (P := fun i v => ∃ t, v = .int (a + i * 1) t) (fun A hA => by rw [rng_len]; exact Walks.range hA s₁.heap.objs.size a 1 n) (fun i h st b hb => ?_) (fun i h st b hb o ho hs => ?_) (fun i v d av h hp hd hv => ?_) (fun A s i V d Q hd hV st hQ => wpAny_pure hQ), ?_, .nil, fun b hb => ?_, by rw [rng_len]; exact hn', fun b hb => ?_⟩
  · simp only [List.mem_cons, List.not_mem_nil, or_false] at hb
    subst hb; exact ⟨_, st⟩
  · simp only [List.mem_cons, List.not_mem_nil, or_false] at hb
    subst hb
    rw [st] at ho; cases ho
    obtain ⟨vs', n', h4 | h4⟩ := hs
    · exact absurd (Value.type.inj (congrArg Obj.cls h4)) (by decide)
    · exact absurd (Value.type.inj (congrArg Obj.cls h4)) (by decide)
  · obtain ⟨t, rfl⟩ := hp
    obtain ⟨rfl, _⟩ := rng_at hd
    rw [Int.mul_one]; exact .int
  · have e : Builtin.Range.rangeSize a b 1 = (n : Int) := by
      unfold Builtin.Range.rangeSize
      rw [if_pos (by decide)]
      split <;> omega
    show IsRangeIter _ _ _ _ _
    rw [e]
    simp only [Int.zero_mul, Int.add_zero, Int.sub_zero, Int.cast_ofNat_Int]
    exact Heap.get?_push_size _ rfl
  · simp only [List.mem_cons, List.not_mem_nil, or_false] at hb
    subst hb; exact kp_none k₁ (next_none _)
  · simp only [List.mem_cons, List.not_mem_nil, or_false] at hb
    subst hb; exact not_alive hal (next_none _)
theorem PI.range1 {x y : Str} {px py pos : Pos} {e : Expr} {b : Int} {n : Nat} (g : BI B y (.type "range")) (hk : env.kindOf y = some .globalImplicit) (he : PE prog w k env B ρ e (.int b)) (hb : -(2 ^ 62) ≤ b) (hb' : b < 2 ^ 62) (hn : n = b.toNat) (hn' : n ≤ 16777216)
    (hs : isStar e = false := by rfl) (hd : (y == ("__debug__" : Str)) = false := by decide) :
    PI prog w k env B ρ (.Name x px) (.Call (.Name y py) [e] [] pos) (rng 0 n) := by
  constructor
  intro A os av s hA r
  refine Call_ (wpAny_NameB r.ok hk g r.base (PyProof.Rows.callWith_type1 (wpAny_mono ((PAs.cons he .nil hs).out A os av s pos hA r) (fun vs s₁ p => ?_) fun _ _ e => e) (star_one hs)) hd) call_name
  obtain ⟨V, rfl, q⟩ := p.1.one
  obtain ⟨t, rfl⟩ := q.int_inv
  have r₁ := r.keeps p.2
  have kk : Keeps s₁ { s₁ with heap := s₁.heap.push { cls := .type "range", data := .fields #[.int 0 s₁.toks, .int b t, .int 1 (s₁.toks + 1)] }, toks := s₁.toks + 1 + 1 } := kp_mk fun b' o e => Heap.get?_push_of_some _ e
  exact call_range_1 (PI.ofRange (kp_trans p.2 kk) (r₁.keeps kk).alive (IsRange.new ..) (by decide) (by decide) hb hb' (by rw [Int.sub_zero]; exact hn) hn')
theorem PI.range2 {x y : Str} {px py pos : Pos} {e f : Expr} {a b : Int} {n : Nat} (g : BI B y (.type "range")) (hk : env.kindOf y = some .globalImplicit) (he : PE prog w k env B ρ e (.int a)) (hf : PE prog w k env B ρ f (.int b)) (ha : -(2 ^ 62) ≤ a) (ha' : a < 2 ^ 62) (hb : -(2 ^ 62) ≤ b) (hb' : b < 2 ^ 62) (hn : n = (b - a).toNat) (hn' : n ≤ 16777216)
    (hs : isStar e = false := by rfl) (hs2 : isStar f = false := by rfl) (hd : (y == ("__debug__" : Str)) = false := by decide) :
    PI prog w k env B ρ (.Name x px) (.Call (.Name y py) [e, f] [] pos) (rng a n) := by
  constructor
  intro A os av s hA r
  refine Call_ (wpAny_NameB r.ok hk g r.base (PyProof.Rows.callWith_type1 (wpAny_mono ((PAs.cons he (.cons hf .nil hs2) hs).out A os av s pos hA r) (fun vs s₁ p => ?_) fun _ _ e => e) (star_eq hs) (noStar_any (by rw [List.all_cons, hs2]; rfl))) hd) call_name
  obtain ⟨V, W, rfl, q, z⟩ := p.1.two
  obtain ⟨t, rfl⟩ := q.int_inv
  obtain ⟨u, rfl⟩ := z.int_inv
  have r₁ := r.keeps p.2
  have kk : Keeps s₁ { s₁ with heap := s₁.heap.push { cls := .type "range", data := .fields #[.int a t, .int b u, .int 1 s₁.toks] }, toks := s₁.toks + 1 } := kp_mk fun b' o e => Heap.get?_push_of_some _ e
  exact call_range_2 (PI.ofRange (kp_trans p.2 kk) (r₁.keeps kk).alive (IsRange.new ..) ha ha' hb hb' hn hn')
end
end Mine
end
section
open PySem PySem.W PyProof.Rows
set_option linter.unusedVariables false
namespace Mine
section
variable {env : Env} {B : Heap} {F : Fp} {av₀ : List Addr} {ρ : Vs} {os : List Addr} {s : Shared} {prog : Program} {w : World} {k : Nat}

abbrev No : Value → Shared → Prop := fun _ _ => False
/-- the tests of a comprehension, as the loop asks them -/
abbrev tests (ifs : List Expr) (env : Env) : Sem Bool := forIn ifs true fun c r => if r = true then do let ok ← isTrue c env (eval c env); pure (ForInStep.yield ok) else pure (ForInStep.yield r)
theorem comp_loop {A : Around} {elt target iter : Expr} {ifs : List Expr} {scope : Scope} {pos : Pos} {it acc : Value} {R : Result → Shared → Prop} (I : Nat → Shared → Prop)
    (turn : ∀ n s, I n s → wpAny (model prog w) A (pyNext it) (fun r s₁ => match r with
      | none => R (.ok .next) s₁
      | some v => wpAny (model prog w) A (letOwnedTupleGo target it v) (fun _ s₂ => wpAny (model prog w) A (assign target env v) (fun _ s₃ => wpAny (model prog w) A (tests ifs env) (fun ok s₄ =>
          if ok = true then wpAny (model prog w) A (eval elt env) (fun x s₅ => wpAny (model prog w) A (call (.builtin "list.append") [acc, x]) (fun _ s₆ => ∃ m, m < n ∧ I m s₆) No s₅) No s₄
          else ∃ m, m < n ∧ I m s₄) No s₃) No s₂) No s₁) No s)
    (n : Nat) (h : I n s) : codeAny (model prog w) A (.compLoop (.ListComp elt [⟨target, iter, ifs, 0⟩] scope pos) 0 it acc env) R s := by
  refine codeAny_loop rfl I (fun n s hI => ?_) n h
  show wpAny _ A ((compTurn (.ListComp elt [⟨target, iter, ifs, 0⟩] scope pos) 0 it acc env).onRaise (fun x => do noteFrame x env; theTreesLotGoes x)) _ _ s
  refine wpAny_noted ?_
  rw [compTurn_list]
  refine wpAny_bind (wpAny_standAt (wpAny_bind (wpAny_mono (turn n s hI) (fun r s₁ h₁ => ?_) fun _ _ h' => h'.elim)))
  cases r with
  | none => exact wpAny_pure h₁
  | some v =>
    refine wpAny_bind (wpAny_mono h₁ (fun _ s₂ h₂ => wpAny_bind (wpAny_mono h₂ (fun _ s₃ h₃ => wpAny_bind (wpAny_mono h₃ (fun ok s₄ h₄ => ?_) fun _ _ h' => h'.elim)) fun _ _ h' => h'.elim)) fun _ _ h' => h'.elim)
    cases ok with
    | false => exact wpAny_pure ⟨rfl, h₄⟩
    | true => exact wpAny_bind (wpAny_bind (wpAny_mono h₄ (fun x s₅ h₅ => wpAny_bind (wpAny_mono h₅ (fun _ s₆ h₆ => wpAny_pure (wpAny_pure ⟨rfl, h₆⟩)) fun _ _ h' => h'.elim)) fun _ _ h' => h'.elim))

/-- the comprehension's own frame -/
def cEnv (scope : Scope) (cl : List (Str × Addr)) (C : Addr) (env : Env) : Env :=
  { scope := relabel scope env, locals := C, globals := env.globals, cells := cellsFrom (C + 1) scope.names cl, qual := env.qual, func := none, code := env.code, frame := env.frame, builtins := env.builtins }
theorem newEnv_comp {M : Model} {A : Around} {E : Value → Shared → Prop} {scope : Scope} {cl : List (Str × Addr)} {outer : Env} {Q : Env → Shared → Prop}
    (h : Q (newEnv scope s.heap.objs.size outer.globals (cellsFrom (s.heap.objs.size + 1) scope.names cl) outer.qual none .none (some outer) builtinsNs) { s with heap := pushCells (s.heap.push { cls := .type "dict", data := .dict #[] }) scope.names }) :
    wpAny M A (newFunctionEnv scope outer.globals cl [] outer.qual none .none (some outer)) Q E s := by
  simp only [newFunctionEnv, Option.isSome_some, if_true]
  refine wpAny_bind (wpAny_alloc ?_)
  refine wpAny_bind (wpAny_layCells _ (fun name kind cells => by cases hkc : kind == NameKind.cell <;> simp [hkc]) _ _ _ _ ?_)
  rw [show ({ s with heap := s.heap.push { cls := .type "dict", data := .dict #[] } } : Shared).heap.objs.size = s.heap.objs.size + 1 from Heap.size_push ..]
  exact wpAny_bind (wpAny_pure (wpAny_pure h))

/-- the comprehension's frame as it stands: its names, its own cells -/
structure CS (cenv : Env) (md : List Addr) (h : Heap) : Prop where
  ns : ∃ m, h.Ns cenv.locals m
  cells : ∀ c ∈ md, c ≠ cenv.locals → ∃ v, h.IsCell c v
structure CTg (prog : Program) (w : World) (cenv : Env) (md : List Addr) (tgt : Expr) (d : PyData) (ρ ρ' : Vs) : Prop where
  out : ∀ A av s V, A.handled = none → CS cenv md s.heap → (∀ a ∈ md, a ∈ av) → Hold cenv av s.heap ρ [] → VR av s.heap d V →
    wpAny (model prog w) A (assign tgt cenv V) (fun _ s' => Up s s' ∧ (∀ b o, b ∉ md → s.heap.get? b = some o → s'.heap.get? b = some o) ∧ CS cenv md s'.heap ∧ Hold cenv av s'.heap ρ' []) No s
theorem nil_app {l as r : List Addr} (h : [] = l ++ (as ++ r)) : l = [] ∧ as = [] ∧ r = [] := by
  have := List.append_eq_nil_iff.mp h.symm
  exact ⟨this.1, List.append_eq_nil_iff.mp this.2⟩
theorem Hold.put0 {cenv : Env} {av : List Addr} {h h' : Heap} {ρ : Vs} {i : Nat} {x : Str} {sl : Sl} {d : PyData} {V : Value} (H : Hold cenv av h ρ []) (n : (ρ.map (·.1)).Nodup) (e : ρ[i]? = some (x, sl)) (f : ∀ y W, y ≠ x → Has cenv h y W → Has cenv h' y W) (mv : Mv av h av h') (hx : Has cenv h' x V) (hV : VR av h d V) :
    Hold cenv av h' (ρ.set i (x, .v d)) [] := by
  obtain ⟨l, as, r, e', _, q⟩ := H.store (as' := []) n e f mv (fun l as r e' _ a ha => by obtain ⟨rfl, _, rfl⟩ := nil_app e'; simp at ha) (.v hx (hV.mv mv))
  obtain ⟨rfl, rfl, rfl⟩ := nil_app e'
  exact q
theorem cput {cenv : Env} {md : List Addr} {A : Around} {av : List Addr} {V : Value} {d : PyData} (i : Nat) {x : Str} {sl : Sl} (hk : cenv.scope.kind = .function) (hl : cenv.kindOf x = some .local) (hL : cenv.locals ∈ md) (n : (ρ.map (·.1)).Nodup) (e : ρ[i]? = some (x, sl))
    (X : CS cenv md s.heap) (hav : ∀ a ∈ md, a ∈ av) (H : Hold cenv av s.heap ρ []) (hV : VR av s.heap d V) :
    wpAny (model prog w) A (storeName cenv x V) (fun _ s' => Up s s' ∧ (∀ b o, b ∉ md → s.heap.get? b = some o → s'.heap.get? b = some o) ∧ CS cenv md s'.heap ∧ Hold cenv av s'.heap (ρ.set i (x, .v d)) []) No s := by
  obtain ⟨m, ns⟩ := X.ns
  refine wpAny_storeName_local hl ns (fun h' n' hs => ⟨⟨_, _, rfl⟩, fun b o hb eb => (hs.2 b (by rintro rfl; exact hb hL)).trans eb, ⟨⟨_, n'⟩, fun c hc hne => ?_⟩, ?_⟩) (by rw [hk]; rfl)
  · obtain ⟨v, q⟩ := X.cells c hc hne
    exact ⟨v, q.sameBut hs hne⟩
  · exact H.put0 n e (fun y W hy => Has.stLocal ns n' hs hy) (fun a o hsq ha ea => ⟨ha, (hs.2 a (by rintro rfl; exact ha (hav _ hL))).trans ea⟩) (.loc hl n' (if_pos rfl)) hV
theorem CTg.name {cenv : Env} {md : List Addr} (i : Nat) {x : Str} {px : Pos} {d : PyData} {sl : Sl} (hk : cenv.scope.kind = .function) (hl : cenv.kindOf x = some .local) (hL : cenv.locals ∈ md) (n : (ρ.map (·.1)).Nodup) (e : ρ[i]? = some (x, sl)) :
    CTg prog w cenv md (.Name x px) d ρ (ρ.set i (x, .v d)) := ⟨fun A av s V hA X hav H hV => wpAny_assign_Name (cput i hk hl hL n e X hav H hV)⟩
theorem CTg.cell {cenv : Env} {md : List Addr} (i : Nat) {x : Str} {px : Pos} {d : PyData} {sl : Sl} {c : Addr} (hk : cenv.scope.kind = .function) (hl : cenv.kindOf x = some .cell) (hc : cenv.cells.lookup x = some c) (hcm : c ∈ md) (hcL : c ≠ cenv.locals)
    (inj : ∀ y, cenv.cells.lookup y = some c → y = x) (n : (ρ.map (·.1)).Nodup) (e : ρ[i]? = some (x, sl)) : CTg prog w cenv md (.Name x px) d ρ (ρ.set i (x, .v d)) := by
  constructor
  intro A av s V hA X hav H hV
  obtain ⟨m, ns⟩ := X.ns
  obtain ⟨v, q⟩ := X.cells c hcm hcL
  refine wpAny_assign_Name (wpAny_storeName_cell hk hl hc q fun h' q' hs => ⟨⟨h', s.toks, rfl⟩, fun b o hb eb => (hs.2 b (by rintro rfl; exact hb hcm)).trans eb, ⟨⟨m, ns.sameBut hs (Ne.symm hcL)⟩, fun c' hc' hne => ?_⟩, ?_⟩)
  · by_cases e' : c' = c
    · subst e'; exact ⟨_, q'⟩
    · obtain ⟨v', z⟩ := X.cells c' hc' hne
      exact ⟨v', z.sameBut hs e'⟩
  · exact H.put0 n e (fun y W hy => Has.sameBut hs (Ne.symm hcL) fun d v _ hd => by rintro rfl; exact hy (inj y hd)) (fun a o hsq ha ea => ⟨ha, (hs.2 a (by rintro rfl; exact ha (hav _ hcm))).trans ea⟩) (.cell hl hc q') hV
theorem CTg.pair {cenv : Env} {md : List Addr} (i j : Nat) {x y : Str} {px py pt : Pos} {z} {d e : PyData} {sl sl' : Sl} (hk : cenv.scope.kind = .function) (hx : cenv.kindOf x = some .local) (hy : cenv.kindOf y = some .local) (hL : cenv.locals ∈ md) (n : (ρ.map (·.1)).Nodup)
    (hi : ρ[i]? = some (x, sl)) (hj : (ρ.set i (x, .v d))[j]? = some (y, sl')) : CTg prog w cenv md (.Tuple [.Name x px, .Name y py] z pt) (.tuple [d, e]) ρ ((ρ.set i (x, .v d)).set j (y, .v e)) := by
  constructor
  intro A av s V hA X hav H hV
  obtain ⟨a, vs, nn, rfl, ha, hg, hv⟩ := hV.tuple_inv
  obtain ⟨V1, V2, e1, r1, r2⟩ := hv.two
  refine wpAny_assign_Tuple hA (isTuple_of hg) (by rw [← Array.length_toList, e1]; rfl) rfl fun h' hk₁ => ?_
  have kk : Keeps s { s with heap := h' } := ⟨h', s.toks, rfl, fun b o eb => hk₁ b o (by rintro rfl; exact absurd (Heap.lt_size eb) (Nat.lt_irrefl _)) eb⟩
  rw [e1]
  have X' : CS cenv md h' := ⟨let ⟨m, q⟩ := X.ns; ⟨m, q.keeps (kp kk)⟩, fun c hc hne => let ⟨v, q⟩ := X.cells c hc hne; ⟨v, q.keeps (kp kk)⟩⟩
  refine wpAny_assignInOrder_more (wpAny_mono (wpAny_assign_Name (cput i hk hx hL n hi X' hav (H.keeps (kp kk)) (r1.keeps (kp kk)))) (fun _ s₁ p => ?_) fun _ _ e => e)
  refine wpAny_assignInOrder_more (wpAny_mono (wpAny_assign_Name (cput j hk hy hL (by rw [map_set hi]; exact n) hj p.2.2.1 hav p.2.2.2 ((r2.keeps (kp kk)).mv fun a o hs ha ea => ⟨ha, p.2.1 a o (fun hm => ha (hav a hm)) ea⟩))) (fun _ s₂ q => ?_) fun _ _ e => e)
  exact wpAny_assignInOrder_none ⟨up_trans (up_kp kk) (up_trans p.1 q.1), fun b o hb eb => q.2.1 b o hb (p.2.1 b o hb (kp kk b o eb)), q.2.2⟩

structure PTst (prog : Program) (w : World) (k : Nat) (env : Env) (B : Heap) (ρ : Vs) (ifs : List Expr) (b : Bool) : Prop where
  out : ∀ A os av s, OkA k A → R env B ρ os av s → wpAny (model prog w) A (tests ifs env) (fun r s' => r = b ∧ Keeps s s') No s
theorem PTst.nil : PTst prog w k env B ρ [] true := ⟨fun A os av s _ _ => wpAny_tests_nil ⟨rfl, kp_refl s⟩⟩
theorem PTst.one {c : Expr} {b : Bool} (h : PT prog w k env B ρ c b) : PTst prog w k env B ρ [c] b := ⟨fun A os av s hA r => wpAny_tests_one (h.out A os av s hA r)⟩
end
end Mine
end
section
open PySem PySem.W PyProof.Rows
set_option linter.unusedVariables false
namespace Mine
section
variable {env : Env} {B : Heap} {F : Fp} {av₀ : List Addr} {ρ : Vs} {os : List Addr} {s : Shared} {prog : Program} {w : World} {k : Nat}

def coll (p : Nat → Bool) (f : Nat → PyData) (n : Nat) : List PyData := (List.range n).filterMap fun j => if p j = true then some (f j) else none
theorem coll_succ {p : Nat → Bool} {f : Nat → PyData} {n : Nat} : coll p f (n + 1) = coll p f n ++ (if p n = true then [f n] else []) := by
  unfold coll
  rw [List.range_succ, List.filterMap_append]
  congr 1
  by_cases h : p n = true <;> simp [h]
theorem coll_le {p : Nat → Bool} {f : Nat → PyData} {n : Nat} : (coll p f n).length ≤ n := by
  unfold coll
  exact Nat.le_trans (List.length_filterMap_le _ _) (by simp)
theorem coll_all {f : Nat → PyData} {n : Nat} : coll (fun _ => true) f n = (List.range n).map f := by
  unfold coll
  simp

/-- what a list comprehension with one generator is: its frame takes the names of ρ₀, the target is set as ρi, the tests come out as p, the item reads as f -/
structure CompOk (prog : Program) (w : World) (k : Nat) (env : Env) (B : Heap) (ρ : Vs) (elt tgt iter : Expr) (ifs : List Expr) (scope : Scope) (cl : List (Str × Addr)) (own : Nat → List Addr) (xs : List PyData) (ρ₀ : Vs) (ρi : Nat → Vs) (p : Nat → Bool) (f : Nat → PyData) : Prop where
  clos : closureFor scope env = pure cl
  kind : scope.kind = .function
  names : ∀ y ∈ scope.names, y.2 = .local → scope.names.lookup y.1 = some .local
  src : PIc prog w k env B ρ tgt iter xs
  own_ok : ∀ C, ∀ c ∈ own C, C < c ∧ ∀ h : Heap, h.objs.size = C + 1 → ∃ v, (pushCells h scope.names).IsCell c v
  cap : ∀ C av h os, Hold env av h ρ os → Hold (cEnv scope cl C env) av h ρ₀ []
  tg : ∀ C i d, xs[i]? = some d → CTg prog w (cEnv scope cl C env) (C :: own C) tgt d ρ₀ (ρi i)
  ts : ∀ C i d, xs[i]? = some d → PTst prog w k (cEnv scope cl C env) B (ρi i) ifs (p i)
  el : ∀ C i d, xs[i]? = some d → p i = true → PE prog w k (cEnv scope cl C env) B (ρi i) elt (f i)

theorem comp_block {elt tgt iter : Expr} {ifs : List Expr} {scope : Scope} {cl : List (Str × Addr)} {own : Nat → List Addr} {xs : List PyData} {ρ₀ : Vs} {ρi : Nat → Vs} {p : Nat → Bool} {f : Nat → PyData} {pos : Pos} (K : CompOk prog w k env B ρ elt tgt iter ifs scope cl own xs ρ₀ ρi p f)
    {A : Around} {av : List Addr} {s₂ : Shared} {it : Value} {its : List PyData} {items : List Value} {fp wr : List Addr} {I : Nat → Heap → Prop} {RR : Value → Addr → Result → Shared → Prop} (hA : OkA k A) (r : R env B ρ os av s) (k₂ : Keeps s s₂)
    (S : Src prog w tgt its items xs it fp wr I) (h0 : I 0 s₂.heap) (hv : VRs av s₂.heap its items) (hwr : ∀ b ∈ wr, s.heap.get? b = none) (hlen : xs.length ≤ 16777216)
    (hRR : ∀ D C h' tk m' Ys, s₂.heap.get? D = none → s₂.heap.get? C = none → D ≠ C → h'.Ns C m' → h'.PlainList D Ys.toArray → VRs av h' (coll p f xs.length) Ys → (∀ b o, b ∉ wr → s₂.heap.get? b = some o → h'.get? b = some o) → RR (.ref D) C (.ok .next) { s₂ with heap := h', toks := tk }) :
    wpAny (model prog w) A (newList []) (fun acc s₃ => wpAny (model prog w) A (newFunctionEnv scope env.globals cl [] env.qual none .none (some env)) (fun cenv s₄ =>
      codeAny (model prog w) A (.compStart (.ListComp elt [⟨tgt, iter, ifs, 0⟩] scope pos) 0 it acc { cenv with scope := relabel scope env }) (RR acc cenv.locals) s₄) No s₃) No s₂ := by
  refine wpAny_newObj_type (newEnv_comp ?_)
  generalize hH : s₂.heap.push { cls := .type "list", dict := none, data := .seq ([] : List Value).toArray } = H2
  have hC : H2.objs.size = s₂.heap.objs.size + 1 := by rw [← hH, Heap.size_push]
  generalize hD : s₂.heap.objs.size = D at hC ⊢
  generalize hCC : H2.objs.size = C at hC ⊢
  have fresh : ∀ a, D ≤ a → s₂.heap.get? a = none := fun a ha => by
    cases e : s₂.heap.get? a with
    | none => rfl
    | some o' => exact absurd (Heap.lt_size e) (by rw [hD]; exact Nat.not_lt.mpr ha)
  have hDC : D ≠ C := by rw [hC]; exact Nat.ne_of_lt (Nat.lt_succ_self _)
  have hownC : ∀ c ∈ own C, C < c := fun c hc => (K.own_ok C c hc).1
  generalize hH3 : pushCells (H2.push { cls := .type "dict", data := .dict #[] }) scope.names = H3
  have old : ∀ b o, s₂.heap.get? b = some o → H3.get? b = some o := fun b o e => by
    rw [← hH3, ← hH]; exact pushCells_keeps _ _ _ _ (Heap.get?_push_of_some _ (Heap.get?_push_of_some _ e))
  have hacc : H3.PlainList D #[] := ⟨0, by rw [← hH3, ← hH, ← hD]; exact pushCells_keeps _ _ _ _ (Heap.get?_push_of_some _ (Heap.get?_push_size _ rfl))⟩
  have hns : H3.Ns C (fun _ => none) := by
    rw [← hH3, ← hCC]; exact (Heap.Ns.new H2 (.type "dict")).keeps (pushCells_keeps _ _)
  let cenv := cEnv scope cl C env
  let md := C :: own C
  let av' := md ++ (D :: av)
  have hmd : ∀ a ∈ md, s₂.heap.get? a = none ∧ a ≠ D := fun a ha => by
    rcases List.mem_cons.mp ha with rfl | ha
    · exact ⟨fresh _ (by rw [hC]; exact Nat.le_succ _), Ne.symm hDC⟩
    · have := hownC a ha
      rw [hC] at this
      exact ⟨fresh _ (by omega), by omega⟩
  have hcs : CS cenv md H3 := ⟨⟨_, hns⟩, fun c hc hne => by
    rcases List.mem_cons.mp hc with rfl | hc
    · exact absurd rfl hne
    · rw [← hH3]; exact (K.own_ok C c hc).2 _ (by rw [Heap.size_push, hCC])⟩
  have hst₁ : I 0 H3 := S.frame _ _ _ h0 fun b _ o e => old b o e
  have hav2 : ∀ a ∈ av', a ∈ av ∨ s₂.heap.get? a = none := fun a ha => by
    rcases List.mem_append.mp ha with h | h
    · exact .inr (hmd a h).1
    · rcases List.mem_cons.mp h with rfl | h
      · exact .inr (fresh _ (Nat.le_refl _))
      · exact .inl h
  have hwr2 : ∀ b ∈ wr, b ∉ av' := fun b hb hm => by
    obtain ⟨o, e⟩ := S.alive 0 _ h0 b (S.sub b hb)
    rcases hav2 b hm with h | h
    · obtain ⟨o', e'⟩ := r.alive b h
      rw [hwr b hb] at e'; cases e'
    · rw [e] at h; cases h
  have mv2 : ∀ s' : Shared, (∀ b o, b ∉ wr → s₂.heap.get? b = some o → s'.heap.get? b = some o) → Mv av s₂.heap av' s'.heap := fun s' hk a o hs ha e =>
    ⟨fun hm => (hav2 a hm).elim ha fun q => (by rw [e] at q; cases q), hk a o (fun hw => S.shape 0 _ h0 a hw o e hs) e⟩
  have kk : ∀ s' : Shared, (∀ b o, b ∉ wr → s₂.heap.get? b = some o → s'.heap.get? b = some o) → ∀ b o, s.heap.get? b = some o → s'.heap.get? b = some o := fun s' hk b o e =>
    hk b o (fun hw => by rw [hwr b hw] at e; cases e) (kp k₂ b o e)
  have mvs : ∀ s' : Shared, (∀ b o, b ∉ wr → s₂.heap.get? b = some o → s'.heap.get? b = some o) → Mv av s.heap av' s'.heap := fun s' hk a o hs ha e =>
    ⟨fun hm => (hav2 a hm).elim ha fun q => (by rw [kp k₂ a o e] at q; cases q), kk s' hk a o e⟩
  have rc : ∀ s' : Shared, (∀ b o, b ∉ wr → s₂.heap.get? b = some o → s'.heap.get? b = some o) → CS cenv md s'.heap → (∃ o, s'.heap.get? D = some o) → ∀ ρ', Hold cenv av' s'.heap ρ' [] → R cenv B ρ' [] av' s' := fun s' hk X hDa ρ' H =>
    ⟨⟨K.kind, r.ok.glob, r.ok.blt⟩, fun b o e => kk s' hk b o (r.base b o e), H, fun a ha => by
      rcases List.mem_append.mp ha with h | h
      · by_cases hac : a = C
        · subst hac; obtain ⟨m, q⟩ := X.ns; exact Ns.alive q
        · obtain ⟨v, q⟩ := X.cells a h hac; exact IsCell.alive q
      · rcases List.mem_cons.mp h with rfl | h
        · exact hDa
        · obtain ⟨o, e⟩ := r.alive a h; exact ⟨o, kk s' hk a o e⟩⟩
  have loop : codeAny (model prog w) A (.compLoop (.ListComp elt [⟨tgt, iter, ifs, 0⟩] scope pos) 0 it (.ref D) cenv) (RR (.ref D) C) { s₂ with heap := H3 } := by
    refine comp_loop (fun n s' => ∃ i Ys, n = xs.length - i ∧ i ≤ xs.length ∧ Up s₂ s' ∧ (∀ b o, b ∉ wr → s₂.heap.get? b = some o → s'.heap.get? b = some o) ∧ I i s'.heap ∧ CS cenv md s'.heap ∧ s'.heap.PlainList D Ys.toArray ∧ VRs av' s'.heap (coll p f i) Ys) ?_ xs.length
      ⟨0, [], rfl, Nat.zero_le _, ⟨H3, s₂.toks, rfl⟩, fun b o _ e => old b o e, hst₁, hcs, hacc, .nil⟩
    rintro n s' ⟨i, Ys, rfl, hi, u, hk, hI, X, hL, hY⟩
    rcases Nat.lt_or_ge i xs.length with hlt | hge
    · have hd := List.getElem?_eq_getElem hlt
      have rr := rc s' hk X (let ⟨n, e⟩ := hL; ⟨_, e⟩) ρ₀ (K.cap C av' s'.heap os (r.hold.move (mvs s' hk) (fun p _ W q => q.keeps (kk s' hk)) fun a _ o e => kk s' hk a o e))
      refine wpAny_mono (S.item A av' s' i _ hA.hh hd hI (hv.mv (mv2 s' hk)) rr.alive hwr2) (fun q s₃ z => ?_) fun _ _ e => e
      obtain ⟨V, rfl, z⟩ := z
      refine wpAny_mono z (fun _ s₄ y => ?_) fun _ _ e => e
      obtain ⟨hI', hV, hkb⟩ := y
      have kb4 := kb hkb
      have hk4 : ∀ b o, b ∉ wr → s₂.heap.get? b = some o → s₄.heap.get? b = some o := fun b o hb e => kb4 b o hb (hk b o hb e)
      have hwmd : ∀ a ∈ md, a ∉ wr := fun a ha hw => hwr2 a hw (List.mem_append_left _ ha)
      have hDw : D ∉ wr := fun hw => hwr2 D hw (List.mem_append_right _ (.head _))
      have mv34 : Mv av' s'.heap av' s₄.heap := fun a o hs ha e => ⟨ha, kb4 a o (fun hw => S.shape i _ hI a hw o e hs) e⟩
      have X4 : CS cenv md s₄.heap := ⟨let ⟨m, q⟩ := X.ns; ⟨m, q.at' fun o e => kb4 _ o (hwmd _ (.head _)) e⟩, fun c hc hne => let ⟨v, o, e, d⟩ := X.cells c hc hne; ⟨v, o, kb4 _ o (hwmd c hc) e, d⟩⟩
      have hL4 : s₄.heap.PlainList D Ys.toArray := hL.at fun o e => kb4 D o hDw e
      have hY4 := hY.mv mv34
      have H4 : Hold cenv av' s₄.heap ρ₀ [] := K.cap C av' s₄.heap os (r.hold.move (mvs s₄ hk4) (fun p _ W q => q.keeps (kk s₄ hk4)) fun a _ o e => kk s₄ hk4 a o e)
      refine wpAny_mono ((K.tg C i _ hd).out A av' s₄ V hA.hh X4 (fun a ha => List.mem_append_left _ ha) H4 hV) (fun _ s₅ q => ?_) fun _ _ e => e
      obtain ⟨u5, hk45, X5, H5⟩ := q
      have hDmd : D ∉ md := fun h => (hmd D h).2 rfl
      have hk5 : ∀ b o, b ∉ wr → s₂.heap.get? b = some o → s₅.heap.get? b = some o := fun b o hb e => hk45 b o (fun hm => by rw [(hmd b hm).1] at e; cases e) (hk4 b o hb e)
      have hL5 : s₅.heap.PlainList D Ys.toArray := hL4.at fun o e => hk45 D o hDmd e
      have hY5 : VRs av' s₅.heap (coll p f i) Ys := hY4.mv fun a o hs ha e => ⟨ha, hk45 a o (fun hm => ha (List.mem_append_left _ hm)) e⟩
      have hI5 : I (i + 1) s₅.heap := S.frame _ _ _ hI' fun b hb o e => hk45 b o (fun hm => by
        obtain ⟨o', e'⟩ := S.alive 0 _ h0 b hb
        rw [(hmd b hm).1] at e'; cases e') e
      have R5 := rc s₅ hk5 X5 (let ⟨n, e⟩ := hL5; ⟨_, e⟩) _ H5
      refine wpAny_mono ((K.ts C i _ hd).out A [] av' s₅ hA R5) (fun b s₆ q => ?_) fun _ _ e => e
      obtain ⟨rfl, k6⟩ := q
      have hk6 : ∀ b o, b ∉ wr → s₂.heap.get? b = some o → s₆.heap.get? b = some o := fun b o hb e => kp k6 b o (hk5 b o hb e)
      have X6 : CS cenv md s₆.heap := ⟨let ⟨m, q⟩ := X5.ns; ⟨m, q.keeps (kp k6)⟩, fun c hc hne => let ⟨v, q⟩ := X5.cells c hc hne; ⟨v, q.keeps (kp k6)⟩⟩
      have hL6 : s₆.heap.PlainList D Ys.toArray := hL5.at fun o e => kp k6 D o e
      have hI6 : I (i + 1) s₆.heap := S.frame _ _ _ hI5 fun b _ o e => kp k6 b o e
      by_cases hp : p i = true
      · rw [if_pos hp]
        refine wpAny_mono ((K.el C i _ hd hp).out A [] av' s₆ hA (R5.keeps k6)) (fun x s₇ q => ?_) fun _ _ e => e
        obtain ⟨hx, k7⟩ := q
        have hL7 : s₇.heap.PlainList D Ys.toArray := hL6.at fun o e => kp k7 D o e
        have hY7 := (hY5.keeps (kp k6)).keeps (kp k7)
        have hYl : Ys.length ≤ 16777216 := by rw [hY.length]; exact Nat.le_trans coll_le (Nat.le_trans hi hlen)
        refine wpAny_list_append_plain hL7 (fun h' hL8 hs8 => ?_) (by rw [List.size_toArray]; exact hYl)
        have mv8 : Mv av' s₇.heap av' h' := fun a o hs ha e => ⟨ha, (hs8.2 a (by rintro rfl; exact ha (List.mem_append_right _ (.head _)))).trans e⟩
        refine ⟨xs.length - (i + 1), by omega, i + 1, Ys ++ [x], rfl, hlt, up_trans u (up_trans (kb_up hkb) (up_trans u5 (up_trans (up_kp k6) (up_trans (up_kp k7) ⟨h', s₇.toks, rfl⟩)))), fun b o hb e => ?_, S.frame _ _ _ hI6 fun b hb o e => ?_, ⟨?_, fun c hc hne => ?_⟩, ?_, ?_⟩
        · exact (hs8.2 b (by rintro rfl; rw [fresh _ (Nat.le_refl _)] at e; cases e)).trans (kp k7 b o (hk6 b o hb e))
        · refine (hs8.2 b ?_).trans (kp k7 b o e)
          rintro rfl
          obtain ⟨o', e'⟩ := S.alive 0 _ h0 _ hb
          rw [fresh _ (Nat.le_refl _)] at e'; cases e'
        · obtain ⟨m, q⟩ := X6.ns
          exact ⟨m, (q.keeps (kp k7)).sameBut hs8 (Ne.symm hDC)⟩
        · obtain ⟨v, q⟩ := X6.cells c hc hne
          exact ⟨v, (q.keeps (kp k7)).sameBut hs8 (hmd c hc).2⟩
        · rw [← List.push_toArray]; exact hL8
        · rw [coll_succ, if_pos hp]
          exact (hY7.mv mv8).append (.cons (hx.mv mv8) .nil)
      · rw [if_neg hp]
        refine ⟨xs.length - (i + 1), by omega, i + 1, Ys, rfl, hlt, up_trans u (up_trans (kb_up hkb) (up_trans u5 (up_kp k6))), hk6, hI6, X6, hL6, ?_⟩
        rw [coll_succ, if_neg hp, List.append_nil]
        exact hY5.keeps (kp k6)
    · have : i = xs.length := Nat.le_antisymm hi hge
      subst this
      refine wpAny_mono (S.done A s' hA.hh hI) (fun q s₃ z => ?_) fun _ _ e => e
      obtain ⟨rfl, hkb⟩ := z
      have kb4 := kb hkb
      have hDw : D ∉ wr := fun hw => hwr2 D hw (List.mem_append_right _ (.head _))
      have hCw : C ∉ wr := fun hw => hwr2 C hw (List.mem_append_left _ (.head _))
      obtain ⟨h3, t3, rfl⟩ := up_trans u (kb_up hkb)
      obtain ⟨m, q⟩ := X.ns
      refine hRR D C h3 t3 m Ys (fresh _ (Nat.le_refl _)) (fresh _ (by rw [hC]; exact Nat.le_succ _)) hDC (q.at' fun o e => kb4 _ o hCw e) (hL.at fun o e => kb4 D o hDw e) ?_ fun b o hb e => kb4 b o hb (hk b o hb e)
      exact (hY.mv fun a o hs ha e => ⟨ha, kb4 a o (fun hw => S.shape _ _ hI a hw o e hs) e⟩).sub fun a ha => List.mem_append_right _ (.tail _ ha)
  exact codeAny_compStart_list loop (wpAny_mono (S.self A _ 0 hA.hh hst₁) (fun V s' q => by obtain ⟨rfl, rfl⟩ := q; exact loop) fun _ _ e => e.elim)

theorem PE.comp {elt tgt iter : Expr} {ifs : List Expr} {scope : Scope} {cl : List (Str × Addr)} {own : Nat → List Addr} {xs : List PyData} {ρ₀ : Vs} {ρi : Nat → Vs} {p : Nat → Bool} {f : Nat → PyData} {pos : Pos} (K : CompOk prog w k env B ρ elt tgt iter ifs scope cl own xs ρ₀ ρi p f)
    (hs : ∀ x, foldedSetIterable iter env x = pure x := by intro _; rfl) : PE prog w k env B ρ (.ListComp elt [⟨tgt, iter, ifs, 0⟩] scope pos) (.list (coll p f xs.length)) := by
  constructor
  intro A os av s hA r
  rw [eval_ListComp]
  refine wpAny_comprehension_free (use := none) rfl hs K.clos K.kind K.names (wpAny_mono (K.src.out A os av s hA r) (fun xv s₁ h₁ => wpAny_mono h₁ (fun it s₂ h₂ => ?_) fun _ _ e => e) fun _ _ e => e)
  obtain ⟨k₂, its, items, fp, wr, I, S, h0, hv, hwr, hlen⟩ := h₂
  refine comp_block (RR := fun acc C => compPost (model prog w) A No none (fun V s' => VR av s'.heap (.list (coll p f xs.length)) V ∧ Keeps s s') acc C) K hA r k₂ S h0 hv hwr hlen ?_
  intro D C h' tk m' Ys hD hC hDC hn hl hY hk
  have hDav : D ∉ av := fun hm => by obtain ⟨o, e⟩ := r.alive D hm; rw [kp k₂ D o e] at hD; cases hD
  have hCav : C ∉ av := fun hm => by obtain ⟨o, e⟩ := r.alive C hm; rw [kp k₂ C o e] at hC; cases hC
  refine ⟨m', hn, fun h'' hs'' => ⟨.listP hDav (hl.extBut hs''.extBut hDC) ?_, ?_⟩⟩
  · refine hY.mv fun a o hsq ha e => ⟨ha, (hs''.2 a ?_).trans e⟩
    rintro rfl
    obtain ⟨o', es, ep, e', d', _⟩ := hn
    rw [e] at e'; cases e'
    obtain ⟨vs, n, h4 | h4⟩ := hsq <;> rw [h4] at d' <;> cases d'
  · obtain ⟨h₂, t₂, rfl, kk₂⟩ := k₂
    refine ⟨h'', tk, rfl, fun b o e => (hs''.2 b ?_).trans (hk b o (fun hw => by rw [hwr b hw] at e; cases e) (kk₂ b o e))⟩
    rintro rfl
    rw [kk₂ _ o e] at hC; cases hC
end
end Mine
end
section
open PySem PySem.W PyProof.Rows
set_option linter.unusedVariables false
namespace Mine
section
variable {env : Env} {B : Heap} {F : Fp} {av₀ : List Addr} {ρ : Vs} {os : List Addr} {s : Shared} {prog : Program} {w : World} {k : Nat}

/-- an object that the state does not speak of changes -/
theorem St.junk {C : Addr} {h' : Heap} {tk : Nat} (X : St env B F av₀ ρ os s) (hs : Heap.SameBut C s.heap h') (hC : C ∉ avOf env os av₀) (hF : F C = none) (hsh : ∀ o, s.heap.get? C = some o → ¬ Sq o) :
    St env B F av₀ ρ os { s with heap := h', toks := tk } := by
  have hL : env.locals ≠ C := fun e => hC (e ▸ St.locals_mem)
  have hc : ∀ p ∈ env.cells, p.2 ≠ C := fun p hp e => hC (e ▸ .tail _ (List.mem_append_left _ (List.mem_map_of_mem (f := (·.2)) hp)))
  have ho : ∀ a ∈ os, a ≠ C := fun a ha e => hC (e ▸ St.os_mem ha)
  obtain ⟨o₁, H, h1, hn⟩ := X.hold
  refine ⟨X.ok, X.base, fun b o e => (hs.2 b (by rintro rfl; rw [hF] at e; cases e)).trans (X.keep b o e), ⟨o₁, H.move (fun a o hsq ha e => ⟨ha, (hs.2 a (by rintro rfl; exact hsh o e hsq)).trans e⟩) (fun p hp W q => q.sameBut hs hL fun d v _ hd => hc _ (mem_of_lookup hd)) (fun a ha o e => (hs.2 a (ho a (h1 a ha))).trans e), h1, hn⟩, ?_, fun p hp => ?_, X.inj, X.fresh, X.old, fun a ha => ?_, X.ap, X.names⟩
  · obtain ⟨m, n⟩ := X.ns; exact ⟨m, n.sameBut hs hL⟩
  · obtain ⟨v, q⟩ := X.cells p hp; exact ⟨v, q.sameBut hs (hc p hp)⟩
  · obtain ⟨o, e⟩ := X.osA a ha; exact ⟨o, (hs.2 a (ho a ha)).trans e⟩

theorem P1.setComp (i : Nat) {x : Str} {sl : Sl} {px : Pos} {elt tgt iter : Expr} {ifs : List Expr} {scope : Scope} {cl : List (Str × Addr)} {own : Nat → List Addr} {xs : List PyData} {ρ₀ : Vs} {ρi : Nat → Vs} {p : Nat → Bool} {f : Nat → PyData} {pos spos : Pos}
    (K : CompOk prog w k env B ρ elt tgt iter ifs scope cl own xs ρ₀ ρi p f) (hi : ρ[i]? = some (x, sl)) (hk : Stor env x)
    (hsw : swapsWith (.ListComp elt [⟨tgt, iter, ifs, 0⟩] scope pos) (some (.Name x px)) spos.line env = pure true) (hs : ∀ x, foldedSetIterable iter env x = pure x := by intro _; rfl) :
    P1 prog w k env B ρ (.Assign [.Name x px] (.ListComp elt [⟨tgt, iter, ifs, 0⟩] scope pos) spos) (.nx (ρ.set i (x, .v (.list (coll p f xs.length))))) := by
  constructor
  intro A F av₀ os s hA X
  obtain ⟨o₁, r, ho₁⟩ := X.R
  rw [exec_Assign_Name_used _ _ _ _ hsw]
  refine wpAny_bind (wpAny_standAt (wpAny_bind ?_))
  show wpAny _ A (do let _ ← comprehension (.ListComp elt [⟨tgt, iter, ifs, 0⟩] scope pos) scope env _ (newList []) false (eval iter env) (some (assign (.Name x px) env))) _ _ s
  refine wpAny_bind (wpAny_mono (wpAny_comprehension_free (use := some (assign (.Name x px) env)) (Q := fun _ s' => Up s s' ∧ ∃ os', St env B F av₀ (ρ.set i (x, .v (.list (coll p f xs.length)))) os' s') rfl hs K.clos K.kind K.names
    (wpAny_mono (K.src.out A _ _ s hA r) (fun xv s₁ h₁ => wpAny_mono h₁ (fun it s₂ h₂ => ?_) fun _ _ e => e) fun _ _ e => e)) (fun _ s' hq => wpAny_pure (wpAny_pure ⟨hq.1, rfl, hq.2⟩)) fun _ _ e => e)
  obtain ⟨k₂, its, items, fp, wr, I, S, h0, hv, hwr, hlen⟩ := h₂
  refine comp_block (RR := fun acc C => compPost (model prog w) A No (some (assign (.Name x px) env)) (fun _ s' => Up s s' ∧ ∃ os', St env B F av₀ (ρ.set i (x, .v (.list (coll p f xs.length)))) os' s') acc C) K hA r k₂ S h0 hv hwr hlen ?_
  intro D C h' tk m' Ys hD hC hDC hn hl hY hk'
  have hsC : s.heap.get? C = none := kp_none k₂ hC
  have hDav : D ∉ avOf env os av₀ := fun hm => by obtain ⟨o, e⟩ := r.alive D hm; rw [kp k₂ D o e] at hD; cases hD
  have hCav : C ∉ avOf env os av₀ := fun hm => by obtain ⟨o, e⟩ := r.alive C hm; rw [kp k₂ C o e] at hC; cases hC
  have kk : Keeps s { s₂ with heap := h', toks := tk } := by
    obtain ⟨h₂, t₂, rfl, kk₂⟩ := k₂
    exact ⟨h', tk, rfl, fun b o e => hk' b o (fun hw => by rw [hwr b hw] at e; cases e) (kk₂ b o e)⟩
  refine wpAny_mono (wpAny_assign_Name ((X.keeps kk).putV' hi hk (.listP hDav hl hY))) (fun _ s₃ q => ?_) fun _ _ e => e
  obtain ⟨u, X₃, pr⟩ := q
  have hn3 : s₃.heap.Ns C m' := hn.at' fun o e => pr C o hCav e
  refine ⟨m', hn3, fun h'' hs'' => ?_⟩
  obtain ⟨h3, t3, rfl⟩ := up_trans (up_kp kk) u
  refine ⟨⟨h'', t3, rfl⟩, os, X₃.junk hs'' hCav (X.F_none hsC) fun o e hsq => ?_⟩
  obtain ⟨o', es, ep, e', d', _⟩ := hn3
  rw [e] at e'; cases e'
  obtain ⟨vs, n, h4 | h4⟩ := hsq <;> rw [h4] at d' <;> cases d'

/-- the pairs of enumerate -/
def enumP (xs : List PyData) : List PyData := (List.range xs.length).map fun (i : Nat) => .tuple [.int i, xs.getD i .none]
theorem enumP_len {xs : List PyData} : (enumP xs).length = xs.length := by simp [enumP]
theorem enumP_at {xs : List PyData} {i : Nat} {d : PyData} (h : (enumP xs)[i]? = some d) : ∃ x, xs[i]? = some x ∧ d = .tuple [.int i, x] := by
  have hl := lt_of_at h
  rw [enumP_len] at hl
  simp [enumP, hl] at h
  exact ⟨xs[i], List.getElem?_eq_getElem hl, h.symm⟩
theorem PI.enum {x : Str} {elts : List Expr} {z : Nat} {px pt pos : Pos} {e : Expr} {xs : List PyData} (g : BI B x (.type "enumerate")) (hk : env.kindOf x = some .globalImplicit) (he : PE prog w k env B ρ e (.list xs)) (hn : xs.length ≤ 16777216)
    (hs : isStar e = false := by rfl) (hd : (x == ("__debug__" : Str)) = false := by decide) :
    PI prog w k env B ρ (.Tuple elts z pt) (.Call (.Name x px) [e] [] pos) (enumP xs) := by
  constructor
  intro A os av s hA r
  refine Call_ (wpAny_NameB r.ok hk g r.base (PyProof.Rows.callWith_type1 (wpAny_mono ((PAs.cons he .nil hs).out A os av s pos hA r) (fun vs s₁ p => ?_) fun _ _ e => e) (star_one hs)) hd) call_name
  obtain ⟨V, rfl, q⟩ := p.1.one
  obtain ⟨l, vs, n, rfl, hl, e1, hvs⟩ := q.list_inv
  have r₁ := r.keeps p.2
  have hsz : vs.size = xs.length := by rw [← Array.length_toList, hvs.length]
  refine call_enumerate_list (isList_of e1) fun h' hE hI hz hk => ?_
  have kk : Keeps s₁ { s₁ with heap := h' } := ⟨h', s₁.toks, rfl, hk⟩
  refine wpAny_pyIter_enum hE ?_
  generalize hee : s₁.heap.objs.size + 1 = en at hE ⊢
  generalize hii : s₁.heap.objs.size = it at hE hI hee ⊢
  have hei : en ≠ it := by omega
  have hel : l < it := by rw [← hii]; exact Heap.lt_size e1
  have hle : l ≠ en := fun h => Nat.lt_irrefl l (Nat.lt_of_lt_of_le hel (by rw [h, ← hee]; exact Nat.le_succ _))
  have hli : l ≠ it := Nat.ne_of_lt hel
  have dead : ∀ a, it ≤ a → s₁.heap.get? a = none := fun a ha => by
    cases e : s₁.heap.get? a with
    | none => rfl
    | some o => exact absurd (Heap.lt_size e) (by rw [hii]; exact Nat.not_lt.mpr ha)
  refine ⟨kp_trans p.2 kk, xs, vs.toList, [en, it, l], [en, it], fun i h => (∃ old, IsEnum h en it i old) ∧ h.IsListIter it l i ∧ h.get? l = some (lobj vs n), ?_, ⟨⟨_, hE⟩, hI, hk _ _ e1⟩, hvs.keeps (fun b o e => hk b o e), fun b hb => ?_, by rw [enumP_len]; exact hn, fun b hb => ?_⟩
  · refine ⟨fun b hb => by simp at hb ⊢; rcases hb with rfl | rfl <;> simp, fun i h h' st hkk => ⟨let ⟨o, x⟩ := st.1; ⟨o, hkk en (by simp) _ x⟩, st.2.1.at fun o x => hkk it (by simp) o x, hkk l (by simp) _ st.2.2⟩, fun i h st b hb => ?_, fun i h st b hb o ho hsq => ?_, fun A av s i d hA hd st hv hal hwr => ?_, fun A s hA st => ?_, fun A s i hA st => ?_⟩
    · simp only [List.mem_cons, List.not_mem_nil, or_false] at hb
      obtain ⟨⟨old, h1⟩, ⟨o2, h2, _⟩, h3⟩ := st
      rcases hb with rfl | rfl | rfl
      · exact ⟨_, h1⟩
      · exact ⟨_, h2⟩
      · exact ⟨_, h3⟩
    · simp only [List.mem_cons, List.not_mem_nil, or_false] at hb
      obtain ⟨⟨old, h1⟩, ⟨o2, h2, h2', h2''⟩, h3⟩ := st
      obtain ⟨vs', n', h4⟩ := hsq
      rcases hb with rfl | rfl
      · rw [h1] at ho; cases ho
        rcases h4 with h4 | h4 <;> exact absurd (Value.type.inj (congrArg Obj.cls h4)) (by decide)
      · rw [h2] at ho; cases ho
        rcases h4 with h4 | h4 <;> rw [h4] at h2'' <;> cases h2''
    · obtain ⟨x, hx, rfl⟩ := enumP_at hd
      obtain ⟨⟨old, hE⟩, hI, hL⟩ := st
      obtain ⟨V, hV, hr⟩ := hv.get hx
      have hitn : it ∉ av := hwr it (by simp)
      refine wpAny_pyNext_enum_item hE hI (isList_of hL) (by rw [← toList_at]; exact hV) hei fun h₁ hO hI' hT hz' hk' => ⟨_, rfl, ?_⟩
      have hes : en < s.heap.objs.size := Heap.lt_size hE
      have his : it < s.heap.objs.size := by obtain ⟨_, x, _⟩ := hI; exact Heap.lt_size x
      refine wpAny_letOwnedTupleGo_enum hO fun h₂ hE' hs' => ⟨⟨⟨_, by simpa using hE'⟩, hI'.at fun o y => (hs'.2 it hei.symm).trans y, (hs'.2 l hle).trans (hk' l _ hle hli hL)⟩, ?_, ⟨h₂, s.toks + 1, rfl, fun b o hb y => ?_⟩⟩
      · have hk2 : ∀ b o, b ≠ en → b ≠ it → s.heap.get? b = some o → h₂.get? b = some o := fun b o h1 h2 e => (hs'.2 b h1).trans (hk' b o h1 h2 e)
        refine .tuple (n := 0) (vs := #[.int i s.toks, V]) (not_alive hal (next_none _)) ((hs'.2 _ (Nat.ne_of_gt hes)).trans hT) (.cons .int (.cons (hr.mv fun a o hsq ha e => ⟨ha, hk2 a o ?_ ?_ e⟩) .nil))
        · rintro rfl
          rw [hE] at e; cases e
          obtain ⟨vs', n', h4 | h4⟩ := hsq <;> exact absurd (Value.type.inj (congrArg Obj.cls h4)) (by decide)
        · rintro rfl
          obtain ⟨o', h1, h2, h3⟩ := hI
          rw [h1] at e; cases e
          obtain ⟨vs', n', h4 | h4⟩ := hsq <;> rw [h4] at h3 <;> cases h3
      · exact (hs'.2 b fun e' => hb (by simp [e'])).trans (hk' b o (fun e' => hb (by simp [e'])) (fun e' => hb (by simp [e'])) y)
    · obtain ⟨⟨old, hE⟩, hI, hL⟩ := st
      rw [enumP_len, ← hsz] at hE hI
      exact wpAny_pyNext_enum_end hA hE hI (isList_of hL) (Array.getElem?_eq_none (Nat.le_refl _)) fun h' hx => ⟨rfl, h', s.toks, rfl, fun b o hb y => hx b o (fun e' => hb (by simp [e'])) y⟩
    · obtain ⟨⟨old, hE⟩, _, _⟩ := st
      exact wpAny_pyIter_enum hE ⟨rfl, rfl⟩
  · simp only [List.mem_cons, List.not_mem_nil, or_false] at hb
    refine kp_none p.2 ?_
    rcases hb with rfl | rfl
    · exact dead _ (by rw [← hee]; exact Nat.le_succ _)
    · exact dead _ (Nat.le_refl _)
  · simp only [List.mem_cons, List.not_mem_nil, or_false] at hb
    rcases hb with rfl | rfl | rfl
    · exact not_alive r₁.alive (dead _ (by rw [← hee]; exact Nat.le_succ _))
    · exact not_alive r₁.alive (dead _ (Nat.le_refl _))
    · exact hl
/-- the signs of an ASCII text -/
def signs (x : Str) : List PyData := x.cps.toList.map fun c => .str ⟨#[c]⟩
theorem PI.str {y : Str} {py : Pos} {iter : Expr} {x : Str} (hv : PE prog w k env B ρ iter (.str x)) (hasc : x.cps.all (· < 128) = true) (hn : x.length ≤ 16777216) : PI prog w k env B ρ (.Name y py) iter (signs x) := by
  constructor
  intro A os av s hA r
  refine wpAny_mono (hv.out A os av s hA r) (fun V s₁ p => ?_) fun _ _ e => e
  obtain ⟨t, rfl⟩ := p.1.str_inv
  have r₁ := r.keeps p.2
  have hlen : (signs x).length = x.cps.size := by simp [signs]
  refine wpAny_pyIter_ascii hasc ⟨kp_trans p.2 (kp_push _ _), [], [], [s₁.heap.objs.size], [s₁.heap.objs.size], fun i h => h.IsStrIter s₁.heap.objs.size "str_ascii_iterator" x t i,
    Src.ofWalks (P := SignAt x) (fun A hA => hlen ▸ Walks.strAscii hA s₁.heap.objs.size x t) (fun i h st b hb => ?_) (fun i h st b hb o ho hs => ?_) (fun i v d av h hp hd hv => ?_) (fun A s i V d Q hd hV st hQ => wpAny_pure hQ), ⟨_, Heap.get?_push_size _ rfl, rfl, rfl⟩, .nil, fun b hb => ?_, by rw [hlen]; exact hn, fun b hb => ?_⟩
  · simp only [List.mem_cons, List.not_mem_nil, or_false] at hb
    subst hb; obtain ⟨o, h1, _⟩ := st; exact ⟨o, h1⟩
  · simp only [List.mem_cons, List.not_mem_nil, or_false] at hb
    subst hb
    obtain ⟨o', h1, h2, h3⟩ := st
    rw [ho] at h1; cases h1
    obtain ⟨vs', n', h4 | h4⟩ := hs <;> rw [h4] at h3 <;> cases h3
  · obtain ⟨c, u, hc, rfl⟩ := hp
    have : (signs x)[i]? = some (.str ⟨#[c]⟩) := by
      unfold signs
      rw [List.getElem?_map, Array.getElem?_toList, hc]; rfl
    rw [this] at hd; cases hd; exact .str
  · simp only [List.mem_cons, List.not_mem_nil, or_false] at hb
    subst hb; exact kp_none p.2 (next_none _)
  · simp only [List.mem_cons, List.not_mem_nil, or_false] at hb
    subst hb; exact not_alive r₁.alive (next_none _)
end
end Mine
end
section
open PySem PySem.W PyProof.Rows
set_option linter.unusedVariables false
namespace Mine
section
variable {env : Env} {B : Heap} {F : Fp} {av₀ : List Addr} {ρ : Vs} {os : List Addr} {s : Shared} {prog : Program} {w : World} {k : Nat}

theorem setItemP {A : Around} {l : Addr} {items : Array Value} {k : Int} {t : Tok} {v : Value} {Q : Unit → Shared → Prop} (hl : s.heap.PlainList l items) (h0 : 0 ≤ k) (hfit : k < 2 ^ 63) (hn : k < items.size)
    (hQ : ∀ h', h'.PlainList l (items.setIfInBounds k.toNat v) → Heap.SameBut l s.heap h' → Q () { s with heap := h' }) : wpAny (model prog w) A (setItem (.ref l) (.int k t) v) Q No s := by
  obtain ⟨n, ho⟩ := hl
  have hl' : s.heap.IsList l items := ⟨_, ho, rfl, n, rfl⟩
  unfold setItem
  try with_reducible refine wpAny_holding ?_
  first | refine wpAny_bind (wpAny_pure ?_) | skip
  refine wpAny_bind (wpAny_sequenceKey hl'.typeIs (by decide) ?_)
  refine wpAny_bind (wpAny_callSpecial?_slot (name := Str.ofString "__setitem__") hl'.typeIs slot_list_setitem
    (wpAny_call_entry slot_list_setitem hl'.typeIs entry_list_setitem ?_ (args_list_setitem _ _ _)))
  show wpAny _ _ (Builtin.List.listSubscript? (.int k t) >>= _) _ _ s
  refine wpAny_bind (wpAny_listSubscript_int (fitsIndex_of h0 hfit) ?_)
  clear hfit
  obtain ⟨j, rfl⟩ := Int.eq_ofNat_of_zero_le h0
  have hj : j < items.size := by omega
  have hx' : items[j]? = some items[j] := Array.getElem?_eq_getElem hj
  show wpAny _ _ ((seqItemAt l j >>= fun r => pure (r.map (j, ·))) >>= _) _ _ s
  refine wpAny_bind (wpAny_bind (wpAny_seqItemAt ho rfl (wpAny_pure ?_)))
  rw [hx']
  show wpAny _ _ (setSeqItemAt l j v >>= _) _ _ s
  have hfin : (s.heap.update l (Obj.mapSeq (·.setIfInBounds j v))).PlainList l (items.setIfInBounds j v) := ⟨_, IsL.update ho _⟩
  refine wpAny_bind (wpAny_setSeqItemAt ho rfl ?_)
  first
    | exact wpAny_bind (wpAny_pure (wpAny_pure ⟨.none, rfl, wpAny_pure (hQ _ hfin (Heap.SameBut.update ..))⟩))
    | exact wpAny_pure ⟨.none, rfl, wpAny_pure (hQ _ hfin (Heap.SameBut.update ..))⟩

theorem PE.subOwn (i : Nat) {x : Str} {its : List PyData} {px pos : Pos} {idx : Expr} {j : Int} {d : PyData} (hi : ρ[i]? = some (x, .o (.lst its))) (he : PE prog w k env B ρ idx (.int j)) (h0 : 0 ≤ j) (h1 : j < 2 ^ 63) (hd : its[j.toNat]? = some d)
    (hdb : (x == ("__debug__" : Str)) = false := by decide) (hs : ∀ o i, subscripted idx false o i = operate [o, i] (getItem o i) := by intro _ _; rfl) : PE prog w k env B ρ (.Subscript (.Name x px) idx pos) d := by
  constructor
  intro A os av s hA r
  obtain ⟨V, as, hv, ho, _⟩ := r.hold.own hi
  cases ho with
  | @lst a _ Vs b c =>
    refine Subscript_ (wpAny_NameHas r.ok.kind hv (wpAny_mono (he.out A os av s hA r) (fun W s₂ q => ?_) fun _ _ e => e) hdb)
    obtain ⟨t, rfl⟩ := q.1.int_inv
    obtain ⟨X, hX, hr⟩ := c.get hd
    have b₂ : s₂.heap.PlainList a Vs.toArray := b.at fun o e => kp q.2 _ o e
    refine wpAny_sub ⟨"list", _, list_getitem_lookup, b₂.isList.typeIs, wpAny_getItem_list b₂.isList h0 h1 (by simpa using hX) ⟨hr.keeps (kp q.2), q.2⟩⟩ (.inl (hs _ _))

/-- a list of one's own, after what the arguments did -/
theorem St.own {i : Nat} {x : Str} {its : List PyData} (X : St env B F av₀ ρ os s) (e : ρ[i]? = some (x, .o (.lst its))) :
    ∃ a Vs, Has env s.heap x (.ref a) ∧ s.heap.PlainList a Vs.toArray ∧ VRs (avOf env os av₀) s.heap its Vs ∧ a ∈ os ∧
      ∀ s', Keeps s s' → s'.heap.PlainList a Vs.toArray ∧ VRs (avOf env os av₀) s'.heap its Vs ∧ ∀ h' its' Vs', Heap.SameBut a s'.heap h' → h'.PlainList a Vs'.toArray → VRs (avOf env os av₀) s'.heap its' Vs' →
        Up s' { s' with heap := h' } ∧ St env B F av₀ (ρ.set i (x, .o (.lst its'))) os { s' with heap := h' } := by
  obtain ⟨V, as, hv, ho, hm, _⟩ := X.mut e
  cases ho with
  | @lst a _ Vs b c =>
    refine ⟨a, Vs, hv, b, c, hm a (.head _), fun s' kk => ⟨b.at fun o e => kp kk _ o e, c.keeps (kp kk), fun h' its' Vs' hs hl hy => ⟨⟨h', s'.toks, rfl⟩, ?_⟩⟩⟩
    obtain ⟨V', as', hv', ho', hm', fin⟩ := (X.keeps kk).mut e
    have eV : V' = .ref a := by
      have h1 := hv.keeps (kp kk)
      cases h1 with
      | loc p q r =>
        cases hv' with
        | loc p' q' r' => have := q.agree q' x; rw [r, r'] at this; cases this; rfl
        | cell p' q' r' => rw [p] at p'; cases p'
        | free p' q' r' => rw [p] at p'; cases p'
      | cell p q r =>
        cases hv' with
        | loc p' q' r' => rw [p] at p'; cases p'
        | cell p' q' r' =>
          rw [q] at q'; cases q'
          obtain ⟨o, e1, e2⟩ := r
          obtain ⟨o', e1', e2'⟩ := r'
          rw [e1] at e1'; cases e1'; rw [e2] at e2'; cases e2'; rfl
        | free p' q' r' => rw [p] at p'; cases p'
      | free p n q r =>
        cases hv' with
        | loc p' q' r' => rw [p] at p'; cases p'
        | cell p' q' r' => rw [p] at p'; cases p'
        | free p' n' q' r' =>
          rw [q] at q'; cases q'
          obtain ⟨o, e1, e2⟩ := r
          obtain ⟨o', e1', e2'⟩ := r'
          rw [e1] at e1'; cases e1'; rw [e2] at e2'; cases e2'; rfl
    subst eV
    cases ho' with
    | @lst _ _ Vs₂ b₂ c₂ =>
      exact fin a (.head _) h' s'.toks (.lst its') hs (.lst hl (hy.mv fun d o hsq hd eo => ⟨hd, (hs.2 d (by rintro rfl; exact hd (St.os_mem (hm _ (.head _))))).trans eo⟩))

theorem P1.append (i : Nat) {x : Str} {its : List PyData} {px apos cpos pos : Pos} {e : Expr} {d : PyData} (hi : ρ[i]? = some (x, .o (.lst its))) (he : PE prog w k env B ρ e d) (hn : its.length ≤ 16777216)
    (hbase : attributeBase (.Name x px) "append" env (eval (.Name x px) env) = eval (.Name x px) env := by rfl) (hline : (apos.endLine == cpos.line) = true := by rfl)
    (hse : isStar e = false := by rfl) (hdb : (x == ("__debug__" : Str)) = false := by decide) (hint : interactive env = false := by rfl) :
    P1 prog w k env B ρ (.Expr (.Call (.Attribute (.Name x px) "append" apos) [e] [] cpos) pos) (.nx (ρ.set i (x, .o (.lst (its ++ [d]))))) := by
  constructor
  intro A F av₀ os s hA X
  obtain ⟨a, Vs, hv, hl, hy, ha, fin⟩ := X.own hi
  refine wpAny_Expr (wpAny_Call_method hbase (few_one hse) hline PySem.F.plainAttrs_list PySem.F.slot_list_append PySem.F.type_list_append (wpAny_NameHas X.ok.kind hv ⟨hl.isList.typeIs, fun b hb => ?_, ?_⟩ hdb)) hint rfl
  · cases hb; obtain ⟨n, e⟩ := hl; exact ⟨_, e, rfl⟩
  · rw [back_one hse]
    refine Calls.callWith_builtin rfl (Calls.evalArgs_plain (Calls.spliced_cons (wpAny_mono (he.st hA X) (fun V s₁ p => Calls.spliced_nil ?_) fun _ _ e => e)))
    obtain ⟨hl₁, hy₁, fin₁⟩ := fin s₁ p.2
    refine wpAny_list_append_plain hl₁ (fun h' hl' hs => ?_) (by rw [List.size_toArray, hy.length]; exact hn)
    obtain ⟨u, X'⟩ := fin₁ h' (its ++ [d]) (Vs ++ [V]) hs (by rw [← List.push_toArray]; exact hl') (hy₁.append (.cons p.1 .nil))
    exact ⟨up_trans (up_kp p.2) u, rfl, os, X'⟩
theorem P1.insert0 (i : Nat) {x : Str} {its : List PyData} {px apos cpos pos : Pos} {e f : Expr} {d : PyData} (hi : ρ[i]? = some (x, .o (.lst its))) (hf : PE prog w k env B ρ f (.int 0)) (he : PE prog w k env B ρ e d) (hn : its.length ≤ 16777215)
    (hbase : attributeBase (.Name x px) "insert" env (eval (.Name x px) env) = eval (.Name x px) env := by rfl) (hline : (apos.endLine == cpos.line) = true := by rfl)
    (hsf : isStar f = false := by rfl) (hse : isStar e = false := by rfl) (hdb : (x == ("__debug__" : Str)) = false := by decide) (hint : interactive env = false := by rfl) :
    P1 prog w k env B ρ (.Expr (.Call (.Attribute (.Name x px) "insert" apos) [f, e] [] cpos) pos) (.nx (ρ.set i (x, .o (.lst (d :: its))))) := by
  constructor
  intro A F av₀ os s hA X
  obtain ⟨a, Vs, hv, hl, hy, ha, fin⟩ := X.own hi
  refine wpAny_Expr (wpAny_Call_method hbase (few_two hsf hse) hline PySem.F.plainAttrs_list PySem.F.slot_list_insert PySem.F.type_list_insert (wpAny_NameHas X.ok.kind hv ⟨hl.isList.typeIs, fun b hb => ?_, ?_⟩ hdb)) hint rfl
  · cases hb; obtain ⟨n, e⟩ := hl; exact ⟨_, e, rfl⟩
  · rw [back_two hsf hse]
    refine Calls.callWith_builtin rfl (Calls.evalArgs_plain (Calls.spliced_cons (wpAny_mono (hf.st hA X) (fun W s₀ p₀ => Calls.spliced_cons (wpAny_mono (he.st hA (X.keeps p₀.2)) (fun V s₁ p => Calls.spliced_nil ?_) fun _ _ e => e)) fun _ _ e => e)))
    obtain ⟨t, rfl⟩ := p₀.1.int_inv
    have kk := kp_trans p₀.2 p.2
    obtain ⟨hl₁, hy₁, fin₁⟩ := fin s₁ kk
    obtain ⟨n, hl₂⟩ := hl₁
    refine call_meets PySem.F.slot_list_insert ⟨_, hl₂, rfl⟩ PySem.F.entry_list_insert (PySem.F.args_list_insert_3 _ _ _) (AutoSeq1.list_insert_list_int_val_1 a Vs.toArray n 0 t V (by decide) (by rw [List.size_toArray, hy.length]; exact Nat.le_trans hn (by decide))) ⟨hl₂, ?_⟩
    have hl₃ := IsL.update hl₂ (fun xs : Array Value => ((xs.extract 0 (min (0 : Int).toNat xs.size)).push V ++ xs.extract (min (0 : Int).toNat xs.size)))
    have e0 : (((Vs.toArray.extract 0 (min (0 : Int).toNat Vs.toArray.size)).push V ++ Vs.toArray.extract (min (0 : Int).toNat Vs.toArray.size)) : Array Value) = (V :: Vs).toArray := by
      apply Array.toList_inj.mp
      simp
    rw [e0] at hl₃
    obtain ⟨u, X'⟩ := fin₁ _ (d :: its) (V :: Vs) (Heap.SameBut.update s₁.heap a (Obj.mapSeq fun xs : Array Value => ((xs.extract 0 (min (0 : Int).toNat xs.size)).push V ++ xs.extract (min (0 : Int).toNat xs.size)))) ⟨_, hl₃⟩ (.cons p.1 hy₁)
    exact ⟨up_trans (up_kp kk) u, rfl, os, X'⟩
theorem P1.extend (i : Nat) {x : Str} {its more : List PyData} {px apos cpos pos : Pos} {e : Expr} (hi : ρ[i]? = some (x, .o (.lst its))) (he : PE prog w k env B ρ e (.list more)) (hn : its.length + more.length ≤ 16777216)
    (hbase : attributeBase (.Name x px) "extend" env (eval (.Name x px) env) = eval (.Name x px) env := by rfl) (hline : (apos.endLine == cpos.line) = true := by rfl)
    (hse : isStar e = false := by rfl) (hdb : (x == ("__debug__" : Str)) = false := by decide) (hint : interactive env = false := by rfl) :
    P1 prog w k env B ρ (.Expr (.Call (.Attribute (.Name x px) "extend" apos) [e] [] cpos) pos) (.nx (ρ.set i (x, .o (.lst (its ++ more))))) := by
  constructor
  intro A F av₀ os s hA X
  obtain ⟨a, Vs, hv, hl, hy, ha, fin⟩ := X.own hi
  refine wpAny_Expr (wpAny_Call_method hbase (few_one hse) hline PySem.F.plainAttrs_list PySem.F.slot_list_extend PySem.F.type_list_extend (wpAny_NameHas X.ok.kind hv ⟨hl.isList.typeIs, fun b hb => ?_, ?_⟩ hdb)) hint rfl
  · cases hb; obtain ⟨n, e⟩ := hl; exact ⟨_, e, rfl⟩
  · rw [back_one hse]
    refine P.extend_list (wpAny_mono (he.st hA X) (fun V s₁ p => ?_) fun _ _ e => e)
    obtain ⟨b, vs, n2, rfl, hb, e2, hv2⟩ := p.1.list_inv
    obtain ⟨hl₁, hy₁, fin₁⟩ := fin s₁ p.2
    obtain ⟨n, hl₂⟩ := hl₁
    have hsz : vs.size = more.length := by rw [← Array.length_toList, hv2.length]
    have hsz1 : Vs.toArray.size = its.length := by rw [List.size_toArray, hy.length]
    refine ⟨b, Vs.toArray, vs, n, n2, by rw [hsz1]; exact sz24 (by omega), by rw [hsz, hsz1]; exact Nat.le_succ_of_le (sz24 hn), ?_, rfl, hl₂, e2, ?_⟩
    · rw [hsz, hsz1]
      have : Builtin.List.listTooLong (its.length + more.length) = false := by
        unfold Builtin.List.listTooLong
        simp
        exact Nat.le_trans hn (by decide)
      simp [this]
    · have hl₃ := IsL.update hl₂ (fun xs : Array Value => xs ++ vs)
      have e0 : (Vs.toArray ++ vs : Array Value) = (Vs ++ vs.toList).toArray := by apply Array.toList_inj.mp; simp
      rw [e0] at hl₃
      obtain ⟨u, X'⟩ := fin₁ _ (its ++ more) (Vs ++ vs.toList) (Heap.SameBut.update s₁.heap a (Obj.mapSeq fun xs : Array Value => xs ++ vs)) ⟨_, hl₃⟩ (hy₁.append hv2)
      exact ⟨up_trans (up_kp p.2) u, rfl, os, X'⟩
theorem P1.setSub (i : Nat) {x : Str} {its : List PyData} {px spos pos : Pos} {e idx : Expr} {d : PyData} {j : Int} (hi : ρ[i]? = some (x, .o (.lst its))) (he : PE prog w k env B ρ e d) (hj : PE prog w k env B ρ idx (.int j)) (h0 : 0 ≤ j) (h1 : j < its.length) (hn : its.length ≤ 16777216)
    (hdb : (x == ("__debug__" : Str)) = false := by decide) (hs : swapsWith e (some (.Subscript (.Name x px) idx spos)) pos.line env = pure false := by rfl) :
    P1 prog w k env B ρ (.Assign [.Subscript (.Name x px) idx spos] e pos) (.nx (ρ.set i (x, .o (.lst (its.set j.toNat d))))) := by
  constructor
  intro A F av₀ os s hA X
  obtain ⟨a, Vs, hv, hl, hy, ha, fin⟩ := X.own hi
  refine wpAny_Assign_Subscript (wpAny_mono (he.st hA X) (fun V s₁ p => wpAny_NameHas X.ok.kind (hv.keeps (kp p.2)) (wpAny_mono (hj.st hA (X.keeps p.2)) (fun W s₂ q => ?_) fun _ _ e => e) hdb) fun _ _ e => e) hs
  obtain ⟨t, rfl⟩ := q.1.int_inv
  have kk := kp_trans p.2 q.2
  obtain ⟨hl₁, hy₁, fin₁⟩ := fin s₂ kk
  refine setItemP hl₁ h0 (by omega) (by rw [List.size_toArray, hy.length]; exact h1) fun h' hl' hs' => ?_
  obtain ⟨u, X'⟩ := fin₁ h' (its.set j.toNat d) (Vs.set j.toNat V) hs' (by rw [← List.setIfInBounds_toArray]; exact hl') (hy₁.set _ (p.1.keeps (kp q.2)))
  exact ⟨up_trans (up_kp kk) u, rfl, os, X'⟩
theorem P1.augSub (i : Nat) {x : Str} {its : List PyData} {px spos pos : Pos} {e idx : Expr} {op : Operator} {c b d : PyData} {j : Int} (hi : ρ[i]? = some (x, .o (.lst its))) (hj : PE prog w k env B ρ idx (.int j)) (h0 : 0 ≤ j) (hd : its[j.toNat]? = some c) (hn : its.length ≤ 16777216) (he : PE prog w k env B ρ e b) (ho : InR prog w k op c b d)
    (hdb : (x == ("__debug__" : Str)) = false := by decide) (hau : ∀ ov iv new, augStore idx ov iv new = (do holding [new, ov, iv] (setItem ov iv new); release [new, ov, iv] []; pure .next) := by intros; rfl) :
    P1 prog w k env B ρ (.AugAssign (.Subscript (.Name x px) idx spos) op e pos) (.nx (ρ.set i (x, .o (.lst (its.set j.toNat d))))) := by
  constructor
  intro A F av₀ os s hA X
  obtain ⟨a, Vs, hv, hl, hy, ha, fin⟩ := X.own hi
  have hlt := lt_of_at hd
  refine wpAny_AugAssign_SubscriptAny (wpAny_NameHas X.ok.kind hv (wpAny_mono (hj.st hA X) (fun W s₁ q => ?_) fun _ _ e => e) hdb) hau
  obtain ⟨t, rfl⟩ := q.1.int_inv
  obtain ⟨hl₁, hy₁, fin₁⟩ := fin s₁ q.2
  obtain ⟨C, hC, hr⟩ := hy₁.get hd
  refine wpAny_getItem_list hl₁.isList h0 (by omega) (by simpa using hC) ?_
  refine wpAny_mono (he.st hA (X.keeps q.2)) (fun V s₂ p => ?_) fun _ _ e => e
  refine wpAny_mono (ho.out A _ s₂ C V hA ((X.keeps q.2).keeps p.2).avA (hr.keeps (kp p.2)) p.1) (fun Y s₃ z => ?_) fun _ _ e => e
  have kk := kp_trans q.2 (kp_trans p.2 z.2)
  obtain ⟨hl₃, hy₃, fin₃⟩ := fin s₃ kk
  refine setItemP hl₃ h0 (by omega) (by rw [List.size_toArray, hy.length]; omega) fun h' hl' hs' => ?_
  obtain ⟨u, X'⟩ := fin₃ h' (its.set j.toNat d) (Vs.set j.toNat Y) hs' (by rw [← List.setIfInBounds_toArray]; exact hl') (hy₃.set _ z.1)
  exact ⟨up_trans (up_kp kk) u, rfl, os, X'⟩
theorem P1.set2 (i j : Nat) {x y : Str} {sl sl' : Sl} {e : Expr} {px py pos : Pos} {d : PyData} (he : PE prog w k env B ρ e d) (hi : ρ[i]? = some (x, sl)) (hk : Stor env x) (hj : (ρ.set i (x, .v d))[j]? = some (y, sl')) (hk' : Stor env y)
    (hw : swappedStores [.Name x px, .Name y py] e env = pure none := by rfl) :
    P1 prog w k env B ρ (.Assign [.Name x px, .Name y py] e pos) (.nx ((ρ.set i (x, .v d)).set j (y, .v d))) := by
  constructor
  intro A F av₀ os s hA X
  refine wpAny_Assign_two (wpAny_mono (he.st hA X) (fun V s₁ p => wpAny_mono (wpAny_assign_Name ((X.keeps p.2).putV' hi hk p.1)) (fun _ s₂ q => ?_) fun _ _ e => e) fun _ _ e => e) rfl hw
  exact wpAny_mono (wpAny_assign_Name (q.2.1.putV hj hk' (p.1.pres q.2.2))) (fun _ s₃ z => ⟨up_trans (up_kp p.2) (up_trans q.1 z.1), rfl, _, z.2⟩) fun _ _ e => e
end
end Mine
end
section
open PySem PySem.W PyProof.Rows
set_option linter.unusedVariables false
namespace Mine
section
variable {env : Env} {B : Heap} {F : Fp} {av₀ : List Addr} {ρ : Vs} {os : List Addr} {s : Shared} {prog : Program} {w : World} {k : Nat}

theorem bindL_get {kf : Str → Option NameKind} {x : Str} {V : Value} : ∀ {bs : List (Str × Value)} {m : Str → Option Value}, (bs.map (·.1)).Nodup → kf x = some .local → ((x, V) ∈ bs ∨ ((∀ p ∈ bs, p.1 ≠ x) ∧ m x = some V)) → bindL kf bs m x = some V
  | [], m, _, _, h => by
    rcases h with h | h
    · cases h
    · exact h.2
  | (y, W) :: bs, m, n, hk, h => by
    rw [List.map_cons, List.nodup_cons] at n
    unfold bindL
    refine bindL_get n.2 hk ?_
    rcases h with h | h
    · rcases List.mem_cons.mp h with h | h
      · cases h
        exact .inr ⟨fun p hp e => n.1 (e ▸ List.mem_map_of_mem (f := (·.1)) hp), by rw [if_pos hk]; exact if_pos rfl⟩
      · exact .inl h
    · refine .inr ⟨fun p hp => h.1 p (.tail _ hp), ?_⟩
      by_cases hl : kf y = some .local
      · rw [if_pos hl]; exact (if_neg (Ne.symm (h.1 _ (.head _)))).trans h.2
      · rw [if_neg hl]; exact h.2
theorem bindC_get {kf : Str → Option NameKind} {x : Str} {V : Value} : ∀ {bs : List (Str × Value)} {m : Str → Option Value}, (bs.map (·.1)).Nodup → kf x ≠ some .local → ((x, V) ∈ bs ∨ ((∀ p ∈ bs, p.1 ≠ x) ∧ m x = some V)) → bindC kf bs m x = some V
  | [], m, _, _, h => by
    rcases h with h | h
    · cases h
    · exact h.2
  | (y, W) :: bs, m, n, hk, h => by
    rw [List.map_cons, List.nodup_cons] at n
    unfold bindC
    refine bindC_get n.2 hk ?_
    rcases h with h | h
    · rcases List.mem_cons.mp h with h | h
      · cases h
        exact .inr ⟨fun p hp e => n.1 (e ▸ List.mem_map_of_mem (f := (·.1)) hp), by rw [if_neg hk]; exact if_pos rfl⟩
      · exact .inl h
    · refine .inr ⟨fun p hp => h.1 p (.tail _ hp), ?_⟩
      by_cases hl : kf y = some .local
      · rw [if_pos hl]; exact h.2
      · rw [if_neg hl]; exact (if_neg (Ne.symm (h.1 _ (.head _)))).trans h.2

/-- a def's names as the body finds them: the parameters hold what was given -/
def inits (ns : List Str) (ds : List PyData) (rest : List Str) : Vs := (ns.zip ds).map (fun p => (p.1, Sl.v p.2)) ++ rest.map fun y => (y, Sl.no)
theorem zip_fst : ∀ {ns : List Str} {Vs : List Value}, Vs.length = ns.length → (ns.zip Vs).map (·.1) = ns
  | [], _, _ => rfl
  | n :: ns, [], h => by simp at h
  | n :: ns, V :: Vs, h => by rw [List.zip_cons_cons, List.map_cons, zip_fst (by simpa using h)]
theorem zip_fst' : ∀ {ns : List Str} {Vs : List PyData}, Vs.length = ns.length → (ns.zip Vs).map (·.1) = ns
  | [], _, _ => rfl
  | n :: ns, [], h => by simp at h
  | n :: ns, V :: Vs, h => by rw [List.zip_cons_cons, List.map_cons, zip_fst' (by simpa using h)]
theorem Hold.no {av : List Addr} {h : Heap} : ∀ (rest : List Str), Hold env av h (rest.map fun y => (y, Sl.no)) []
  | [] => .nil
  | y :: r => .cons (as := []) (os := []) .no (Hold.no r)
theorem Hold.init {av : List Addr} {h : Heap} {rest : List Str} : ∀ {ns : List Str} {ds : List PyData} {Vs : List Value}, (∀ p ∈ ns.zip Vs, Has env h p.1 p.2) → VRs av h ds Vs → ds.length = ns.length → Hold env av h (inits ns ds rest) []
  | [], [], Vs, f, v, _ => Hold.no rest
  | [], d :: ds, _, _, _, l => by simp at l
  | n :: ns, [], _, _, _, l => by simp at l
  | n :: ns, d :: ds, Vs, f, v, l => by
    obtain ⟨V, Vs', rfl, r, q⟩ := v.cons_inv
    exact .cons (as := []) (os := []) (.v (f (n, V) (.head _)) r) (Hold.init (fun p hp => f p (.tail _ hp)) q (by simpa using l))

theorem fn_enter {x : Str} {f : Addr} {params : Arguments} {body : List Stmt} {scope : Scope} {ns : List Str} {ds : List PyData} {rest : List Str} {B : Heap} {A : Around} {av : List Addr} {s : Shared} {Vs : List Value} {Q : Value → Shared → Prop} (g : Fn B x f params body scope) (hl : ds.length = ns.length)
    (hbind : ∀ (Vs : List Value) pm cd doc, Vs.length = ns.length → bindArgs (Calls.docDef x params body scope pm cd doc) ⟨Vs, []⟩ = pure (ns.zip Vs))
    (hkind : ∀ L, ∀ y ∈ ns, scope.names.lookup y = some .local ∨ (scope.names.lookup y = some .cell ∧ ((cellsFrom (L + 1) scope.names []).lookup y).isSome = true))
    (hn : (ns ++ rest).Nodup) (hcn : ∀ L, ((cellsFrom (L + 1) scope.names []).map (·.1)).Nodup) (hA : OkA (k + 1) A) (hB : ∀ b o, B.get? b = some o → s.heap.get? b = some o) (hal : ∀ a ∈ av, ∃ o, s.heap.get? a = some o) (y : VRs av s.heap ds Vs)
    (hbody : ∀ L cd h₁ tk, L = s.heap.objs.size → St (envOfC x scope L f cd) B (fun b => s.heap.get? b) av (inits ns ds rest) [] { s with heap := h₁, toks := tk } →
      wpAny (model prog w) (A.deeper (envOfC x scope L f cd)) (execs body (envOfC x scope L f cd)) (fun fl s' => Q (match fl with | .ret v => v | _ => .none) s') (fun _ _ => False) { s with heap := h₁, toks := tk })
    (hco : scope.isCoroutine = false := by rfl) (hgen : scope.isGenerator = false := by rfl) (hk : scope.kind = .function := by rfl) :
    wpAny (model prog w) A (call (.ref f) Vs) Q (fun _ _ => False) s := by
  obtain ⟨o, pm, cd, doc, ho, hdat, hcode⟩ := g.o
  have hlen : Vs.length = ns.length := by rw [y.length, hl]
  refine wpAny_call (call_cells_ret hA.room (hB _ _ ho) hdat (g.lim.keeps hB) (hcode.keeps hB) (hbind Vs pm cd doc hlen) (fun p hp => ?_) (fun h₁ tk Fr Cl => ?_) hco hgen hk)
  · obtain ⟨y, V⟩ := p
    exact hkind _ y (List.of_mem_zip hp).1
  · generalize hL : s.heap.objs.size = L at Fr Cl ⊢
    have hLn : s.heap.get? L = none := by rw [← hL]; exact next_none _
    have dead : ∀ a, L ≤ a → s.heap.get? a = none := fun a ha => by
      cases e : s.heap.get? a with
      | none => rfl
      | some o => exact absurd (Heap.lt_size e) (by rw [hL]; exact Nat.not_lt.mpr ha)
    have hcd : ∀ p ∈ cellsFrom (L + 1) scope.names [], s.heap.get? p.2 = none := fun p hp => dead _ (Nat.le_of_lt (Cl.above p.1 p.2 hp))
    have hlk : ∀ {l : List (Str × Addr)}, (l.map (·.1)).Nodup → ∀ p ∈ l, l.lookup p.1 = some p.2 := by
      intro l
      induction l with
      | nil => intro _ p hp; cases hp
      | cons q l ih =>
        intro hn p hp
        rw [List.map_cons, List.nodup_cons] at hn
        rcases List.mem_cons.mp hp with rfl | hp
        · rw [List.lookup_cons]; simp
        · have : (p.1 == q.1) = false := by
            rw [beq_eq_false_iff_ne]
            intro e; exact hn.1 (e ▸ List.mem_map_of_mem (f := (·.1)) hp)
          rw [List.lookup_cons, this]; exact ih hn.2 p hp
    have fresh : ∀ a ∈ (envOfC x scope L f cd).locals :: ((envOfC x scope L f cd).cells.map (·.2) ++ []), s.heap.get? a = none := by
      intro a ha
      rcases List.mem_cons.mp ha with rfl | ha
      · exact hLn
      · rw [List.append_nil] at ha
        obtain ⟨p, hp, rfl⟩ := List.mem_map.mp ha
        exact hcd p hp
    have mv : Mv av s.heap (avOf (envOfC x scope L f cd) [] av) h₁ := fun a o hs ha e => ⟨fun hm => by
      rcases av_md hm with h | h
      · rw [fresh a h] at e; cases e
      · exact ha h, Fr.keep a o e⟩
    have hzn : ((ns.zip Vs).map (·.1)).Nodup := by rw [zip_fst hlen]; exact (List.nodup_append.mp hn).1
    have has : ∀ p ∈ ns.zip Vs, Has (envOfC x scope L f cd) h₁ p.1 p.2 := by
      rintro ⟨y, V⟩ hp
      rcases hkind L y (List.of_mem_zip hp).1 with h | ⟨h, hc⟩
      · exact .loc (env := envOfC x scope L f cd) h Fr.ns (bindL_get hzn h (.inl hp))
      · obtain ⟨c, hc⟩ := Option.isSome_iff_exists.mp hc
        refine .cell (env := envOfC x scope L f cd) h hc ?_
        have h1 := Cl.cell y c hc
        rw [bindC_get hzn (by show scope.names.lookup y ≠ some .local; rw [h]; decide) (.inl hp)] at h1
        exact h1
    have X : St (envOfC x scope L f cd) B (fun b => s.heap.get? b) av (inits ns ds rest) [] { s with heap := h₁, toks := tk } := {
      ok := ⟨hk, rfl, rfl⟩
      base := hB
      keep := Fr.keep
      hold := ⟨[], Hold.init has (y.mv mv) hl, fun a ha => (by cases ha), List.nodup_nil⟩
      ns := ⟨_, Fr.ns⟩
      cells := fun p hp => ⟨_, Cl.cell p.1 p.2 (hlk (hcn L) p hp)⟩
      inj := fun a b c h1 h2 => PySem.name_of_addr Cl.apart (mem_of_lookup h1) (mem_of_lookup h2)
      fresh := fresh
      old := hal
      osA := fun a ha => by cases ha
      ap := fun a ha => by cases ha
      names := by
        unfold inits
        rw [List.map_append, List.map_map, List.map_map]
        have e1 : ((fun p : Str × Sl => p.1) ∘ fun p : Str × PyData => (p.1, Sl.v p.2)) = (·.1) := rfl
        have e2 : ((fun p : Str × Sl => p.1) ∘ fun y : Str => (y, Sl.no)) = id := rfl
        rw [e1, e2, List.map_id, zip_fst' hl]
        exact hn }
    exact wpAny_mono (hbody L cd h₁ tk hL.symm X) (fun fl s' q => q) fun _ _ e => e
theorem one_of {Vs : List Value} (h : Vs.length = 1) : ∃ V, Vs = [V] := List.length_eq_one_iff.mp h
theorem two_of {Vs : List Value} (h : Vs.length = 2) : ∃ V W, Vs = [V, W] := by
  match Vs, h with
  | [V, W], _ => exact ⟨V, W, rfl⟩
theorem three_of {Vs : List Value} (h : Vs.length = 3) : ∃ V W X, Vs = [V, W, X] := by
  match Vs, h with
  | [V, W, X], _ => exact ⟨V, W, X, rfl⟩
theorem CallR.fn {x : Str} {f : Addr} {params : Arguments} {body : List Stmt} {scope : Scope} {ns : List Str} {ds : List PyData} {rest : List Str} {d : PyData} (g : Fn B x f params body scope) (hl : ds.length = ns.length)
    (hbind : ∀ (Vs : List Value) pm cd doc, Vs.length = ns.length → bindArgs (Calls.docDef x params body scope pm cd doc) ⟨Vs, []⟩ = pure (ns.zip Vs))
    (hkind : ∀ L, ∀ y ∈ ns, scope.names.lookup y = some .local ∨ (scope.names.lookup y = some .cell ∧ ((cellsFrom (L + 1) scope.names []).lookup y).isSome = true))
    (hn : (ns ++ rest).Nodup) (hcn : ∀ L, ((cellsFrom (L + 1) scope.names []).map (·.1)).Nodup)
    (hbody : ∀ L cd, PS prog w k (envOfC x scope L f cd) B (inits ns ds rest) body (.rt d)) (hco : scope.isCoroutine = false := by rfl) (hgen : scope.isGenerator = false := by rfl) (hk : scope.kind = .function := by rfl) :
    CallR prog w (k + 1) B (.ref f) ds d := by
  constructor
  intro A av s Vs hA hB hal y
  refine fn_enter (rest := rest) g hl hbind hkind hn hcn hA hB hal y (fun L cd h₁ tk hL X => ?_) hco hgen hk
  refine wpAny_mono ((hbody L cd).out (A.deeper (envOfC x scope L f cd)) _ av [] _ hA.deeper X) (fun fl s' q => ?_) fun _ _ e => e
  obtain ⟨⟨h', t', rfl⟩, V, rfl, hv, hk⟩ := q
  exact ⟨hv, h', t', rfl, hk⟩
end
end Mine
end
section
open PySem PySem.W PyProof.Rows
set_option linter.unusedVariables false
namespace Mine
section
variable {env : Env} {B : Heap} {F : Fp} {av₀ : List Addr} {ρ : Vs} {os : List Addr} {s : Shared} {prog : Program} {w : World} {k : Nat}

theorem PE.gint {x : Str} {pos : Pos} {i : Int} (g : ∃ t, BG B x (.int i t)) (hk : env.kindOf x = some .globalImplicit) (hd : (x == ("__debug__" : Str)) = false := by decide) : PE prog w k env B ρ (.Name x pos) (.int i) := by
  constructor
  intro A os av s hA r
  obtain ⟨t, g⟩ := g
  exact wpAny_NameG r.ok hk g r.base ⟨.int, kp_refl s⟩ hd

theorem preSum_get (ns : List Int) : ∀ n, n ≤ ns.length → preSum (fun i => ns.getD i 0) n = (ns.take n).sum
  | 0, _ => by simp [preSum]
  | n + 1, h => by
    unfold preSum
    rw [preSum_get ns n (Nat.le_of_succ_le h), List.take_add_one, List.sum_append]
    have : ns[n]? = some ns[n] := List.getElem?_eq_getElem h
    simp [List.getD, this]
theorem ints_get {ns : List Int} {vs : List Value} (h : IntsAre vs ns) : ∀ (i : Nat) v, vs[i]? = some v → ∃ t, v = .int (ns.getD i 0) t := by
  induction h with
  | nil => intro i v e; simp at e
  | cons n t r ih =>
    intro i v e
    cases i with
    | zero => cases e; exact ⟨t, rfl⟩
    | succ i => exact ih i v e
theorem CallR.sum {ns : List Int} : CallR prog w k B (.builtin "sum") [.list (ns.map .int)] (.int ns.sum) := by
  constructor
  intro A av s Vs hA hB hal y
  obtain ⟨V, rfl, x⟩ := y.one
  obtain ⟨a, vs, n, rfl, ha, e, hv⟩ := x.list_inv
  have hI := hv.ints
  have hsz : vs.size = ns.length := by rw [← Array.length_toList, hI.length]
  have hne : a ≠ s.heap.objs.size := fun h => by rw [h, next_none] at e; cases e
  refine call_sum_walkG (wpAny_pyIter_list (isList_of e) ⟨s.heap.objs.size, [s.heap.objs.size, a], [s.heap.objs.size], vs.size, _, _, fun i => ns.getD i 0, rfl, Walks.list (show A.in1.handled = none from hA.hh) s.heap.objs.size a hne vs, ⟨⟨_, Heap.get?_push_size _ rfl, rfl, rfl⟩, (isList_of e).push _⟩, fun b hb => ?_, fun i v hv => ints_get hI i v (by rw [toList_at]; exact hv), fun h' tk t' hk => ?_⟩)
  · rw [Heap.size_push]
    simp only [List.mem_cons, List.not_mem_nil, or_false] at hb
    rcases hb with rfl | rfl
    · exact Nat.lt_succ_self _
    · exact Nat.lt_succ_of_lt (Heap.lt_size e)
  · rw [preSum_get ns vs.size (Nat.le_of_eq hsz), hsz, List.take_length]
    refine ⟨VR.int (av := av), h', tk, rfl, fun b o eb => hk b o ?_ (Heap.get?_push_of_some _ eb)⟩
    simp only [List.mem_cons, List.not_mem_nil, or_false]
    rintro rfl
    exact absurd (Heap.lt_size eb) (Nat.lt_irrefl _)
/-- the least of a list of numbers, the first one where several are -/
def minOf (ns : List Int) : Int := ns.getD (argBest (fun i j => decide (ns.getD i 0 < ns.getD j 0)) (ns.length - 1)) 0
theorem CallR.minL {ns : List Int} (h0 : ns ≠ []) : CallR prog w k B (.builtin "min") [.list (ns.map .int)] (.int (minOf ns)) := by
  constructor
  intro A av s Vs hA hB hal y
  obtain ⟨V, rfl, x⟩ := y.one
  obtain ⟨a, vs, n, rfl, ha, e, hv⟩ := x.list_inv
  have hI := hv.ints
  have hsz : vs.size = ns.length := by rw [← Array.length_toList, hI.length]
  have hne : a ≠ s.heap.objs.size := fun h => by rw [h, next_none] at e; cases e
  have hval : ∀ i (v : Value), vs[i]? = some v → ∃ t, v = .int (ns.getD i 0) t := fun i v hv => ints_get hI i v (by rw [toList_at]; exact hv)
  refine call_min_walk (wpAny_pyIter_list (isList_of e) ⟨s.heap.objs.size, [s.heap.objs.size, a], [s.heap.objs.size], vs.size, fun i v => vs[i]? = some v, _, fun i j => decide (ns.getD i 0 < ns.getD j 0), rfl, Walks.list (show A.in1.handled = none from hA.hh) s.heap.objs.size a hne vs, ⟨⟨_, Heap.get?_push_size _ rfl, rfl, rfl⟩, (isList_of e).push _⟩, fun b hb => ?_, ?_, CmpOf.ints_lt (fun i => ns.getD i 0) hval, fun v h' tk hp hk => ?_⟩)
  · rw [Heap.size_push]
    simp only [List.mem_cons, List.not_mem_nil, or_false] at hb
    rcases hb with rfl | rfl
    · exact Nat.lt_succ_self _
    · exact Nat.lt_succ_of_lt (Heap.lt_size e)
  · rw [hsz]
    exact List.length_pos_iff.mpr h0
  · obtain ⟨t, rfl⟩ := hval _ _ hp
    rw [hsz]
    refine ⟨VR.int (av := av), h', tk, rfl, fun b o eb => hk b o ?_ (Heap.get?_push_of_some _ eb)⟩
    simp only [List.mem_cons, List.not_mem_nil, or_false]
    rintro rfl
    exact absurd (Heap.lt_size eb) (Nat.lt_irrefl _)
theorem countP_isInt' (k : Int) : ∀ {vs : List Value} {ns : List Int}, IntsAre vs ns → vs.countP (isInt k) = ns.count k
  | _, _, .nil => rfl
  | _, _, .cons n t h => by
    rw [List.countP_cons, List.count_cons, countP_isInt' k h]
    rfl

/-- an attribute of a value that is called -/
structure Mth0 (prog : Program) (w : World) (k : Nat) (o : PyData) (name : Str) (d : PyData) : Prop where
  out : ∀ A av s V pos, OkA k A → (∀ a ∈ av, ∃ o, s.heap.get? a = some o) → VR av s.heap o V → MethodOnS prog w A No name V pos [] (fun X s' => VR av s'.heap d X ∧ Keeps s s') s
structure Mth1 (prog : Program) (w : World) (k : Nat) (o : PyData) (name : Str) (e d : PyData) : Prop where
  out : ∀ A av s V pos a, OkA k A → (∀ a ∈ av, ∃ o, s.heap.get? a = some o) → VR av s.heap o V → wpAny (model prog w) A a (fun W s' => VR av s'.heap e W ∧ Keeps s s') No s →
    MethodOnS prog w A No name V pos [(false, a)] (fun X s' => VR av s'.heap d X ∧ Keeps s s') s
theorem PE.meth0 {o : Expr} {name : Str} {apos pos : Pos} {od d : PyData} (ho : PE prog w k env B ρ o od) (hm : Mth0 prog w k od name d)
    (hbase : attributeBase o name env (eval o env) = eval o env := by rfl) (hline : (apos.endLine == pos.line) = true := by rfl) : PE prog w k env B ρ (.Call (.Attribute o name apos) [] [] pos) d := by
  constructor
  intro A os av s hA r
  refine Call_method0 hbase hline (wpAny_mono (ho.out A os av s hA r) (fun V s₁ p => ?_) fun _ _ e => e)
  obtain ⟨T, id, h1, h2, h3, h4, h5, h6⟩ := hm.out A av s₁ V pos hA (r.keeps p.2).alive p.1
  exact ⟨T, id, h1, h2, h3, h4, h5, wpAny_mono h6 (fun X s₂ q => ⟨q.1, kp_trans p.2 q.2⟩) fun _ _ e => e⟩
theorem PE.meth1 {o e : Expr} {name : Str} {apos pos : Pos} {od ed d : PyData} (ho : PE prog w k env B ρ o od) (he : PE prog w k env B ρ e ed) (hm : Mth1 prog w k od name ed d)
    (hbase : attributeBase o name env (eval o env) = eval o env := by rfl) (hs : isStar e = false := by rfl) (hline : (apos.endLine == pos.line) = true := by rfl) : PE prog w k env B ρ (.Call (.Attribute o name apos) [e] [] pos) d := by
  constructor
  intro A os av s hA r
  refine Call_method1 hbase (star_one hs) hline (wpAny_mono (ho.out A os av s hA r) (fun V s₁ p => ?_) fun _ _ e => e)
  obtain ⟨T, id, h1, h2, h3, h4, h5, h6⟩ := hm.out A av s₁ V pos (eval e env) hA (r.keeps p.2).alive p.1 (he.out A os av s₁ hA (r.keeps p.2))
  exact ⟨T, id, h1, h2, h3, h4, h5, wpAny_mono h6 (fun X s₂ q => ⟨q.1, kp_trans p.2 q.2⟩) fun _ _ e => e⟩
theorem Mth0.lower {x : Str} (h : (Txt.lower x).length ≤ 16777216) : Mth0 prog w k (.str x) "lower" (.str (Txt.lower x)) := by
  constructor
  intro A av s V pos hA hal hV
  obtain ⟨t, rfl⟩ := hV.str_inv
  exact SB.lower (by unfold Builtin.Str.tooLong; exact decide_eq_false (Nat.not_lt.mpr (sz24 h))) ⟨.str, kp_tok s _⟩
theorem Mth0.upper {x : Str} (h : (Txt.upper x).length ≤ 16777216) : Mth0 prog w k (.str x) "upper" (.str (Txt.upper x)) := by
  constructor
  intro A av s V pos hA hal hV
  obtain ⟨t, rfl⟩ := hV.str_inv
  exact SB.upper (by unfold Builtin.Str.tooLong; exact decide_eq_false (Nat.not_lt.mpr (sz24 h))) ⟨.str, kp_tok s _⟩
theorem Mth1.find {x y : Str} : Mth1 prog w k (.str x) "find" (.str y) (.int (Txt.find x y)) := by
  constructor
  intro A av s V pos a hA hal hV ha
  obtain ⟨t, rfl⟩ := hV.str_inv
  refine SB.find (wpAny_mono ha (fun W s₁ p => ?_) fun _ _ e => e)
  obtain ⟨u, rfl⟩ := p.1.str_inv
  exact ⟨_, _, rfl, .int, kp_trans p.2 (kp_tok _ _)⟩
theorem VRs.strs {av : List Addr} {h : Heap} : ∀ {ns : List Str} {Vs : List Value}, VRs av h (ns.map .str) Vs → ∃ l : List (Str × Tok), Vs = strValues l ∧ l.map (·.1) = ns
  | [], _, y => ⟨[], by rw [y.nil_inv]; rfl, rfl⟩
  | n :: ns, _, y => by
    obtain ⟨V, Vs', rfl, r, q⟩ := VRs.cons_inv (d := .str n) (ds := ns.map .str) y
    obtain ⟨t, rfl⟩ := r.str_inv
    obtain ⟨l, rfl, rfl⟩ := q.strs
    exact ⟨(n, t) :: l, rfl, rfl⟩
theorem Mth1.join {x : Str} {ns : List Str} (hj : JoinOk x ns = true) : Mth1 prog w k (.str x) "join" (.list (ns.map .str)) (.str (Txt.join x ns)) := by
  constructor
  intro A av s V pos a hA hal hV ha
  obtain ⟨t, rfl⟩ := hV.str_inv
  refine SB.join (wpAny_mono ha (fun W s₁ p => ?_) fun _ _ e => e)
  obtain ⟨a, vs, n, rfl, ha, e, hv⟩ := p.1.list_inv
  obtain ⟨l, hl, hl2⟩ := hv.strs
  refine ⟨a, l, rfl, ?_, ns, hl2, hj, fun t' kk => ⟨.str, kp_trans p.2 (kp_tok _ _)⟩⟩
  rw [← hl, Array.toArray_toList]; exact isList_of e
theorem Mth1.count {ns : List Int} {i : Int} : Mth1 prog w k (.list (ns.map .int)) "count" (.int i) (.int (ns.count i : Nat)) := by
  constructor
  intro A av s V pos a hA hal hV ha
  obtain ⟨b, vs, n, rfl, hb, e, hv⟩ := hV.list_inv
  refine ⟨"list", _, PySem.F.plainAttrs_list, PySem.F.slot_list_count, PySem.F.type_list_count, (isList_of e).typeIs, fun c hc => by cases hc; exact ⟨_, e, rfl⟩, P.count_list (wpAny_mono ha (fun W s₁ p => ?_) fun _ _ e => e)⟩
  obtain ⟨t, rfl⟩ := p.1.int_inv
  have hI := (hv.keeps (kp p.2)).ints
  refine ⟨vs, n, isInt i, kp p.2 _ _ e, fun y hy => eq_isInt i t hI y (by simpa using hy), ?_⟩
  rw [countP_isInt' i hI]
  exact ⟨.int, kp_trans p.2 (kp_tok _ _)⟩
theorem BinR.addL {xs ys : List PyData} (h : xs.length + ys.length ≤ 16777216) : BinR prog w k .Add (.list xs) (.list ys) (.list (xs ++ ys)) := by
  constructor
  intro A av s V W hA hal x y
  obtain ⟨a, vs, n, rfl, ha, e, hv⟩ := x.list_inv
  obtain ⟨b, us, m, rfl, hb, e', hu⟩ := y.list_inv
  have h1 : vs.size = xs.length := by rw [← Array.length_toList, hv.length]
  have h2 : us.size = ys.length := by rw [← Array.length_toList, hu.length]
  exact P.add_list e e' ⟨.newList hal (by rw [Array.toList_append]; exact hv.append hu), kp_push s _⟩ (by rw [h1, h2]; exact sz24 h)
theorem CallR.sorted {ns ns' : List Int} (h64 : ns.length < 64) (hs : ∀ out : List Int, out.Perm ns → out.Pairwise (· ≤ ·) → out = ns') : CallR prog w k B (.builtin "sorted") [.list (ns.map .int)] (.list (ns'.map .int)) := by
  constructor
  intro A av s Vs hA hB hal y
  obtain ⟨V, rfl, x⟩ := y.one
  obtain ⟨a, vs, n, rfl, ha, e, hv⟩ := x.list_inv
  have hI := hv.ints
  refine sorted_ints (vs := vs.toList) (ns := ns) (by rw [Array.toArray_toList]; exact isList_of e) hI (by rw [hI.length]; exact h64) fun out ns2 hI2 hp hps => ?_
  obtain rfl := hs ns2 hp hps
  obtain ⟨c, hc⟩ := sortedAll_at s.heap vs.toList out
  refine ⟨.list (n := c) (not_alive hal ?_) hc (VRs.of_ints hI2), sortedAll s.heap vs.toList out, s.toks, rfl, fun b o e => sortedAll_old e⟩
  cases e : s.heap.get? (s.heap.objs.size + 1) with
  | none => rfl
  | some o => exact absurd (Heap.lt_size e) (Nat.not_lt.mpr (Nat.le_succ _))
end
end Mine
end
section
open PySem PySem.W PyProof.Rows
set_option linter.unusedVariables false
namespace Mine
section
variable {env : Env} {B : Heap} {F : Fp} {av₀ : List Addr} {ρ : Vs} {os : List Addr} {s : Shared} {prog : Program} {w : World} {k : Nat}

/-- a, a + c, … -/
def step (a c : Int) (n : Nat) : List Int := (List.range n).map fun (i : Nat) => a + i * c
theorem VRs.of_items {av : List Addr} {h : Heap} {a c : Int} {n : Nat} {acc : Array Value} (hi : ItemsOf (fun i (v : Value) => ∃ t, v = .int (a + i * c) t) acc n) : VRs av h ((step a c n).map .int) acc.toList := by
  obtain ⟨hs, hi⟩ := hi
  have : IntsAre acc.toList (step a c n) := by
    have key : ∀ (l : List Value) (k : Nat), (∀ j (v : Value), l[j]? = some v → ∃ t, v = .int (a + ((k + j : Nat) : Int) * c) t) → IntsAre l ((List.range l.length).map fun (i : Nat) => a + ((k + i : Nat) : Int) * c) := by
      intro l
      induction l with
      | nil => intro k _; exact .nil
      | cons v l ih =>
        intro k h
        obtain ⟨t, rfl⟩ := h 0 v rfl
        rw [List.length_cons, List.range_succ_eq_map, List.map_cons, List.map_map]
        refine .cons _ t ?_
        have e : ((fun (i : Nat) => a + ((k + i : Nat) : Int) * c) ∘ Nat.succ) = fun (i : Nat) => a + ((k + 1 + i : Nat) : Int) * c := by
          funext i; simp only [Function.comp]; rw [show k + i.succ = k + 1 + i by omega]
        rw [e]
        exact ih (k + 1) fun j v hv => by
          have := h (j + 1) v hv
          rwa [show k + (j + 1) = k + 1 + j by omega] at this
    have := key acc.toList 0 fun j v hv => by
      obtain ⟨t, e⟩ := hi j v (by rw [← toList_at]; exact hv)
      exact ⟨t, by rw [e, Nat.zero_add]⟩
    rw [Array.length_toList, hs] at this
    unfold step
    have e : (fun (i : Nat) => a + ((0 + i : Nat) : Int) * c) = fun (i : Nat) => a + (i : Int) * c := by
      funext i; rw [Nat.zero_add]
    rw [e] at this
    exact this
  exact .of_ints this
theorem PN.listRange {x y : Str} {px py pos rpos : Pos} {e1 e2 e3 : Expr} {a b c : Int} {n : Nat} (gl : BI B x (.type "list")) (gr : BI B y (.type "range")) (hkx : env.kindOf x = some .globalImplicit) (hky : env.kindOf y = some .globalImplicit)
    (ha : PE prog w k env B ρ e1 (.int a)) (hb : PE prog w k env B ρ e2 (.int b)) (hc : PE prog w k env B ρ e3 (.int c)) (c0 : c ≠ 0) (hcs : c.natAbs < 1073741824) (hsm : Builtin.Range.small a b c = true) (hn : Builtin.Range.rangeSize a b c = n) (hn' : n ≤ 2 ^ 24)
    (h1 : isStar e1 = false := by rfl) (h2 : isStar e2 = false := by rfl) (h3 : isStar e3 = false := by rfl)
    (hdx : (x == ("__debug__" : Str)) = false := by decide) (hdy : (y == ("__debug__" : Str)) = false := by decide) :
    PN prog w k env B ρ (.Call (.Name x px) [.Call (.Name y py) [e1, e2, e3] [] rpos] [] pos) (.lst ((step a c n).map .int)) := by
  constructor
  intro A os av s hA r
  refine Call_ (wpAny_NameB r.ok hkx gl r.base (PyProof.Rows.callWith_type1 (args_cons ?_ (star_one rfl)) (star_one rfl)) hdx) call_name
  refine Call_ (wpAny_NameB r.ok hky gr r.base (PyProof.Rows.callWith_type1 (wpAny_mono ((PAs.cons ha (.cons hb (.cons hc .nil h3) h2) h1).out A os av s rpos hA r) (fun vs s₁ p => ?_) fun _ _ e => e) (star_eq h1) (noStar_any (by rw [List.all_cons, List.all_cons, h2, h3]; rfl))) hdy) call_name
  obtain ⟨V, Vs', rfl, q, z⟩ := p.1.cons_inv
  obtain ⟨W, X, rfl, z1, z2⟩ := z.two
  obtain ⟨t, rfl⟩ := q.int_inv
  obtain ⟨u, rfl⟩ := z1.int_inv
  obtain ⟨v, rfl⟩ := z2.int_inv
  refine call_range_3 c0 ?_ (hp := .inl (PyProof.noPylong_small hcs))
  have kk : Keeps s₁ { s₁ with heap := s₁.heap.push { cls := .type "range", data := .fields #[.int a t, .int b u, .int c v] } } := kp_mk fun b' o e => Heap.get?_push_of_some _ e
  refine args_nil (call_list_range hA.hh (IsRange.new ..) hsm hn hn' fun h' tk acc c' hk hl hit => ?_)
  have k₃ := kp_trans p.2 (kp_trans kk (kp_mk (tk := tk) hk))
  have hnone : s.heap.get? (s₁.heap.push { cls := .type "range", data := .fields #[.int a t, .int b u, .int c v] }).objs.size = none := kp_none (kp_trans p.2 kk) (next_none _)
  exact ⟨_, rfl, hnone, .lst (Vs := acc.toList) ⟨c', by rw [Array.toArray_toList]; exact hl⟩ (.of_items hit), k₃⟩
end
end Mine
end
section
open PySem PySem.W PyProof.Rows
set_option linter.unusedVariables false
namespace Mine
section
variable {env : Env} {B : Heap} {F : Fp} {av₀ : List Addr} {ρ ρ' : Vs} {os : List Addr} {s : Shared} {prog : Program} {w : World} {k : Nat}
theorem attr_name {x name : Str} {px : Pos} : attributeBase (.Name x px) name env (eval (.Name x px) env) = eval (.Name x px) env := rfl
theorem S1.set (i : Nat) {x : Str} {sl : Sl} {e : Expr} {px pos : Pos} {d : PyData} (he : PE prog w k env B ρ e d) (hi : ρ[i]? = some (x, sl)) (hk : Stor env x) (h : ρ.set i (x, .v d) = ρ' := by rfl) (hs : swapsWith e (some (.Name x px)) pos.line env = pure false := by rfl) :
    P1 prog w k env B ρ (.Assign [.Name x px] e pos) (.nx ρ') := h ▸ P1.set i he hi hk hs
theorem S1.own (i : Nat) {x : Str} {sl : Sl} {e : Expr} {px pos : Pos} {kk : Ow} (he : PN prog w k env B ρ e kk) (hi : ρ[i]? = some (x, sl)) (hk : Stor env x) (h : ρ.set i (x, .o kk) = ρ' := by rfl) (hs : swapsWith e (some (.Name x px)) pos.line env = pure false := by rfl) :
    P1 prog w k env B ρ (.Assign [.Name x px] e pos) (.nx ρ') := h ▸ P1.own i he hi hk hs
theorem S1.aug (i : Nat) {x : Str} {e : Expr} {px pos : Pos} {op : Operator} {a b d : PyData} (hi : ρ[i]? = some (x, .v a)) (hk : Stor env x) (he : PE prog w k env B ρ e b) (ho : InR prog w k op a b d) (h : ρ.set i (x, .v d) = ρ' := by rfl) :
    P1 prog w k env B ρ (.AugAssign (.Name x px) op e pos) (.nx ρ') := h ▸ P1.aug i hi hk he ho
theorem S1.append (i : Nat) {x : Str} {its : List PyData} {px apos cpos pos : Pos} {e : Expr} {d : PyData} (hi : ρ[i]? = some (x, .o (.lst its))) (he : PE prog w k env B ρ e d) (hn : its.length ≤ 16777216) (h : ρ.set i (x, .o (.lst (its ++ [d]))) = ρ' := by rfl)
    (hline : (apos.endLine == cpos.line) = true := by rfl) (hse : isStar e = false := by rfl) (hdb : (x == ("__debug__" : Str)) = false := by decide) (hint : interactive env = false := by rfl) :
    P1 prog w k env B ρ (.Expr (.Call (.Attribute (.Name x px) "append" apos) [e] [] cpos) pos) (.nx ρ') := h ▸ P1.append i hi he hn attr_name hline hse hdb hint
theorem S1.insert0 (i : Nat) {x : Str} {its : List PyData} {px apos cpos pos : Pos} {e f : Expr} {d : PyData} (hi : ρ[i]? = some (x, .o (.lst its))) (hf : PE prog w k env B ρ f (.int 0)) (he : PE prog w k env B ρ e d) (hn : its.length ≤ 16777215) (h : ρ.set i (x, .o (.lst (d :: its))) = ρ' := by rfl)
    (hline : (apos.endLine == cpos.line) = true := by rfl) (hsf : isStar f = false := by rfl) (hse : isStar e = false := by rfl) (hdb : (x == ("__debug__" : Str)) = false := by decide) (hint : interactive env = false := by rfl) :
    P1 prog w k env B ρ (.Expr (.Call (.Attribute (.Name x px) "insert" apos) [f, e] [] cpos) pos) (.nx ρ') := h ▸ P1.insert0 i hi hf he hn attr_name hline hsf hse hdb hint
theorem S1.extend (i : Nat) {x : Str} {its more : List PyData} {px apos cpos pos : Pos} {e : Expr} (hi : ρ[i]? = some (x, .o (.lst its))) (he : PE prog w k env B ρ e (.list more)) (hn : its.length + more.length ≤ 16777216) (h : ρ.set i (x, .o (.lst (its ++ more))) = ρ' := by rfl)
    (hline : (apos.endLine == cpos.line) = true := by rfl) (hse : isStar e = false := by rfl) (hdb : (x == ("__debug__" : Str)) = false := by decide) (hint : interactive env = false := by rfl) :
    P1 prog w k env B ρ (.Expr (.Call (.Attribute (.Name x px) "extend" apos) [e] [] cpos) pos) (.nx ρ') := h ▸ P1.extend i hi he hn attr_name hline hse hdb hint
theorem S1.setSub (i : Nat) {x : Str} {its : List PyData} {px spos pos : Pos} {e idx : Expr} {d : PyData} {j : Int} (hi : ρ[i]? = some (x, .o (.lst its))) (he : PE prog w k env B ρ e d) (hj : PE prog w k env B ρ idx (.int j)) (h0 : 0 ≤ j) (h1 : j < its.length) (hn : its.length ≤ 16777216) (h : ρ.set i (x, .o (.lst (its.set j.toNat d))) = ρ' := by rfl)
    (hdb : (x == ("__debug__" : Str)) = false := by decide) (hs : swapsWith e (some (.Subscript (.Name x px) idx spos)) pos.line env = pure false := by rfl) :
    P1 prog w k env B ρ (.Assign [.Subscript (.Name x px) idx spos] e pos) (.nx ρ') := h ▸ P1.setSub i hi he hj h0 h1 hn hdb hs
theorem S1.augSub (i : Nat) {x : Str} {its : List PyData} {px spos pos : Pos} {e idx : Expr} {op : Operator} {c b d : PyData} {j : Int} (hi : ρ[i]? = some (x, .o (.lst its))) (hj : PE prog w k env B ρ idx (.int j)) (h0 : 0 ≤ j) (hd : its[j.toNat]? = some c) (hn : its.length ≤ 16777216) (he : PE prog w k env B ρ e b) (ho : InR prog w k op c b d) (h : ρ.set i (x, .o (.lst (its.set j.toNat d))) = ρ' := by rfl)
    (hdb : (x == ("__debug__" : Str)) = false := by decide) (hau : ∀ ov iv new, augStore idx ov iv new = (do holding [new, ov, iv] (setItem ov iv new); release [new, ov, iv] []; pure .next) := by intros; rfl) :
    P1 prog w k env B ρ (.AugAssign (.Subscript (.Name x px) idx spos) op e pos) (.nx ρ') := h ▸ P1.augSub i hi hj h0 hd hn he ho hdb hau
theorem S1.set2 (i j : Nat) {x y : Str} {sl sl' : Sl} {e : Expr} {px py pos : Pos} {d : PyData} (he : PE prog w k env B ρ e d) (hi : ρ[i]? = some (x, sl)) (hk : Stor env x) (hj : (ρ.set i (x, .v d))[j]? = some (y, sl')) (hk' : Stor env y) (h : (ρ.set i (x, .v d)).set j (y, .v d) = ρ' := by rfl)
    (hw : swappedStores [.Name x px, .Name y py] e env = pure none := by rfl) :
    P1 prog w k env B ρ (.Assign [.Name x px, .Name y py] e pos) (.nx ρ') := h ▸ P1.set2 i j he hi hk hj hk' hw
theorem S1.comp (i : Nat) {x : Str} {sl : Sl} {px : Pos} {elt tgt iter : Expr} {ifs : List Expr} {scope : Scope} {cl : List (Str × Addr)} {own : Nat → List Addr} {xs : List PyData} {ρ₀ : Vs} {ρi : Nat → Vs} {p : Nat → Bool} {f : Nat → PyData} {pos spos : Pos} {out : List PyData}
    (K : CompOk prog w k env B ρ elt tgt iter ifs scope cl own xs ρ₀ ρi p f) (hi : ρ[i]? = some (x, sl)) (hk : Stor env x) (ho : coll p f xs.length = out) (h : ρ.set i (x, .v (.list out)) = ρ' := by rfl)
    (hsw : swapsWith (.ListComp elt [⟨tgt, iter, ifs, 0⟩] scope pos) (some (.Name x px)) spos.line env = pure true := by rfl) (hs : ∀ x, foldedSetIterable iter env x = pure x := by intro _; rfl) :
    P1 prog w k env B ρ (.Assign [.Name x px] (.ListComp elt [⟨tgt, iter, ifs, 0⟩] scope pos) spos) (.nx ρ') := h ▸ ho ▸ P1.setComp i K hi hk hsw hs
theorem T1.name (i : Nat) {x : Str} {px : Pos} {d : PyData} {sl : Sl} (hi : ρ[i]? = some (x, sl)) (hk : Stor env x) (h : ρ.set i (x, .v d) = ρ' := by rfl) : Tg prog w env B (.Name x px) d ρ ρ' := h ▸ Tg.name i hi hk
theorem T1.pair (i j : Nat) {x y : Str} {px py pt : Pos} {z} {d e : PyData} {sl sl' : Sl} (hi : ρ[i]? = some (x, sl)) (hk : Stor env x) (hj : (ρ.set i (x, .v d))[j]? = some (y, sl')) (hk' : Stor env y) (h : (ρ.set i (x, .v d)).set j (y, .v e) = ρ' := by rfl) :
    Tg prog w env B (.Tuple [.Name x px, .Name y py] z pt) (.tuple [d, e]) ρ ρ' := h ▸ Tg.pair i j hi hk hj hk'
theorem PS.frz' {ss : List Stmt} {o : Out} (i : Nat) {x : Str} {its : List PyData} (e : ρ[i]? = some (x, .o (.lst its))) (h2 : PS prog w k env B ρ' ss o) (h : ρ.set i (x, .v (.list its)) = ρ' := by rfl) : PS prog w k env B ρ ss o := PS.frz i e (h ▸ h2)
end
end Mine
end
section
open PySem PySem.W PyProof.Rows
set_option linter.unusedVariables false
namespace Mine
abbrev P0 := PySem.Challenge.pw_tc0043_01
/-- the def that stands at place i of the text -/
def dArgs (i : Nat) : Arguments := match P0.main.body[i]? with | some (.FunctionDef (args := a) ..) => a | _ => ⟨[], [], none, [], [], none, []⟩
def dBody (i : Nat) : List Stmt := match P0.main.body[i]? with | some (.FunctionDef (body := b) ..) => b | _ => []
def dScope (i : Nat) : Scope := match P0.main.body[i]? with | some (.FunctionDef (scope := c) ..) => c | _ => P0.main.scope
abbrev FnAt (B : Heap) (x : Str) (i : Nat) (f : Addr) : Prop := Fn B x f (dArgs i) (dBody i) (dScope i)

section
variable {B : Heap} {prog : Program} {w : World}
theorem kind_loc {scope : Scope} {ns : List Str} (h : (ns.all fun y => scope.names.lookup y == some .local) = true) : ∀ L, ∀ y ∈ ns, scope.names.lookup y = some .local ∨ (scope.names.lookup y = some .cell ∧ ((cellsFrom (L + 1) scope.names []).lookup y).isSome = true) :=
  fun L y hy => .inl (by simpa using List.all_eq_true.mp h y hy)

def strcollD (a b : Str) : Int := b2i (decide (b.cps.toList < a.cps.toList)) - b2i (decide (a.cps.toList < b.cps.toList))
set_option maxRecDepth 100000 in
theorem strcoll_ok {f : Addr} (g : FnAt B "_strcoll" 3 f) (a b : Str) : CallR prog w 1 B (.ref f) [.str a, .str b] (.int (strcollD a b)) := by
  refine CallR.fn (ns := ["a", "b"]) (rest := []) g rfl (fun Vs pm cd doc h => ?_) (kind_loc (by decide +kernel)) (by decide +kernel) (fun L => ?_) fun L cd => ?_
  · obtain ⟨V, W, rfl⟩ := two_of h
    with_unfolding_all rfl
  · exact List.nodup_nil
  · refine PS.ret (P1.ret (PE.bin (PE.cmp (PE.var 0 rfl) (PE.var 1 rfl) CmpR.gtS) (PE.cmp (PE.var 0 rfl) (PE.var 1 rfl) CmpR.ltS) BinR.subB))
end
end Mine
end
section
open PySem PySem.W PyProof.Rows
set_option linter.unusedVariables false
namespace Mine
section
variable {env : Env} {B : Heap} {ρ : Vs} {prog : Program} {w : World} {k : Nat}
theorem P1.iteT {t : Expr} {b1 b2 : List Stmt} {pos : Pos} {b : Bool} {o : Out} (ht : PT prog w k env B ρ t b) (hb : b = true) (h1 : PS prog w k env B ρ b1 o) : P1 prog w k env B ρ (.If t b1 b2 pos) o := P1.ite ht (fun _ => h1) fun h => by rw [hb] at h; cases h
theorem P1.iteF {t : Expr} {b1 b2 : List Stmt} {pos : Pos} {b : Bool} {o : Out} (ht : PT prog w k env B ρ t b) (hb : b = false) (h2 : PS prog w k env B ρ b2 o) : P1 prog w k env B ρ (.If t b1 b2 pos) o := P1.ite ht (fun h => by rw [hb] at h; cases h) fun _ => h2
theorem P1.skip {t : Expr} {b1 : List Stmt} {pos : Pos} {b : Bool} (ht : PT prog w k env B ρ t b) (hb : b = false) : P1 prog w k env B ρ (.If t b1 [] pos) (.nx ρ) := P1.iteF ht hb .nil

def subCost (a b : Str) : Int := if (a == b) = true then 0 else if (Txt.lower a == Txt.lower b) = true then 1 else 2
set_option maxRecDepth 100000 in
theorem subCost_ok {f : Addr} (g : FnAt B "_substitution_cost" 11 f) (gc : ∃ t, BG B "_CASE_COST" (.int 1 t)) (gm : ∃ t, BG B "_MOVE_COST" (.int 2 t)) (a b : Str) (ha' : a.length ≤ 5592405) (hb' : b.length ≤ 5592405) :
    CallR prog w 1 B (.ref f) [.str a, .str b] (.int (subCost a b)) := by
  have ha : (Txt.lower a).length ≤ 16777216 := by have := PyProof.Rows.len_lower a; omega
  have hb : (Txt.lower b).length ≤ 16777216 := by have := PyProof.Rows.len_lower b; omega
  refine CallR.fn (ns := ["ch_a", "ch_b"]) (rest := []) g rfl (fun Vs pm cd doc h => ?_) (kind_loc (by decide +kernel)) (by decide +kernel) (fun L => List.nodup_nil) fun L cd => ?_
  · obtain ⟨V, W, rfl⟩ := two_of h
    with_unfolding_all rfl
  · unfold subCost
    by_cases h : (a == b) = true
    · rw [if_pos h]
      exact PS.ret (P1.iteT (PT.cmp (PE.var 0 rfl) (PE.var 1 rfl) CmpR.eqS) h (PS.ret (P1.ret PE.int)))
    · rw [if_neg h]
      refine PS.cons (P1.skip (PT.cmp (PE.var 0 rfl) (PE.var 1 rfl) CmpR.eqS) (Bool.eq_false_iff.mpr h)) ?_
      by_cases h2 : (Txt.lower a == Txt.lower b) = true
      · rw [if_pos h2]
        exact PS.ret (P1.iteT (PT.cmp (PE.meth0 (PE.var 0 rfl) (Mth0.lower ha)) (PE.meth0 (PE.var 1 rfl) (Mth0.lower hb)) CmpR.eqS) h2 (PS.ret (P1.ret (PE.gint gc rfl))))
      · rw [if_neg h2]
        refine PS.cons (P1.skip (PT.cmp (PE.meth0 (PE.var 0 rfl) (Mth0.lower ha)) (PE.meth0 (PE.var 1 rfl) (Mth0.lower hb)) CmpR.eqS) (Bool.eq_false_iff.mpr h2)) (PS.ret (P1.ret (PE.gint gm rfl)))

def lawSupply (c : Int) : Int := if ((c.fdiv 6).fmod 3 == 0) = true then (c.fdiv 18).fmod (64 ^ (3 : Int).toNat) else c.fmod 6
set_option maxRecDepth 100000 in
theorem lawSupply_ok {f : Addr} (g : FnAt B "_law_supply" 21 f) (c : Int) : CallR prog w 1 B (.ref f) [.int c] (.int (lawSupply c)) := by
  refine CallR.fn (ns := ["cell"]) (rest := []) g rfl (fun Vs pm cd doc h => ?_) (kind_loc (by decide +kernel)) (by decide +kernel) (fun L => List.nodup_nil) fun L cd => ?_
  · obtain ⟨V, rfl⟩ := one_of h
    with_unfolding_all rfl
  · unfold lawSupply
    by_cases h : ((c.fdiv 6).fmod 3 == 0) = true
    · rw [if_pos h]
      exact PS.ret (P1.iteT (PT.cmp (PE.bin (PE.bin (PE.var 0 rfl) PE.int (BinR.fdiv (by decide) (by decide))) PE.int (BinR.mod (by decide))) PE.int CmpR.eqI) h
        (PS.ret (P1.ret (PE.bin (PE.bin (PE.var 0 rfl) PE.int (BinR.fdiv (by decide) (by decide))) (PE.bin PE.int PE.int (BinR.pow (by decide) (by decide) (by decide))) (BinR.mod (by decide))))))
    · rw [if_neg h]
      exact PS.cons (P1.skip (PT.cmp (PE.bin (PE.bin (PE.var 0 rfl) PE.int (BinR.fdiv (by decide) (by decide))) PE.int (BinR.mod (by decide))) PE.int CmpR.eqI) (Bool.eq_false_iff.mpr h))
        (PS.ret (P1.ret (PE.bin (PE.var 0 rfl) PE.int (BinR.mod (by decide)))))

def cells0 : List Int := [2, 10, 13, 6, 11, 9, 8, 1242, 7, 45]
def cellsAt (ns : List Int) : Nat → List Int
  | 0 => cells0
  | i + 1 => (cellsAt ns i).set (((i : Int).fmod 10).toNat) ((cellsAt ns i).getD (((i : Int).fmod 10).toNat) 0 + ns.getD i 0)
theorem cellsAt_len (ns : List Int) : ∀ i, (cellsAt ns i).length = 10
  | 0 => rfl
  | i + 1 => by unfold cellsAt; rw [List.length_set, cellsAt_len ns i]
theorem mod10 (i : Nat) : 0 ≤ (i : Int).fmod 10 ∧ ((i : Int).fmod 10).toNat < 10 := by
  rw [Int.fmod_eq_emod_of_nonneg _ (by decide)]
  omega
theorem map_int_at {ns : List Int} {i : Nat} (h : i < ns.length) : (ns.map PyData.int)[i]? = some (.int (ns.getD i 0)) := by
  rw [List.getElem?_map, List.getElem?_eq_getElem h]
  simp [List.getD, List.getElem?_eq_getElem h]
set_option maxRecDepth 100000 in
theorem lawCells_ok {f : Addr} (g : FnAt B "_law_cells" 20 f) (ge : BI B "enumerate" (.type "enumerate")) (ns : List Int) (hn : ns.length ≤ 16777216) : CallR prog w 1 B (.ref f) [.list (ns.map .int)] (.list ((cellsAt ns ns.length).map .int)) := by
  refine CallR.fn (ns := ["script"]) (rest := ["cells", "place", "number"]) g rfl (fun Vs pm cd doc h => ?_) (kind_loc (by decide +kernel)) (by decide +kernel) (fun L => List.nodup_nil) fun L cd => ?_
  · obtain ⟨V, rfl⟩ := one_of h
    with_unfolding_all rfl
  · let st : Nat → Vs := fun i => [("script", .v (.list (ns.map .int))), ("cells", .o (.lst ((cellsAt ns i).map .int))), ("place", .no), ("number", .no)]
    refine PS.cons (ρ₁ := st 0) (S1.own 1 (PN.list (ds := cells0.map .int) (.cons PE.int (.cons PE.int (.cons PE.int (.cons PE.int (.cons PE.int (.cons PE.int (.cons PE.int (.cons PE.int (.cons PE.int (.cons PE.int .nil))))))))))) rfl (.inl rfl)) ?_
    refine PS.cons (P1.for st (PI.enum ge rfl (PE.var 0 rfl) (by simpa using hn)) fun i d hd => ?_) ?_
    · obtain ⟨x, hx, rfl⟩ := enumP_at hd
      have hi : i < ns.length := by have := lt_of_at hx; simpa using this
      rw [map_int_at hi] at hx
      cases hx
      refine ⟨_, T1.pair 2 3 rfl (.inl rfl) rfl (.inl rfl), PS.post (PS.cons (S1.augSub (d := .int ((cellsAt ns i).getD (((i : Int).fmod 10).toNat) 0 + ns.getD i 0)) 1 rfl (PE.bin (PE.var 2 rfl) PE.int (BinR.mod (by decide))) (mod10 i).1 (map_int_at (by rw [cellsAt_len]; exact (mod10 i).2)) (by simp [cellsAt_len]) (PE.var 3 rfl) InR.add) PS.nil) ?_⟩
      show Le _ (st (i + 1))
      simp only [st, cellsAt, List.map_set]
      exact .same (.same (.drop (.drop .nil)))
    · rw [enumP_len, List.length_map]
      exact PS.frz' 1 rfl (PS.ret (P1.ret (PE.var 1 rfl)))
end
end Mine
end
section
open PySem PySem.W PyProof.Rows
set_option linter.unusedVariables false
namespace Mine
section
variable {env E cenv : Env} {B : Heap} {ρ ρ' : Vs} {prog : Program} {w : World} {k : Nat} {av : List Addr} {h : Heap} {os : List Addr} {r : Vs} {x : Str}
def nodupB : List Str → Bool
  | [] => true
  | x :: l => l.all (fun y => !(x == y)) && nodupB l
theorem nodup_of : ∀ {l : List Str}, nodupB l = true → l.Nodup
  | [], _ => List.nodup_nil
  | x :: l, h => by
    unfold nodupB at h
    rw [Bool.and_eq_true, List.all_eq_true] at h
    rw [List.nodup_cons]
    exact ⟨fun hm => by have := h.1 x hm; simp at this, nodup_of h.2⟩
theorem cap_nil : Hold cenv av h [] [] := .nil
theorem cap_no (H : Hold cenv av h r []) : Hold cenv av h ((x, .no) :: r) [] := .cons (as := []) (os := []) .no H
theorem cap_v (i : Nat) {d : PyData} (H : Hold E av h ρ os) (e : ρ[i]? = some (x, .v d)) (k1 : E.kindOf x = some .cell) (k2 : cenv.kindOf x = some .cell) (k3 : cenv.cells.lookup x = E.cells.lookup x) (t : Hold cenv av h r []) : Hold cenv av h ((x, .v d) :: r) [] := by
  obtain ⟨V, hv, hr⟩ := H.at e
  refine .cons (as := []) (os := []) (.v ?_ hr) t
  cases hv with
  | loc a _ _ => rw [k1] at a; cases a
  | cell a b c => exact .cell k2 (k3.trans b) c
  | free a _ _ _ => rw [k1] at a; cases a
theorem C2.name {md : List Addr} (i : Nat) {px : Pos} {d : PyData} {sl : Sl} (e : ρ[i]? = some (x, sl)) (hk : cenv.scope.kind = .function := by rfl) (hl : cenv.kindOf x = some .local := by rfl) (n : nodupB (ρ.map (·.1)) = true := by rfl) (hL : cenv.locals ∈ md := by exact .head _) (hh : ρ.set i (x, .v d) = ρ' := by rfl) :
    CTg prog w cenv md (.Name x px) d ρ ρ' := hh ▸ CTg.name i hk hl hL (nodup_of n) e
theorem C2.pair {md : List Addr} (i j : Nat) {y : Str} {px py pt : Pos} {z} {d e : PyData} {sl sl' : Sl} (hi : ρ[i]? = some (x, sl)) (hj : (ρ.set i (x, .v d))[j]? = some (y, sl')) (hk : cenv.scope.kind = .function := by rfl) (hx : cenv.kindOf x = some .local := by rfl) (hy : cenv.kindOf y = some .local := by rfl) (n : nodupB (ρ.map (·.1)) = true := by rfl) (hL : cenv.locals ∈ md := by exact .head _)
    (h : (ρ.set i (x, .v d)).set j (y, .v e) = ρ' := by rfl) : CTg prog w cenv md (.Tuple [.Name x px, .Name y py] z pt) (.tuple [d, e]) ρ ρ' := h ▸ CTg.pair i j hk hx hy hL (nodup_of n) hi hj
theorem at_int {ns : List Int} {i : Nat} {d : PyData} (h : (ns.map PyData.int)[i]? = some d) : d = .int (ns.getD i 0) ∧ i < ns.length := by
  have hl := lt_of_at h
  rw [List.length_map] at hl
  rw [map_int_at hl] at h
  cases h; exact ⟨rfl, hl⟩
theorem at_str {ns : List Str} {i : Nat} {d : PyData} (h : (ns.map PyData.str)[i]? = some d) : d = .str (ns.getD i ⟨#[]⟩) ∧ i < ns.length := by
  have hl := lt_of_at h
  rw [List.length_map] at hl
  rw [List.getElem?_map, List.getElem?_eq_getElem hl] at h
  cases h
  refine ⟨?_, hl⟩
  simp [List.getD, List.getElem?_eq_getElem hl]
theorem coll_map {α : Type} {z : α} {g : α → PyData} {ys : List α} : coll (fun _ => true) (fun i => g (ys.getD i z)) ys.length = ys.map g := by
  rw [coll_all]
  apply List.ext_getElem
  · simp
  · intro i h1 h2
    simp at h1
    simp [List.getD, h1]
theorem sorted_unique : ∀ {l l' : List Int}, l.Perm l' → l.Pairwise (· ≤ ·) → l'.Pairwise (· ≤ ·) → l = l'
  | [], l', p, _, _ => by rw [p.nil_eq]
  | a :: t, [], p, _, _ => by have := p.length_eq; simp at this
  | a :: t, b :: t', p, h, h' => by
    rw [List.pairwise_cons] at h h'
    have h1 : a ∈ b :: t' := p.subset (.head _)
    have h2 : b ∈ a :: t := p.symm.subset (.head _)
    have hab : a = b := by
      rcases List.mem_cons.mp h1 with e | m1
      · exact e
      · rcases List.mem_cons.mp h2 with e | m2
        · exact e.symm
        · exact Int.le_antisymm (h.1 b m2) (h'.1 a m1)
    subst hab
    rw [sorted_unique (List.perm_cons a |>.mp p) h.2 h'.2]

theorem own0 {names : List (Str × NameKind)} : ∀ C : Nat, ∀ c ∈ (fun _ : Nat => ([] : List Addr)) C, C < c ∧ ∀ h : Heap, h.objs.size = C + 1 → ∃ v, (pushCells h names).IsCell c v := fun _ _ h => by cases h
theorem rng_at0 {n i : Nat} {d : PyData} (h : (rng 0 n)[i]? = some d) : d = .int i ∧ i < n := by
  obtain ⟨e, hi⟩ := rng_at h
  rw [Int.zero_add] at e; exact ⟨e, hi⟩
theorem sumE {ds : List PyData} {ns : List Int} {n : Int} (h : ds = ns.map .int) (h' : ns.sum = n) : CallR prog w k B (.builtin "sum") [.list ds] (.int n) := h ▸ h' ▸ CallR.sum
theorem compE {elt tgt iter : Expr} {ifs : List Expr} {scope : Scope} {cl : List (Str × Addr)} {own : Nat → List Addr} {xs : List PyData} {ρ₀ : Vs} {ρi : Nat → Vs} {p : Nat → Bool} {f : Nat → PyData} {pos : Pos} {out : List PyData} (K : CompOk prog w k env B ρ elt tgt iter ifs scope cl own xs ρ₀ ρi p f)
    (h : coll p f xs.length = out) (hs : ∀ x, foldedSetIterable iter env x = pure x := by intro _; rfl) : PE prog w k env B ρ (.ListComp elt [⟨tgt, iter, ifs, 0⟩] scope pos) (.list out) := h ▸ PE.comp K hs

def capped (supplies : List Int) (k : Int) : List Int := supplies.map fun s => if k < s then k else s
def cut (rising supplies : List Int) (k : Nat) : Int := (sl rising none (some (5 - (k : Int)))).sum + (capped supplies k).sum
def cutsOf (rising supplies : List Int) (n : Nat) : List Int := (List.range n).map (cut rising supplies)
theorem sl_map {α β : Type} (g : α → β) (l : List α) (a b : Option Int) : sl (l.map g) a b = (sl l a b).map g := by
  unfold sl
  rw [List.length_map, List.map_filterMap]
  congr 1
  funext i
  rw [List.getElem?_map]
set_option maxRecDepth 100000 in
theorem lawLeast_ok {f : Addr} (g : FnAt B "_law_least" 24 f) (gs : BI B "sum" (.builtin "sum")) (gm : BI B "min" (.builtin "min")) (go : BI B "sorted" (.builtin "sorted")) (gr : BI B "range" (.type "range")) (wants supplies rising : List Int)
    (hw : wants.length < 64) (hs : supplies.length ≤ 16777216) (hp : rising.Perm wants) (hsr : rising.Pairwise (· ≤ ·)) : CallR prog w 1 B (.ref f) [.list (wants.map .int), .list (supplies.map .int)] (.int (minOf (cutsOf rising supplies 6))) := by
  refine CallR.fn (ns := ["wants", "supplies"]) (rest := ["cuts", "rising", "k"]) g rfl (fun Vs pm cd doc h => ?_) (kind_loc (by decide +kernel)) (by decide +kernel) (fun L => ?_) fun L cd => ?_
  · obtain ⟨V, W, rfl⟩ := two_of h
    with_unfolding_all rfl
  · show List.Nodup [_]
    simp
  · let st : Nat → Vs := fun i => [("wants", .v (.list (wants.map .int))), ("supplies", .v (.list (supplies.map .int))), ("cuts", .o (.lst ((cutsOf rising supplies i).map .int))), ("rising", .v (.list (rising.map .int))), ("k", .no)]
    refine PS.cons (S1.own 2 (PN.list PAs.nil) rfl (.inl rfl)) ?_
    refine PS.cons (ρ₁ := st 0) (S1.set 3 (PE.callB go rfl (.cons (PE.var 0 rfl) .nil) (CallR.sorted hw fun out h1 h2 => sorted_unique (h1.trans hp.symm) h2 hsr)) rfl (.inl rfl)) ?_
    refine PS.cons (P1.for st (PI.range1 (n := 6) gr rfl PE.int (by decide) (by decide) rfl (by decide)) fun i d hd => ?_) ?_
    · obtain ⟨rfl, hi⟩ := rng_at0 hd
      refine ⟨_, T1.name 4 rfl (.inr ⟨rfl, _, rfl⟩), PS.post (PS.cons (S1.append (d := .int (cut rising supplies i)) 2 rfl (PE.bin (a := .int (sl rising none (some (5 - (i : Int)))).sum) (b := .int (capped supplies i).sum) ?_ ?_ BinR.add) ?_) PS.nil) ?_⟩
      · exact PE.callB gs rfl (.cons (PE.slL (PE.var 3 rfl) PPt.nil (PPt.int (PE.bin PE.int (PE.var 4 rfl) BinR.sub)) (by rw [List.length_map, hp.length_eq]; omega)) .nil) (sumE (sl_map _ _ _ _) rfl)
      · refine PE.callB gs rfl (.cons (compE (xs := supplies.map .int) (own := fun _ => []) (ρ₀ := [("supply", .no), ("k", .v (.int i))]) (ρi := fun j => [("supply", .v (.int (supplies.getD j 0))), ("k", .v (.int i))]) (p := fun _ => true) (f := fun j => .int (if (i : Int) < supplies.getD j 0 then i else supplies.getD j 0)) (out := (capped supplies i).map .int) ⟨rfl, rfl, by decide +kernel, (PI.list (PE.var 1 rfl) (by simpa using hs) .name).c, own0, fun C av h os H => cap_no (cap_v 4 H rfl rfl rfl rfl cap_nil), fun C j d hd => ?_, fun _ _ _ _ => .nil, fun C j d hd _ => ?_⟩ ?_) .nil) (sumE rfl rfl)
        · obtain ⟨rfl, _⟩ := at_int hd
          exact C2.name 0 rfl
        · exact PE.callB gm rfl (.cons (PE.var 0 rfl) (.cons (PE.var 1 rfl) .nil)) CallR.min2
        · rw [List.length_map, capped, List.map_map]
          exact coll_map (g := fun s => PyData.int (if (i : Int) < s then i else s))
      · simp [cutsOf]; omega
      · show Le _ (st (i + 1))
        simp only [st, cutsOf, List.range_succ, List.map_append, List.map_cons, List.map_nil]
        exact .same (.same (.same (.same (.drop .nil))))
    · rw [rng_len]
      exact PS.frz' 2 rfl (PS.ret (P1.ret (PE.callB gm rfl (.cons (PE.var 2 rfl) .nil) (CallR.minL (by simp [cutsOf])))))
end
end Mine
end
section
open PySem PySem.W PyProof.Rows
set_option linter.unusedVariables false
namespace Mine
section
variable {env E cenv : Env} {B : Heap} {ρ ρ' : Vs} {prog : Program} {w : World} {k : Nat}
/-- blanks, a letter, blanks -/
def ln (w c b : Nat) : Str := ⟨(List.replicate w 32 ++ c :: List.replicate b 32).toArray⟩
theorem ln_len (w c b : Nat) : (ln w c b).length = w + 1 + b := by
  show (List.replicate w 32 ++ c :: List.replicate b 32).toArray.size = _
  simp; omega
theorem seqIx {i n : Nat} (h : i < n) : seqIndex? (i : Int) n = some i := by
  unfold seqIndex?
  have h2 : ¬ (i : Int) < 0 := by omega
  simp only [if_neg h2]
  rw [if_pos (by simp; omega)]
  simp
theorem ln_at {w c b : Nat} {i : Nat} (h : i < w + 1 + b) : Txt.charAt (ln w c b) (i : Int) = some (if i = w then c else 32) := by
  unfold Txt.charAt
  rw [ln_len, seqIx h]
  show (List.replicate w 32 ++ c :: List.replicate b 32).toArray[i]? = _
  rw [List.getElem?_toArray, List.getElem?_append]
  by_cases h1 : i < w
  · rw [if_pos (by simpa using h1), List.getElem?_replicate, if_pos h1, if_neg (by omega)]
  · rw [if_neg (by simpa using h1), List.length_replicate]
    by_cases h2 : i = w
    · subst h2; simp
    · obtain ⟨j, hj⟩ : ∃ j, i - w = j + 1 := ⟨i - w - 1, by omega⟩
      rw [hj, List.getElem?_cons_succ, List.getElem?_replicate, if_pos (by omega), if_neg h2]
theorem ln_item {w c b : Nat} {i : Nat} (h : i < w + 1 + b) : Txt.item (ln w c b) (i : Int) = ⟨#[if i = w then c else 32]⟩ := by
  unfold Txt.item
  rw [ln_at h]; rfl
theorem ln_slice {w c b l r : Nat} (hl : l ≤ w) (hr : r ≤ b) : Txt.slice (ln w c b) (some (l : Int)) (some ((w + b - r + 1 : Nat) : Int)) = ln (w - l) c (b - r) := by
  unfold Txt.slice
  have hb : w + b - r + 1 ≤ (ln w c b).length := by rw [ln_len]; omega
  have hf := StrLaws.sliced_plain (ln w c b) (a := l) (b := w + b - r + 1) (by omega) hb
  have hi := StrLaws.strSliceIndices_plain (a := l) (b := w + b - r + 1) (len := (ln w c b).length) (by omega) hb
  have hlen : (Builtin.Str.strSliceIndices (some (l : Int)) (some ((w + b - r + 1 : Nat) : Int)) 1 (ln w c b).length).length = w + b - r + 1 - l := by rw [hi]; simp
  rw [hf, hlen, ln_len]
  have key : ((ln w c b).cps.toList.drop l).take (w + b - r + 1 - l) = List.replicate (w - l) 32 ++ c :: List.replicate (b - r) 32 := by
    show ((List.replicate w 32 ++ c :: List.replicate b 32).toArray.toList.drop l).take _ = _
    show ((List.replicate w 32 ++ c :: List.replicate b 32).drop l).take _ = _
    rw [List.drop_append_of_le_length (by rw [List.length_replicate]; exact hl), List.drop_replicate, show w + b - r + 1 - l = (w - l) + (b - r + 1) by omega]
    rw [List.take_append, List.length_replicate, List.take_of_length_le (by rw [List.length_replicate]; exact Nat.le_add_right _ _)]
    rw [Nat.add_sub_cancel_left, List.take_succ_cons, List.take_replicate, Nat.min_eq_left (Nat.sub_le b r)]
  by_cases hc : ((1 : Int) == 1 && w + b - r + 1 - l == w + 1 + b) = true
  · rw [if_pos hc]
    have : w + b - r + 1 - l = w + 1 + b := by simpa using hc
    rw [show w - l = w by omega, show b - r = b by omega]
  · rw [if_neg hc, key]; rfl
theorem Wh_upto {N : Nat} : ∀ (m j : Nat), m = N - j → j ≤ N → Wh (fun j => decide (j < N)) (· + 1) m j N
  | 0, j, h, hj => by
    have : j = N := by omega
    subst this; exact .stop (by simp)
  | m + 1, j, h, hj => .step (by simp; omega) (Wh_upto m (j + 1) (by omega) (by omega))
theorem PT.cast {e : Expr} {b b' : Bool} (h : PT prog w k env B ρ e b) (hb : b = b') : PT prog w k env B ρ e b' := hb ▸ h
theorem PE.cast {e : Expr} {b b' : PyData} (h : PE prog w k env B ρ e b) (hb : b = b') : PE prog w k env B ρ e b' := hb ▸ h
theorem P1.cast {st : Stmt} {o o' : Out} (h : P1 prog w k env B ρ st o) (hb : o = o') : P1 prog w k env B ρ st o' := hb ▸ h
theorem PS.cast {ρ' : Vs} {ss : List Stmt} {o : Out} (h : PS prog w k env B ρ' ss o) (hb : ρ = ρ') : PS prog w k env B ρ ss o := hb ▸ h
theorem fits {i : Int} (h0 : 0 ≤ i) (h1 : i < 2 ^ 62) : fitsSsize i = true := by
  unfold fitsSsize
  rw [Bool.not_eq_true', Bool.or_eq_false_iff]
  constructor <;> (apply decide_eq_false; omega)
theorem fits' {i : Int} (h0 : -(2 ^ 62) ≤ i) (h1 : i < 2 ^ 62) : fitsSsize i = true := by
  unfold fitsSsize
  rw [Bool.not_eq_true', Bool.or_eq_false_iff]
  constructor <;> (apply decide_eq_false; omega)
theorem fitsN {i n : Nat} (h : i < n) (hn : n ≤ 16777217) : fitsSsize (i : Int) = true := fits (Int.natCast_nonneg i) (by omega)
theorem sub_ne {n j : Nat} (h : j < n) : ((n : Int) - j != 0) = true := by
  rw [bne_iff_ne]; omega
theorem sub_z {n j : Nat} (h : j = n) : ((n : Int) - j != 0) = false := by
  rw [h, Int.sub_self]; rfl
theorem dmin_t {j a b : Nat} (h1 : j < a) (h2 : j < b) : decide (j < min a b) = true := decide_eq_true (Nat.lt_min.mpr ⟨h1, h2⟩)
theorem dmin_l {j a b : Nat} (h1 : ¬ j < a) : decide (j < min a b) = false := decide_eq_false fun h => h1 (Nat.lt_min.mp h).1
theorem dmin_r {j a b : Nat} (h1 : ¬ j < b) : decide (j < min a b) = false := decide_eq_false fun h => h1 (Nat.lt_min.mp h).2
def strip (w c b n : Nat) : Str := ln (w - n) c (b - (n - w))
set_option maxRecDepth 100000 in
theorem strip_ok {f : Addr} (g : FnAt B "_strip_padding" 4 f) (gl : BI B "len" (.builtin "len")) (wd c b n : Nat) (hc : c ≠ 32) (hw : wd + 1 + b ≤ 16777216) :
    CallR prog w 1 B (.ref f) [.str (ln wd c b), .int n] (.str (strip wd c b n)) := by
  refine CallR.fn (ns := ["s", "amount"]) (rest := ["lpos", "rpos"]) g rfl (fun Vs pm cd doc h => ?_) (kind_loc (by decide +kernel)) (by decide +kernel) (fun L => List.nodup_nil) fun L cd => ?_
  · obtain ⟨V, W, rfl⟩ := two_of h
    with_unfolding_all rfl
  · have hne : ((⟨#[c]⟩ : Str) == Str.ofString " ") = false := by
      rw [beq_eq_false_iff_ne]; intro h
      have : (#[c] : Array Nat) = #[32] := congrArg Str.cps h
      simp at this; exact hc this
    let st1 : Nat → Vs := fun j => [("s", .v (.str (ln wd c b))), ("amount", .v (.int ((n : Int) - j))), ("lpos", .v (.int j)), ("rpos", .no)]
    let st2 : Nat → Vs := fun j => [("s", .v (.str (ln wd c b))), ("amount", .v (.int ((n : Int) - (min wd n : Nat) - j))), ("lpos", .v (.int (min wd n : Nat))), ("rpos", .v (.int ((wd : Int) + b - j)))]
    refine PS.cons (ρ₁ := st1 0) (S1.set 2 PE.int rfl (.inl rfl) (by simp only [st1, Int.natCast_zero, Int.sub_zero]; rfl)) ?_
    refine PS.cons (P1.while st1 (fun j => decide (j < min wd n)) (· + 1) (fun j => j ≤ min wd n) (Wh_upto (N := min wd n) (min wd n - 0) 0 rfl (Nat.zero_le _)) (Nat.zero_le _) (fun j hj => ?_) (fun j hj hlt => ?_)) ?_
    · have hjw : j ≤ wd := Nat.le_trans hj (Nat.min_le_left _ _)
      have hjb : j < wd + 1 + b := by omega
      by_cases hn : j < n
      · refine PT.cast (PT.all (PTs.and (PT.val (PE.var 1 rfl) TruR.int) fun _ => PTs.and (PT.cmp (PE.sub (PE.var 0 rfl) (PE.var 2 rfl) (IxR.str (fitsN hjb (Nat.le_succ_of_le hw)) (by rw [ln_at hjb]; rfl) (ln_item hjb))) PE.str CmpR.eqS) fun _ => PTs.and_nil)) ?_
        rw [sub_ne hn]
        by_cases hw' : j < wd
        · rw [if_neg (Nat.ne_of_lt hw'), dmin_t hw' hn]; rfl
        · rw [if_pos (Nat.le_antisymm hjw (Nat.not_lt.mp hw')), hne, dmin_l hw']; rfl
      · refine PT.cast (PT.all (PTs.and (c := false) (PT.val (PE.var 1 rfl) TruR.int) fun h => ?_)) ?_
        · exfalso
          rw [sub_z (Nat.le_antisymm (Nat.le_trans hj (Nat.min_le_right _ _)) (Nat.not_lt.mp hn))] at h
          cases h
        · rw [Bool.and_false, dmin_r hn]
    · have hlt' : j < min wd n := by simpa using hlt
      refine ⟨PS.cons (S1.aug 2 rfl (.inl rfl) PE.int InR.add) (PS.cons (S1.aug 1 rfl (.inl rfl) PE.int InR.sub (h := ?_)) PS.nil), hlt'⟩
      show [_, _, _, _] = st1 (j + 1)
      simp only [st1]
      rw [show (n : Int) - j - 1 = n - ((j + 1 : Nat) : Int) by omega]
      rfl
    · refine PS.cons (ρ₁ := st2 0) (S1.set 3 (PE.bin (PE.callB gl rfl (.cons (PE.var 0 rfl) .nil) (CallR.lenS (by rw [ln_len]; exact hw))) PE.int BinR.sub) rfl (.inl rfl) ?_) ?_
      · show [_, _, _, _] = st2 0
        simp only [st2]
        rw [ln_len, show (((wd + 1 + b : Nat) : Int) - 1) = (wd : Int) + b - (0 : Nat) by omega, show (n : Int) - (min wd n : Nat) - ((0 : Nat) : Int) = (n : Int) - (min wd n : Nat) by omega]
      generalize hm : n - min wd n = m
      have hmi : (n : Int) - (min wd n : Nat) = m := by omega
      refine PS.cons (P1.while st2 (fun j => decide (j < min b m)) (· + 1) (fun j => j ≤ min b m) (Wh_upto (N := min b m) (min b m - 0) 0 rfl (Nat.zero_le _)) (Nat.zero_le _) (fun j hj => ?_) (fun j hj hlt => ?_)) ?_
      · have hjw : j ≤ b := Nat.le_trans hj (Nat.min_le_left _ _)
        have hjb : wd + b - j < wd + 1 + b := by omega
        by_cases hn : j < m
        · have hi : ((wd : Int) + b - j) = ((wd + b - j : Nat) : Int) := by omega
          refine PT.cast (PT.all (PTs.and (PT.val (PE.var 1 rfl) TruR.int) fun _ => PTs.and (PT.cmp (PE.sub (PE.var 0 rfl) (PE.cast (PE.var 3 rfl) (congrArg PyData.int hi)) (IxR.str (fitsN hjb (Nat.le_succ_of_le hw)) (by rw [ln_at hjb]; rfl) (ln_item hjb))) PE.str CmpR.eqS) fun _ => PTs.and_nil)) ?_
          rw [hmi, sub_ne hn]
          by_cases hw' : j < b
          · rw [if_neg (by omega), dmin_t hw' hn]; rfl
          · rw [if_pos (by omega), hne, dmin_l hw']; rfl
        · refine PT.cast (PT.all (PTs.and (c := false) (PT.val (PE.var 1 rfl) TruR.int) fun h => ?_)) ?_
          · exfalso
            rw [hmi, sub_z (Nat.le_antisymm (Nat.le_trans hj (Nat.min_le_right _ _)) (Nat.not_lt.mp hn))] at h
            cases h
          · rw [Bool.and_false, dmin_r hn]
      · have hlt' : j < min b m := by simpa using hlt
        refine ⟨PS.cons (S1.aug 3 rfl (.inl rfl) PE.int InR.sub) (PS.cons (S1.aug 1 rfl (.inl rfl) PE.int InR.sub (h := ?_)) PS.nil), hlt'⟩
        show [_, _, _, _] = st2 (j + 1)
        simp only [st2]
        rw [show (n : Int) - (min wd n : Nat) - j - 1 = n - (min wd n : Nat) - ((j + 1 : Nat) : Int) by omega, show (wd : Int) + b - j - 1 = wd + b - ((j + 1 : Nat) : Int) by omega]
      · refine PS.ret (P1.ret (PE.cast (PE.slS (PE.var 0 rfl) (PPt.int (PE.var 2 rfl)) (PPt.int (PE.bin (PE.var 3 rfl) PE.int BinR.add)) (by rw [ln_len]; exact hw)) ?_))
        rw [show (wd : Int) + b - (min b m : Nat) + 1 = ((wd + b - min b m + 1 : Nat) : Int) by omega, ln_slice (by omega) (by omega)]
        unfold strip
        rw [show wd - min wd n = wd - n by omega, show b - min b m = b - (n - wd) by omega]
end
end Mine
end
section
open PySem PySem.W PyProof.Rows
set_option linter.unusedVariables false
namespace Mine
section
variable {env E cenv : Env} {B : Heap} {ρ ρ' : Vs} {prog : Program} {w : World} {k : Nat}
/-- a number as septets, the most significant first -/
def digs (s : Nat) : List Int := if s < 64 then [(s : Int)] else if s < 4096 then [64 + ((s / 64 : Nat) : Int), ((s % 64 : Nat) : Int)] else [64 + ((s / 4096 : Nat) : Int), 64 + ((s / 64 % 64 : Nat) : Int), ((s % 64 : Nat) : Int)]
abbrev dgN (a : List Int × Nat) : List Int × Nat := ((64 + ((a.2 % 64 : Nat) : Int)) :: a.1, a.2 / 64)
theorem dg_run (s : Nat) (h : s < 262144) : ∃ n, Wh (fun a : List Int × Nat => decide (a.2 > 0)) dgN n ([((s % 64 : Nat) : Int)], s / 64) (digs s, 0) := by
  unfold digs
  by_cases h1 : s < 64
  · rw [if_pos h1, Nat.div_eq_of_lt h1, Nat.mod_eq_of_lt h1]
    exact ⟨0, .stop rfl⟩
  · rw [if_neg h1]
    have p1 : decide (s / 64 > 0) = true := decide_eq_true (Nat.div_pos (Nat.not_lt.mp h1) (by decide))
    by_cases h2 : s < 4096
    · rw [if_pos h2]
      have a : s / 64 < 64 := Nat.div_lt_of_lt_mul h2
      refine ⟨1, .step p1 ?_⟩
      rw [show dgN ([((s % 64 : Nat) : Int)], s / 64) = ([64 + ((s / 64 : Nat) : Int), ((s % 64 : Nat) : Int)], 0) by
        unfold dgN; dsimp only; rw [Nat.mod_eq_of_lt a, Nat.div_eq_of_lt a]]
      exact .stop rfl
    · rw [if_neg h2]
      have b : 64 ≤ s / 64 := (Nat.le_div_iff_mul_le (by decide)).mpr (Nat.not_lt.mp h2)
      have p2 : decide (s / 64 / 64 > 0) = true := decide_eq_true (Nat.div_pos b (by decide))
      have c : s / 64 / 64 < 64 := Nat.div_lt_of_lt_mul (Nat.div_lt_of_lt_mul h)
      have e : s / 64 / 64 = s / 4096 := Nat.div_div_eq_div_mul s 64 64
      refine ⟨2, .step p1 (.step p2 ?_)⟩
      rw [show dgN (dgN ([((s % 64 : Nat) : Int)], s / 64)) = ([64 + ((s / 4096 : Nat) : Int), 64 + ((s / 64 % 64 : Nat) : Int), ((s % 64 : Nat) : Int)], 0) by
        unfold dgN; dsimp only; rw [Nat.mod_eq_of_lt c, Nat.div_eq_of_lt c, e]]
      exact .stop rfl
theorem digs_len (s : Nat) : (digs s).length ≤ 3 := by
  unfold digs
  split
  · simp
  · split <;> simp
def flat (ys : List Nat) : List Int := ys.flatMap digs
theorem flat_len (ys : List Nat) : (flat ys).length ≤ 3 * ys.length := by
  induction ys with
  | nil => simp [flat]
  | cons y ys ih =>
    have := digs_len y
    simp only [flat, List.flatMap_cons, List.length_append, List.length_cons] at ih ⊢
    omega
def octAt (marks : Int) (i : Nat) (o : Int) : Int := o + 128 * (marks.fdiv (2 ^ ((i : Int).fmod 4).toNat)).fmod 2
def octs (marks : Int) (os : List Int) : List Int := (List.range os.length).map fun i => octAt marks i (os.getD i 0)
abbrev natI (n : Nat) : PyData := .int n
theorem at_nat {ns : List Nat} {i : Nat} {d : PyData} (h : (ns.map natI)[i]? = some d) : ∃ h : i < ns.length, d = .int ns[i] := by
  have hl := lt_of_at h
  rw [List.length_map] at hl
  rw [List.getElem?_map, List.getElem?_eq_getElem hl] at h
  cases h; exact ⟨hl, rfl⟩
theorem pow4 (i : Nat) : (2 : Int) ^ ((i : Int).fmod 4).toNat ≠ 0 ∧ ((2 : Int) ^ ((i : Int).fmod 4).toNat).natAbs < 1073741824 := by
  rw [Int.fmod_eq_emod_of_nonneg _ (by decide)]
  have h : ((i : Int) % 4).toNat < 4 := by omega
  generalize ((i : Int) % 4).toNat = j at h
  match j, h with
  | 0, _ => decide
  | 1, _ => decide
  | 2, _ => decide
  | 3, _ => decide
set_option maxRecDepth 100000 in
theorem octets_ok {f : Addr} (g : FnAt B "_law_octets" 22 f) (ge : BI B "enumerate" (.type "enumerate")) (ys : List Nat) (marks : Int) (hy : ∀ y ∈ ys, y < 262144) (hn : ys.length ≤ 1000) :
    CallR prog w 1 B (.ref f) [.list (ys.map natI), .int marks] (.list ((octs marks (flat ys)).map .int)) := by
  refine CallR.fn (ns := ["supplies", "marks"]) (rest := ["octets", "supply", "row", "left"]) g rfl (fun Vs pm cd doc h => ?_) (fun L y hy => ?_) (by decide +kernel) (fun L => ?_) fun L cd => ?_
  · obtain ⟨V, W, rfl⟩ := two_of h
    with_unfolding_all rfl
  · simp only [List.mem_cons, List.not_mem_nil, or_false] at hy
    rcases hy with rfl | rfl
    · exact .inl rfl
    · exact .inr ⟨rfl, rfl⟩
  · show List.Nodup [_]
    simp
  · let st : Nat → Vs := fun i => [("supplies", .v (.list (ys.map natI))), ("marks", .v (.int marks)), ("octets", .o (.lst ((flat (ys.take i)).map .int))), ("supply", .no), ("row", .no), ("left", .no)]
    refine PS.cons (ρ₁ := st 0) (S1.own 2 (PN.list PAs.nil) rfl (.inl rfl)) ?_
    refine PS.cons (P1.for st (PI.list (PE.var 0 rfl) (by rw [List.length_map]; omega) .name) fun i d hd => ?_) ?_
    · obtain ⟨hi, rfl⟩ := at_nat hd
      have hs : ys[i] < 262144 := hy _ (List.getElem_mem hi)
      generalize hsd : ys[i] = s at hs
      let sw : List Int × Nat → Vs := fun a => [("supplies", .v (.list (ys.map natI))), ("marks", .v (.int marks)), ("octets", .o (.lst ((flat (ys.take i)).map .int))), ("supply", .v (.int s)), ("row", .o (.lst (a.1.map .int))), ("left", .v (.int a.2))]
      obtain ⟨n, hw⟩ := dg_run s hs
      refine ⟨_, T1.name 3 rfl (.inl rfl), PS.post (PS.cons (S1.own 4 (PN.list (ds := [.int ((s % 64 : Nat) : Int)]) (.cons (PE.cast (PE.bin (PE.var 3 rfl) PE.int (BinR.mod (by decide))) ?_) .nil)) rfl (.inl rfl)) (PS.cons (ρ₁ := sw ([((s % 64 : Nat) : Int)], s / 64)) (S1.set 5 (PE.cast (b' := .int ((s / 64 : Nat) : Int)) (PE.bin (PE.var 3 rfl) PE.int (BinR.fdiv (by decide) (by decide))) ?_) rfl (.inl rfl))
        (PS.cons (P1.while sw _ _ (fun a => a.1.length + a.2 ≤ 300000) hw ?_ (fun a ha => ?_) (fun a ha hc => ?_)) (PS.frz' 4 rfl (PS.cons (S1.extend 2 rfl (PE.var 4 rfl) ?_) PS.nil))))) ?_⟩
      · rw [Int.fmod_eq_emod_of_nonneg _ (by decide)]; simp
      · rw [Int.fdiv_eq_ediv_of_nonneg _ (by decide)]; simp
      · show 1 + s / 64 ≤ 300000
        omega
      · exact PT.cast (PT.cmp (PE.var 5 rfl) PE.int CmpR.gtI) (by simp)
      · have h0 : a.2 > 0 := by simpa using hc
        refine ⟨PS.cons (ρ₁ := (sw ((64 + ((a.2 % 64 : Nat) : Int)) :: a.1, a.2)))
          (S1.insert0 4 rfl PE.int (PE.cast (b' := .int (64 + ((a.2 % 64 : Nat) : Int))) (PE.bin PE.int (PE.bin (PE.var 5 rfl) PE.int (BinR.mod (by decide))) BinR.add) ?_) (by rw [List.length_map]; omega))
          (PS.cons (ρ₁ := sw (dgN a)) (S1.aug (d := .int ((a.2 / 64 : Nat) : Int)) 5 rfl (.inl rfl) PE.int ?_) PS.nil), ?_⟩
        · rw [Int.fmod_eq_emod_of_nonneg _ (by decide)]; simp
        · have := @InR.fdiv prog w 0 (a.2 : Int) 64 (by decide) (by decide)
          rw [Int.fdiv_eq_ediv_of_nonneg _ (by decide)] at this
          exact this
        · show a.1.length + 1 + a.2 / 64 ≤ 300000
          omega
      · have h1 := digs_len s
        have h2 := flat_len (ys.take i)
        have h3 : (ys.take i).length ≤ ys.length := List.length_take_le' ..
        rw [List.length_map, List.length_map]
        show (flat (ys.take i)).length + (digs s).length ≤ 16777216
        omega
      · show Le _ (st (i + 1))
        have e : (flat (ys.take (i + 1))).map PyData.int = (flat (ys.take i)).map .int ++ (digs s).map .int := by
          rw [List.take_add_one, List.getElem?_eq_getElem hi, hsd]
          simp [flat]
        simp only [st, e]
        exact .same (.same (.same (.drop (.drop (.drop .nil)))))
    · rw [List.length_map]
      refine PS.frz' 2 rfl (PS.ret (P1.ret (compE (xs := enumP ((flat (ys.take ys.length)).map .int)) (own := fun _ => []) (ρ₀ := [("octet", .no), ("k", .no), ("marks", .v (.int marks))])
        (ρi := fun j => [("octet", .v (.int ((flat ys).getD j 0))), ("k", .v (.int j)), ("marks", .v (.int marks))]) (p := fun _ => true) (f := fun j => .int (octAt marks j ((flat ys).getD j 0)))
        ⟨rfl, rfl, by decide +kernel, (PI.enum ge rfl (PE.var 2 rfl) ?_).c, own0, fun C av h os H => cap_no (cap_no (cap_v 1 H rfl rfl rfl rfl cap_nil)), fun C j d hd => ?_, fun _ _ _ _ => .nil, fun C j d hd _ => ?_⟩ ?_)))
      · rw [List.length_map, List.take_length]
        have := flat_len ys
        omega
      · obtain ⟨x, hx, rfl⟩ := enumP_at hd
        rw [List.take_length] at hx
        obtain ⟨rfl, _⟩ := at_int hx
        exact C2.pair 1 0 rfl rfl
      · obtain ⟨h1, h2⟩ := pow4 j
        have h3 : (0 : Int) ≤ (j : Int).fmod 4 ∧ (j : Int).fmod 4 ≤ 1000000 := by
          rw [Int.fmod_eq_emod_of_nonneg _ (by decide)]; omega
        exact PE.bin (PE.var 0 rfl) (PE.bin PE.int (PE.bin (PE.bin (PE.var 2 rfl) (PE.bin PE.int (PE.bin (PE.var 1 rfl) PE.int (BinR.mod (by decide))) (BinR.pow h3.1 h3.2 (by decide))) (BinR.fdiv h1 h2)) PE.int (BinR.mod (by decide))) (BinR.mul (IntMulOk.of_left (by decide)))) BinR.add
      · rw [enumP_len, List.length_map, List.take_length, coll_all, octs, List.map_map]
        rfl
end
end Mine
end
section
open PySem PySem.W PyProof.Rows
set_option linter.unusedVariables false
namespace Mine
section
variable {env E cenv : Env} {B : Heap} {ρ ρ' : Vs} {prog : Program} {w : World} {k : Nat}
theorem P1.swap (i j : Nat) {x y : Str} {px py px' py' pos p1 p2 : Pos} {z1 z2 : _} {a b : PyData} (hi : ρ[i]? = some (x, .v a)) (hj : ρ[j]? = some (y, .v b)) (hk : Stor env x) (hk' : Stor env y)
    (hj' : (ρ.set j (y, .v a))[i]? = some (x, .v a)) (h : (ρ.set j (y, .v a)).set i (x, .v b) = ρ' := by rfl)
    (hw : swappedStores [.Tuple [.Name x px, .Name y py] z1 p1] (.Tuple [.Name y py', .Name x px'] z2 p2) env = pure (some [x, y]) := by rfl) (hs : swapsWithSole [.Tuple [.Name x px, .Name y py] z1 p1] (.Tuple [.Name y py', .Name x px'] z2 p2) pos.line env = pure false := by rfl)
    (hdx : (x == ("__debug__" : Str)) = false := by decide) (hdy : (y == ("__debug__" : Str)) = false := by decide) :
    P1 prog w k env B ρ (.Assign [.Tuple [.Name x px, .Name y py] z1 p1] (.Tuple [.Name y py', .Name x px'] z2 p2) pos) (.nx ρ') := by
  subst h
  constructor
  intro A F av₀ os s hA X
  refine Assign_Tuple_swapped (names := [x, y]) (wpAny_mono ((PE.tuple (.cons (PE.var j hj hdy) (.cons (PE.var i hi hdx) .nil))).st hA X) (fun V s₁ p => ?_) fun _ _ e => e) hs hw
  obtain ⟨t, vs, n, rfl, ht, e, hv⟩ := p.1.tuple_inv
  obtain ⟨V1, V2, e1, r1, r2⟩ := hv.two
  have hsz : [x, y].length = vs.size := by rw [← Array.length_toList, e1]; rfl
  rw [hsz]
  refine wpAny_unpackItems_tuple hA.hh (isTuple_of e) fun h' hk₁ => ?_
  have kk : Keeps s₁ { s₁ with heap := h' } := ⟨h', s₁.toks, rfl, fun b o eb => hk₁ b o (by rintro rfl; exact absurd (Heap.lt_size eb) (Nat.lt_irrefl _)) eb⟩
  rw [e1]
  show wpAny _ _ (assignInOrder [fun v => bindName env y v, fun v => bindName env x v] [V2, V1]) _ _ _
  have X₁ := (X.keeps p.2).keeps kk
  refine wpAny_assignInOrder_more (wpAny_mono (wpAny_bindName (X₁.putV' hj hk' (r2.keeps (kp kk)))) (fun _ s₂ q => ?_) fun _ _ e => e)
  refine wpAny_assignInOrder_more (wpAny_mono (wpAny_bindName (q.2.1.putV hj' hk ((r1.keeps (kp kk)).pres q.2.2))) (fun _ s₃ z => ?_) fun _ _ e => e)
  exact wpAny_assignInOrder_none ⟨up_trans (up_kp p.2) (up_trans (up_kp kk) (up_trans q.1 z.1)), rfl, _, z.2⟩

-- the distance, in plain Lean
def loopN (c : Nat → Option Bool) : Nat → Nat → Option Nat
  | 0, _ => none
  | n + 1, j => match c j with
    | some true => loopN c n (j + 1)
    | some false => some j
    | none => none
theorem loopN_wh {c : Nat → Option Bool} {r : Nat} : ∀ {n j : Nat}, loopN c n j = some r → ∃ m, Wh (fun j => (c j).getD false) (· + 1) m j r
  | 0, j, h => by cases h
  | n + 1, j, h => by
    unfold loopN at h
    cases e : c j with
    | none => rw [e] at h; cases h
    | some b =>
      rw [e] at h
      cases b with
      | true => obtain ⟨m, hm⟩ := loopN_wh h; exact ⟨m + 1, .step (by rw [e]; rfl) hm⟩
      | false => cases h; exact ⟨0, .stop (by rw [e]; rfl)⟩
def nz (x : Str) : Bool := (x.length : Int) != 0
def preC (a b : Str) (j : Nat) : Option Bool :=
  if nz (Txt.slice a (some j) none) && nz (Txt.slice b (some j) none) then
    if (Txt.charAt a j).isSome && (Txt.charAt b j).isSome then some (Txt.item a j == Txt.item b j) else none
  else some false
def postS (a : Str) (j : Nat) : Str := Txt.slice a none (if j = 0 then none else some (-(j : Int)))
def postC (a b : Str) (j : Nat) : Option Bool :=
  if nz (postS a j) && nz (postS b j) then
    if (Txt.charAt a (-(j : Int) - 1)).isSome && (Txt.charAt b (-(j : Int) - 1)).isSome then some (Txt.item a (-(j : Int) - 1) == Txt.item b (-(j : Int) - 1)) else none
  else some false
structure Lv where
  row : List Int
  result : Int
  distance : Int
  minimum : Int
def lvIn (bc a : Str) (t : Lv) (i : Nat) : Lv :=
  let sub := t.distance + subCost bc (Txt.item a i)
  let d := t.row.getD i 0
  let idl := (if d < t.result then d else t.result) + 2
  let r := if sub < idl then sub else idl
  { row := t.row.set i r, result := r, distance := d, minimum := if r < t.minimum then r else t.minimum }
def lvIns (bc a : Str) (t : Lv) : Nat → Lv
  | 0 => t
  | i + 1 => lvIn bc a (lvIns bc a t i) i
def lvRow (a b : Str) (row : List Int) (j : Nat) : Lv := lvIns (Txt.item b j) a { row := row, result := j * 2, distance := j * 2, minimum := 9223372036854775807 } a.length
def lvOut (a b : Str) : Nat → Lv
  | 0 => { row := step 2 2 a.length, result := 0, distance := 0, minimum := 0 }
  | j + 1 => lvRow a b (lvOut a b j).row j
def lvEnd (a b : Str) (max : Int) : Option Int :=
  if !nz a || !nz b then some (2 * (a.length + b.length)) else
  if decide ((a.length : Int) > 40) || decide ((b.length : Int) > 40) then none else
  let p := if (b.length : Int) < a.length then (b, a) else (a, b)
  if ((p.2.length : Int) - p.1.length) * 2 > max then none else
  if (List.range p.2.length).all fun j => decide ¬ (lvOut p.1 p.2 (j + 1)).minimum > max then some (lvOut p.1 p.2 p.2.length).result else none
def lev (a b : Str) (max : Int) : Option Int :=
  if a == b then some 0 else do
  let j ← loopN (preC a b) 60 0
  let a1 := Txt.slice a (some j) none
  let b1 := Txt.slice b (some j) none
  let i ← loopN (postC a1 b1) 60 0
  lvEnd (postS a1 i) (postS b1 i) max
end
end Mine
end
section
open PySem PySem.W PyProof.Rows
set_option linter.unusedVariables false
namespace Mine
section
variable {env E cenv : Env} {B : Heap} {ρ ρ' : Vs} {prog : Program} {w : World} {k : Nat}
theorem item_len (x : Str) (i : Int) : (Txt.item x i).length ≤ 5592405 := by
  show (#[(Txt.charAt x i).getD 0] : Array Nat).size ≤ _
  simp
structure LevG (B : Heap) (f fs : Addr) : Prop where
  me : FnAt B "_levenshtein_distance" 12 f
  sub : FnAt B "_substitution_cost" 11 fs
  cc : ∃ t, BG B "_CASE_COST" (.int 1 t)
  mc : ∃ t, BG B "_MOVE_COST" (.int 2 t)
  mx : ∃ t, BG B "_MAX_STRING_SIZE" (.int 40 t)
  len : BI B "len" (.builtin "len")
  list : BI B "list" (.type "list")
  range : BI B "range" (.type "range")
  min : BI B "min" (.builtin "min")
theorem lvIn_row {bc a : Str} {t : Lv} {i : Nat} : (lvIn bc a t i).row.length = t.row.length := by simp [lvIn]
theorem lvIns_row {bc a : Str} {t : Lv} : ∀ {i : Nat}, (lvIns bc a t i).row.length = t.row.length
  | 0 => rfl
  | i + 1 => by unfold lvIns; rw [lvIn_row, lvIns_row]
theorem lvOut_row {a b : Str} : ∀ {j : Nat}, (lvOut a b j).row.length = a.length
  | 0 => by simp [lvOut, step]
  | j + 1 => by unfold lvOut lvRow; rw [lvIns_row]; exact lvOut_row
theorem pt_and3 {e1 e2 e3 : Expr} {pos : Pos} {b1 b2 b3 : Bool} (h1 : PT prog w k env B ρ e1 b1) (h2 : PT prog w k env B ρ e2 b2) (h3 : b1 = true → b2 = true → PT prog w k env B ρ e3 b3) : PT prog w k env B ρ (.BoolOp .And [e1, e2, e3] pos) (b1 && (b2 && b3)) := by
  refine PT.all (PTs.and h1 fun q1 => ?_)
  cases b2 with
  | false => exact PTs.and (c := b3) h2 fun h => by cases h
  | true =>
    refine PTs.and h2 fun _ => ?_
    have := PTs.and (h3 q1 rfl) fun _ => PTs.and_nil
    rwa [Bool.and_true] at this
theorem preC_val {a b : Str} {j : Nat} {v : Bool} (h : preC a b j = some v) : v = (nz (Txt.slice a (some (j : Int)) none) && (nz (Txt.slice b (some (j : Int)) none) && (Txt.item a j == Txt.item b j))) ∧
    (nz (Txt.slice a (some (j : Int)) none) = true → nz (Txt.slice b (some (j : Int)) none) = true → (Txt.charAt a j).isSome = true ∧ (Txt.charAt b j).isSome = true) := by
  unfold preC at h
  cases e1 : nz (Txt.slice a (some (j : Int)) none) <;> cases e2 : nz (Txt.slice b (some (j : Int)) none) <;> rw [e1, e2] at h
  · cases h; exact ⟨rfl, fun h => by cases h⟩
  · cases h; exact ⟨rfl, fun h => by cases h⟩
  · cases h; exact ⟨rfl, fun _ h => by cases h⟩
  · rw [if_pos (by rfl)] at h
    cases e3 : (Txt.charAt a j).isSome <;> cases e4 : (Txt.charAt b j).isSome <;> rw [e3, e4] at h <;> first | (cases h; done) | (cases h; exact ⟨rfl, fun _ _ => ⟨rfl, rfl⟩⟩) | (simp at h; done)
theorem postC_val {a b : Str} {j : Nat} {v : Bool} (h : postC a b j = some v) : v = (nz (postS a j) && (nz (postS b j) && (Txt.item a (-(j : Int) - 1) == Txt.item b (-(j : Int) - 1)))) ∧
    (nz (postS a j) = true → nz (postS b j) = true → (Txt.charAt a (-(j : Int) - 1)).isSome = true ∧ (Txt.charAt b (-(j : Int) - 1)).isSome = true) := by
  unfold postC at h
  cases e1 : nz (postS a j) <;> cases e2 : nz (postS b j) <;> rw [e1, e2] at h
  · cases h; exact ⟨rfl, fun h => by cases h⟩
  · cases h; exact ⟨rfl, fun h => by cases h⟩
  · cases h; exact ⟨rfl, fun _ h => by cases h⟩
  · rw [if_pos (by rfl)] at h
    cases e3 : (Txt.charAt a (-(j : Int) - 1)).isSome <;> cases e4 : (Txt.charAt b (-(j : Int) - 1)).isSome <;> rw [e3, e4] at h <;> first | (cases h; done) | (simp at h; done) | skip
    simp at h
    exact ⟨by rw [← h]; simp, fun _ _ => ⟨rfl, rfl⟩⟩
theorem loopN_at {c : Nat → Option Bool} {r n j : Nat} (h : loopN c n j = some r) : ∃ m v, n = m + 1 ∧ c j = some v ∧ (v = true → loopN c m (j + 1) = some r) := by
  cases n with
  | zero => cases h
  | succ m =>
    unfold loopN at h
    cases e : c j with
    | none => rw [e] at h; cases h
    | some v =>
      rw [e] at h
      exact ⟨m, v, rfl, rfl, fun hv => by rw [hv] at h; exact h⟩
theorem postPart {env : Env} {i : Nat} {x : Str} {px pos pn : Pos} {j kd : Nat} (hi : ρ[i]? = some (x, .v (.int (-(j : Int))))) (hd : (x == ("__debug__" : Str)) = false := by decide) :
    PPt prog w k env B ρ (some (.BoolOp .Or [.Name x px, .Constant .none kd pn] pos)) (if j = 0 then none else some (-(j : Int))) := by
  by_cases h : j = 0
  · rw [if_pos h]
    exact PPt.no (PE.or (b := false) (PE.var i hi hd) (by have := @TruR.int prog w k (-(j : Int)); rw [show (-(j : Int) != 0) = false by simp [h]] at this; exact this) (fun h => by cases h) fun _ => PE.nn)
  · rw [if_neg h]
    exact PPt.int (PE.or (b := true) (PE.var i hi hd) (by have := @TruR.int prog w k (-(j : Int)); rw [show (-(j : Int) != 0) = true by simp; omega] at this; exact this) (fun _ => rfl) fun h => by cases h)
theorem postS_le (a : Str) (j : Nat) : (postS a j).length ≤ a.length := Txt.slice_le _ _ _
theorem natLo (n : Nat) : -(2 ^ 62) ≤ (n : Int) := by omega
theorem natHi {n : Nat} (h : n ≤ 1000) : (n : Int) < 2 ^ 62 := by omega
theorem k16 {n : Nat} (h : n ≤ 1000) : n ≤ 16777216 := Nat.le_trans h (by decide)
theorem k1M {n : Nat} (h : n ≤ 1000) : n < 1000000 := Nat.lt_of_le_of_lt h (by decide)
set_option maxRecDepth 100000 in
set_option maxHeartbeats 2000000 in
theorem lev_ok {f fs : Addr} (G : LevG B f fs) (a b : Str) (max r : Int) (ha : a.length ≤ 1000) (hb : b.length ≤ 1000) (hlev : lev a b max = some r) : CallR prog w 2 B (.ref f) [.str a, .str b, .int max] (.int r) := by
  refine CallR.fn (ns := ["a", "b", "max_cost"]) (rest := ["pre", "post", "row", "result", "bindex", "bchar", "distance", "minimum", "index", "substitute", "insert_delete"]) G.me rfl (fun Vs pm cd doc h => ?_) (kind_loc (by decide +kernel)) (by decide +kernel) (fun L => List.nodup_nil) fun L cd => ?_
  · obtain ⟨V, W, X, rfl⟩ := three_of h
    with_unfolding_all rfl
  · unfold lev at hlev
    by_cases hab : (a == b) = true
    · rw [if_pos hab] at hlev
      cases hlev
      exact PS.ret (P1.iteT (PT.cmp (PE.var 0 rfl) (PE.var 1 rfl) CmpR.eqS) hab (PS.ret (P1.ret PE.int)))
    rw [if_neg hab] at hlev
    refine PS.cons (P1.skip (PT.cmp (PE.var 0 rfl) (PE.var 1 rfl) CmpR.eqS) (Bool.eq_false_iff.mpr hab)) ?_
    obtain ⟨pj, e1, hlev⟩ := Option.bind_eq_some_iff.mp hlev
    dsimp only at hlev
    let st1 : Nat → Vs := fun j => [("a", .v (.str a)), ("b", .v (.str b)), ("max_cost", .v (.int max)), ("pre", .v (.int j)), ("post", .no), ("row", .no), ("result", .no), ("bindex", .no), ("bchar", .no), ("distance", .no), ("minimum", .no), ("index", .no), ("substitute", .no), ("insert_delete", .no)]
    refine PS.cons (ρ₁ := st1 0) (S1.set 3 PE.int rfl (.inl rfl)) ?_
    obtain ⟨m1, w1⟩ := loopN_wh e1
    refine PS.cons (P1.while st1 _ _ (fun j => ∃ n, j + n ≤ 60 ∧ loopN (preC a b) n j = some pj) w1 ⟨60, by omega, e1⟩ (fun j hj => ?_) (fun j hj hc => ?_)) ?_
    · obtain ⟨n, hn, hj⟩ := hj
      obtain ⟨m, v, rfl, hv, _⟩ := loopN_at hj
      obtain ⟨e, ok⟩ := preC_val hv
      have sa := Txt.slice_le a (some (j : Int)) none
      have sb := Txt.slice_le b (some (j : Int)) none
      refine PT.cast (pt_and3 (PT.val (PE.slS (PE.var 0 rfl) (PPt.int (PE.var 3 rfl)) PPt.nil (by first | exact k16 (by assumption) | omega)) (TruR.str (by first | exact k1M (by assumption) | omega))) (PT.val (PE.slS (PE.var 1 rfl) (PPt.int (PE.var 3 rfl)) PPt.nil (by first | exact k16 (by assumption) | omega)) (TruR.str (by first | exact k1M (by assumption) | omega)))
        fun q1 q2 => PT.cmp (PE.sub (PE.var 0 rfl) (PE.var 3 rfl) (IxR.str (fits (by omega) (by omega)) (ok q1 q2).1 rfl)) (PE.sub (PE.var 1 rfl) (PE.var 3 rfl) (IxR.str (fits (by omega) (by omega)) (ok q1 q2).2 rfl)) CmpR.eqS) ?_
      rw [hv]; exact e.symm
    · obtain ⟨n, hn, hj⟩ := hj
      obtain ⟨m, v, rfl, hv, hnx⟩ := loopN_at hj
      rw [hv] at hc
      exact ⟨PS.cons (ρ₁ := st1 (j + 1)) (S1.aug 3 rfl (.inl rfl) PE.int InR.add) PS.nil, m, by omega, hnx hc⟩
    generalize ha1 : Txt.slice a (some (pj : Int)) none = a1 at hlev
    generalize hb1 : Txt.slice b (some (pj : Int)) none = b1 at hlev
    have hla : a1.length ≤ 1000 := by rw [← ha1]; exact Nat.le_trans (Txt.slice_le _ _ _) ha
    have hlb : b1.length ≤ 1000 := by rw [← hb1]; exact Nat.le_trans (Txt.slice_le _ _ _) hb
    obtain ⟨pi, e2, hlev⟩ := Option.bind_eq_some_iff.mp hlev
    let st2 : Nat → Vs := fun j => [("a", .v (.str a1)), ("b", .v (.str b1)), ("max_cost", .v (.int max)), ("pre", .v (.int pj)), ("post", .v (.int (-(j : Int)))), ("row", .no), ("result", .no), ("bindex", .no), ("bchar", .no), ("distance", .no), ("minimum", .no), ("index", .no), ("substitute", .no), ("insert_delete", .no)]
    refine PS.cons (S1.set 0 (PE.cast (PE.slS (PE.var 0 rfl) (PPt.int (PE.var 3 rfl)) PPt.nil (by first | exact k16 (by assumption) | omega)) (congrArg PyData.str ha1)) rfl (.inl rfl)) ?_
    refine PS.cons (S1.set 1 (PE.cast (PE.slS (PE.var 1 rfl) (PPt.int (PE.var 3 rfl)) PPt.nil (by first | exact k16 (by assumption) | omega)) (congrArg PyData.str hb1)) rfl (.inl rfl)) ?_
    refine PS.cons (ρ₁ := st2 0) (S1.set 4 PE.int rfl (.inl rfl)) ?_
    obtain ⟨m2, w2⟩ := loopN_wh e2
    refine PS.cons (P1.while st2 _ _ (fun j => ∃ n, j + n ≤ 60 ∧ loopN (postC a1 b1) n j = some pi) w2 ⟨60, by omega, e2⟩ (fun j hj => ?_) (fun j hj hc => ?_)) ?_
    · obtain ⟨n, hn, hj⟩ := hj
      obtain ⟨m, v, rfl, hv, _⟩ := loopN_at hj
      obtain ⟨e, ok⟩ := postC_val hv
      have sa := postS_le a1 j
      have sb := postS_le b1 j
      refine PT.cast (pt_and3 (PT.val (PE.slS (PE.var 0 rfl) PPt.nil (postPart (i := 4) rfl) (by first | exact k16 (by assumption) | omega)) (TruR.str (a := postS a1 j) (k1M (Nat.le_trans sa hla)))) (PT.val (PE.slS (PE.var 1 rfl) PPt.nil (postPart (i := 4) rfl) (by first | exact k16 (by assumption) | omega)) (TruR.str (a := postS b1 j) (k1M (Nat.le_trans sb hlb))))
        fun q1 q2 => PT.cmp (PE.sub (PE.var 0 rfl) (PE.bin (PE.var 4 rfl) PE.int BinR.sub) (IxR.str (fits' (by omega) (by omega)) (ok q1 q2).1 rfl)) (PE.sub (PE.var 1 rfl) (PE.bin (PE.var 4 rfl) PE.int BinR.sub) (IxR.str (fits' (by omega) (by omega)) (ok q1 q2).2 rfl)) CmpR.eqS) ?_
      rw [hv]; exact e.symm
    · obtain ⟨n, hn, hj⟩ := hj
      obtain ⟨m, v, rfl, hv, hnx⟩ := loopN_at hj
      rw [hv] at hc
      refine ⟨PS.cons (ρ₁ := st2 (j + 1)) (S1.aug (d := .int (-((j + 1 : Nat) : Int))) 4 rfl (.inl rfl) PE.int ?_) PS.nil, m, by omega, hnx hc⟩
      rw [show -((j + 1 : Nat) : Int) = -(j : Int) - 1 by omega]
      exact InR.sub
    generalize ha2 : postS a1 pi = a2 at hlev
    generalize hb2 : postS b1 pi = b2 at hlev
    have hl2a : a2.length ≤ 1000 := by rw [← ha2]; exact Nat.le_trans (postS_le _ _) hla
    have hl2b : b2.length ≤ 1000 := by rw [← hb2]; exact Nat.le_trans (postS_le _ _) hlb
    refine PS.cons (S1.set 0 (PE.cast (PE.slS (PE.var 0 rfl) PPt.nil (postPart (i := 4) rfl) (by first | exact k16 (by assumption) | omega)) (congrArg PyData.str ha2)) rfl (.inl rfl)) ?_
    refine PS.cons (S1.set 1 (PE.cast (PE.slS (PE.var 1 rfl) PPt.nil (postPart (i := 4) rfl) (by first | exact k16 (by assumption) | omega)) (congrArg PyData.str hb2)) rfl (.inl rfl)) ?_
    unfold lvEnd at hlev
    have tE : ∀ {ρ : Vs}, True := trivial
    by_cases hem : (!nz a2 || !nz b2) = true
    · rw [if_pos hem] at hlev
      cases hlev
      refine PS.ret (P1.iteT (PT.all (PTs.or (PT.not (PT.val (PE.var 0 rfl) (TruR.str (by first | exact k1M (by assumption) | omega)))) fun _ => PTs.or (PT.not (PT.val (PE.var 1 rfl) (TruR.str (by first | exact k1M (by assumption) | omega)))) fun _ => PTs.or_nil)) (by rw [Bool.or_false]; exact hem)
        (PS.ret (P1.ret (PE.bin (PE.gint G.mc rfl) (PE.bin (PE.callB G.len rfl (.cons (PE.var 0 rfl) .nil) (CallR.lenS (by first | exact k16 (by assumption) | omega))) (PE.callB G.len rfl (.cons (PE.var 1 rfl) .nil) (CallR.lenS (by first | exact k16 (by assumption) | omega))) BinR.add) (BinR.mul (IntMulOk.of_left (by decide)))))))
    rw [if_neg hem] at hlev
    refine PS.cons (P1.skip (PT.all (PTs.or (PT.not (PT.val (PE.var 0 rfl) (TruR.str (by first | exact k1M (by assumption) | omega)))) fun _ => PTs.or (PT.not (PT.val (PE.var 1 rfl) (TruR.str (by first | exact k1M (by assumption) | omega)))) fun _ => PTs.or_nil)) (by rw [Bool.or_false]; exact Bool.eq_false_iff.mpr hem)) ?_
    by_cases hbig : (decide ((a2.length : Int) > 40) || decide ((b2.length : Int) > 40)) = true
    · rw [if_pos hbig] at hlev; cases hlev
    rw [if_neg hbig] at hlev
    refine PS.cons (P1.skip (PT.all (PTs.or (PT.cmp (PE.callB G.len rfl (.cons (PE.var 0 rfl) .nil) (CallR.lenS (by first | exact k16 (by assumption) | omega))) (PE.gint G.mx rfl) CmpR.gtI) fun _ => PTs.or (PT.cmp (PE.callB G.len rfl (.cons (PE.var 1 rfl) .nil) (CallR.lenS (by first | exact k16 (by assumption) | omega))) (PE.gint G.mx rfl) CmpR.gtI) fun _ => PTs.or_nil)) (by rw [Bool.or_false]; exact Bool.eq_false_iff.mpr hbig)) ?_
    dsimp only at hlev
    generalize hp : (if (b2.length : Int) < a2.length then (b2, a2) else (a2, b2)) = p at hlev
    have hp1 : p.1.length ≤ 1000 ∧ p.2.length ≤ 1000 ∧ 1 ≤ p.1.length := by
      have h1 : ¬ a2.length = 0 := fun h => hem (by simp [nz, h])
      have h2 : ¬ b2.length = 0 := fun h => hem (by simp [nz, h])
      rw [← hp]; split <;> (dsimp only; omega)
    obtain ⟨hpa, hpb, hpn⟩ := hp1
    obtain ⟨a3, b3⟩ := p
    dsimp only at hlev hpa hpb hpn
    let st3 : Vs := [("a", .v (.str a3)), ("b", .v (.str b3)), ("max_cost", .v (.int max)), ("pre", .v (.int pj)), ("post", .v (.int (-(pi : Int)))), ("row", .no), ("result", .no), ("bindex", .no), ("bchar", .no), ("distance", .no), ("minimum", .no), ("index", .no), ("substitute", .no), ("insert_delete", .no)]
    refine PS.cons (ρ₁ := st3) ?_ ?_
    · by_cases hsw : (b2.length : Int) < a2.length
      · rw [if_pos hsw] at hp
        cases hp
        exact P1.iteT (PT.cmp (PE.callB G.len rfl (.cons (PE.var 1 rfl) .nil) (CallR.lenS (by first | exact k16 (by assumption) | omega))) (PE.callB G.len rfl (.cons (PE.var 0 rfl) .nil) (CallR.lenS (by first | exact k16 (by assumption) | omega))) CmpR.ltI) (decide_eq_true hsw) (PS.cons (P1.swap 0 1 rfl rfl (.inl rfl) (.inl rfl) rfl) PS.nil)
      · rw [if_neg hsw] at hp
        cases hp
        exact P1.skip (PT.cmp (PE.callB G.len rfl (.cons (PE.var 1 rfl) .nil) (CallR.lenS (by first | exact k16 (by assumption) | omega))) (PE.callB G.len rfl (.cons (PE.var 0 rfl) .nil) (CallR.lenS (by first | exact k16 (by assumption) | omega))) CmpR.ltI) (decide_eq_false hsw)
    by_cases hfar : ((b3.length : Int) - a3.length) * 2 > max
    · rw [if_pos hfar] at hlev; cases hlev
    rw [if_neg hfar] at hlev
    refine PS.cons (P1.skip (PT.cmp (PE.bin (PE.bin (PE.callB G.len rfl (.cons (PE.var 1 rfl) .nil) (CallR.lenS (by first | exact k16 (by assumption) | omega))) (PE.callB G.len rfl (.cons (PE.var 0 rfl) .nil) (CallR.lenS (by first | exact k16 (by assumption) | omega))) BinR.sub) (PE.gint G.mc rfl) (BinR.mul (IntMulOk.of_right (by decide)))) (PE.var 2 rfl) CmpR.gtI) (decide_eq_false hfar)) ?_
    by_cases hall : (List.range b3.length).all (fun j => decide ¬ (lvOut a3 b3 (j + 1)).minimum > max) = true
    case neg => rw [if_neg hall] at hlev; cases hlev
    rw [if_pos hall] at hlev
    cases hlev
    let sto : Nat → Vs := fun j => [("a", .v (.str a3)), ("b", .v (.str b3)), ("max_cost", .v (.int max)), ("pre", .v (.int pj)), ("post", .v (.int (-(pi : Int)))), ("row", .o (.lst ((lvOut a3 b3 j).row.map .int))), ("result", .v (.int (lvOut a3 b3 j).result)), ("bindex", .no), ("bchar", .no), ("distance", .no), ("minimum", .no), ("index", .no), ("substitute", .no), ("insert_delete", .no)]
    have hsz : Builtin.Range.rangeSize 2 (2 * ((a3.length : Int) + 1)) 2 = (a3.length : Nat) := by
      unfold Builtin.Range.rangeSize
      rw [if_pos (by decide), if_pos (by omega)]; omega
    have hsmall : Builtin.Range.small 2 (2 * ((a3.length : Int) + 1)) 2 = true := by
      unfold Builtin.Range.small
      rw [hsz]
      have e : ∀ i : Int, 0 ≤ i → i ≤ 100000 → Builtin.Range.rangeFitsLong i = true := fun i h0 h1 => by
        unfold Builtin.Range.rangeFitsLong; simp; omega
      rw [e 2 (by omega) (by omega), e _ (by omega) (by omega), e (a3.length : Nat) (by omega) (by omega), if_pos (by decide), e _ (by omega) (by omega)]
      simp
    refine PS.cons (S1.own 5 (PN.listRange (n := a3.length) G.list G.range rfl rfl (PE.gint G.mc rfl) (PE.bin (PE.gint G.mc rfl) (PE.bin (PE.callB G.len rfl (.cons (PE.var 0 rfl) .nil) (CallR.lenS (by first | exact k16 (by assumption) | omega))) PE.int BinR.add) (BinR.mul (IntMulOk.of_left (by decide)))) (PE.gint G.mc rfl) (by decide) (by decide) hsmall hsz (by omega)) rfl (.inl rfl)) ?_
    refine PS.cons (ρ₁ := sto 0) (S1.set 6 PE.int rfl (.inl rfl)) ?_
    refine PS.cons (P1.for sto (PI.range1 (n := b3.length) G.range rfl (PE.callB G.len rfl (.cons (PE.var 1 rfl) .nil) (CallR.lenS (by first | exact k16 (by assumption) | omega))) (natLo _) (natHi hpb) (Int.toNat_natCast _).symm (k16 hpb)) fun j d hd => ?_) ?_
    · obtain ⟨rfl, hj⟩ := rng_at0 hd
      generalize hbc : Txt.item b3 (j : Int) = bc
      have hbcl : bc.length ≤ 5592405 := hbc ▸ item_len _ _
      let t0 : Lv := { row := (lvOut a3 b3 j).row, result := j * 2, distance := j * 2, minimum := 9223372036854775807 }
      have hrow0 : t0.row.length = a3.length := lvOut_row
      let sti : Nat → Vs := fun i => [("a", .v (.str a3)), ("b", .v (.str b3)), ("max_cost", .v (.int max)), ("pre", .v (.int pj)), ("post", .v (.int (-(pi : Int)))), ("row", .o (.lst ((lvIns bc a3 t0 i).row.map .int))), ("result", .v (.int (lvIns bc a3 t0 i).result)), ("bindex", .v (.int j)), ("bchar", .v (.str bc)), ("distance", .v (.int (lvIns bc a3 t0 i).distance)), ("minimum", .v (.int (lvIns bc a3 t0 i).minimum)), ("index", .no), ("substitute", .no), ("insert_delete", .no)]
      have hout : lvOut a3 b3 (j + 1) = lvIns bc a3 t0 a3.length := by
        show lvRow a3 b3 (lvOut a3 b3 j).row j = _
        unfold lvRow; rw [hbc]
      refine ⟨_, T1.name 7 rfl (.inl rfl), PS.post (PS.cons (S1.set 8 (PE.sub (PE.var 1 rfl) (PE.var 7 rfl) (IxR.str (fitsN hj (Nat.le_succ_of_le (k16 hpb))) ?_ hbc)) rfl (.inl rfl)) (PS.cons (S1.set2 9 6 (PE.bin (PE.var 7 rfl) (PE.gint G.mc rfl) (BinR.mul (IntMulOk.of_right (by decide)))) rfl (.inl rfl) rfl (.inl rfl)) (PS.cons (ρ₁ := sti 0) (S1.set 10 PE.int rfl (.inl rfl))
        (PS.cons (P1.for sti (PI.range1 (n := a3.length) G.range rfl (PE.callB G.len rfl (.cons (PE.var 0 rfl) .nil) (CallR.lenS (by first | exact k16 (by assumption) | omega))) (natLo _) (natHi hpa) (Int.toNat_natCast _).symm (k16 hpa)) fun i d hd => ?_) (PS.cons (P1.skip (PT.cmp (PE.var 10 rfl) (PE.var 2 rfl) CmpR.gtI) ?_) PS.nil))))) ?_⟩
      · unfold Txt.charAt
        rw [seqIx hj]
        show (b3.cps[j]?).isSome = true
        rw [Array.getElem?_eq_getElem (show j < b3.cps.size from hj)]; rfl
      · obtain ⟨rfl, hi⟩ := rng_at0 hd
        obtain ⟨t, hti⟩ : ∃ t, lvIns bc a3 t0 i = t := ⟨_, rfl⟩
        have hr : t.row.length = a3.length := by rw [← hti, lvIns_row]; exact hrow0
        have hnx : lvIns bc a3 t0 (i + 1) = lvIn bc a3 t i := by rw [← hti]; rfl
        generalize hsub : t.distance + subCost bc (Txt.item a3 i) = sub
        generalize hdd : t.row.getD i 0 = dd
        generalize hidl : (if dd < t.result then dd else t.result) + 2 = idl
        generalize hrr : (if sub < idl then sub else idl) = rr
        have hnx' : lvIns bc a3 t0 (i + 1) = { row := t.row.set i rr, result := rr, distance := dd, minimum := if rr < t.minimum then rr else t.minimum } := by
          rw [hnx]; unfold lvIn; dsimp only; rw [hsub, hdd, hidl, hrr]
        let stf : Vs := [("a", .v (.str a3)), ("b", .v (.str b3)), ("max_cost", .v (.int max)), ("pre", .v (.int pj)), ("post", .v (.int (-(pi : Int)))), ("row", .o (.lst ((t.row.set i rr).map .int))), ("result", .v (.int rr)), ("bindex", .v (.int j)), ("bchar", .v (.str bc)), ("distance", .v (.int dd)), ("minimum", .v (.int (if rr < t.minimum then rr else t.minimum))), ("index", .v (.int i)), ("substitute", .v (.int sub)), ("insert_delete", .v (.int idl))]
        have hci : (Txt.charAt a3 (i : Int)).isSome = true := by
          unfold Txt.charAt
          rw [seqIx hi]
          show (a3.cps[i]?).isSome = true
          rw [Array.getElem?_eq_getElem (show i < a3.cps.size from hi)]; rfl
        have hst : sti i = ([("a", .v (.str a3)), ("b", .v (.str b3)), ("max_cost", .v (.int max)), ("pre", .v (.int pj)), ("post", .v (.int (-(pi : Int)))), ("row", .o (.lst (t.row.map .int))), ("result", .v (.int t.result)), ("bindex", .v (.int j)), ("bchar", .v (.str bc)), ("distance", .v (.int t.distance)), ("minimum", .v (.int t.minimum)), ("index", .no), ("substitute", .no), ("insert_delete", .no)] : Vs) := by simp only [sti, hti]
        rw [hst]
        refine ⟨_, T1.name 11 rfl (.inl rfl), PS.post (PS.cons (S1.set 12 (PE.cast (b' := .int sub) (PE.bin (PE.var 9 rfl) (PE.callF G.sub rfl (.cons (PE.var 8 rfl) (.cons (PE.sub (PE.var 0 rfl) (PE.var 11 rfl) (IxR.str (fitsN hi (Nat.le_succ_of_le (k16 hpa))) hci rfl)) .nil)) (subCost_ok G.sub G.cc G.mc _ _ hbcl (item_len _ _))) BinR.add) (congrArg PyData.int hsub)) rfl (.inl rfl))
          (PS.cons (S1.set 9 (PE.cast (b' := .int dd) (PE.subOwn 5 rfl (PE.var 11 rfl) (by omega) (by omega) (map_int_at (by first | (rw [hr]; simpa using hi) | (rw [lvIns_row, hrow0]; simpa using hi)))) (congrArg PyData.int hdd)) rfl (.inl rfl))
          (PS.cons (S1.set 13 (PE.cast (b' := .int idl) (PE.bin (PE.callB G.min rfl (.cons (PE.var 6 rfl) (.cons (PE.var 9 rfl) .nil)) CallR.min2) (PE.gint G.mc rfl) BinR.add) (congrArg PyData.int hidl)) rfl (.inl rfl))
          (PS.cons (S1.set 6 (PE.cast (b' := .int rr) (PE.callB G.min rfl (.cons (PE.var 13 rfl) (.cons (PE.var 12 rfl) .nil)) CallR.min2) (congrArg PyData.int hrr)) rfl (.inl rfl))
          (PS.cons (S1.setSub 5 rfl (PE.var 6 rfl) (PE.var 11 rfl) (by omega) (by first | (rw [List.length_map, hr]; omega) | (rw [List.length_map, lvIns_row, hrow0]; omega)) (by first | (rw [List.length_map, hr]; omega) | (rw [List.length_map, lvIns_row, hrow0]; omega)))
          (PS.cons (ρ₁ := stf) ?_ PS.nil)))))) ?_⟩
        · by_cases hmin : rr < t.minimum
          · refine P1.iteT (PT.cmp (PE.var 6 rfl) (PE.var 10 rfl) CmpR.ltI) (decide_eq_true hmin) (PS.cons (S1.set 10 (PE.var 6 rfl) rfl (.inl rfl) (h := ?_)) PS.nil)
            simp only [stf, if_pos hmin, List.map_set]
            rfl
          · refine P1.cast (P1.skip (PT.cmp (PE.var 6 rfl) (PE.var 10 rfl) CmpR.ltI) (decide_eq_false hmin)) ?_
            simp only [stf, if_neg hmin, List.map_set]
            rfl
        · show Le _ (sti (i + 1))
          simp only [sti, stf, hnx']
          exact .same (.same (.same (.same (.same (.same (.same (.same (.same (.same (.same (.drop (.drop (.drop .nil)))))))))))))
      · rw [rng_len]
        have := List.all_eq_true.mp hall j (List.mem_range.mpr hj)
        rw [hout] at this
        exact decide_eq_false (by simpa using this)
      · rw [rng_len]
        show Le _ (sto (j + 1))
        simp only [sto, sti, hout]
        exact .same (.same (.same (.same (.same (.same (.same (.drop (.drop (.drop (.drop (.drop (.drop (.drop .nil)))))))))))))
    · rw [rng_len]
      exact PS.ret (P1.ret (PE.var 6 rfl))
end
end Mine
end
section
open PySem PySem.W PyProof.Rows
set_option linter.unusedVariables false
namespace Mine
section
variable {env E cenv : Env} {B : Heap} {ρ ρ' : Vs} {prog : Program} {w : World} {k : Nat}
abbrev tyI : PyData := .dict []
theorem PE.tyInt {x : Str} {pos : Pos} (g : BI B x (.type "int")) (hk : env.kindOf x = some .globalImplicit) (hd : (x == ("__debug__" : Str)) = false := by decide) : PE prog w k env B ρ (.Name x pos) tyI :=
  ⟨fun A os av s hA r => wpAny_NameB r.ok hk g r.base ⟨.ty, kp_refl s⟩ hd⟩
theorem PE.callT {x : Str} {px pos : Pos} {e : Expr} {i : Int} (g : BI B x (.type "type")) (hk : env.kindOf x = some .globalImplicit) (he : PE prog w k env B ρ e (.int i)) (hs : isStar e = false := by rfl) (hd : (x == ("__debug__" : Str)) = false := by decide) :
    PE prog w k env B ρ (.Call (.Name x px) [e] [] pos) tyI := by
  constructor
  intro A os av s hA r
  refine Call_ (wpAny_NameB r.ok hk g r.base (PyProof.Rows.callWith_type1 (wpAny_mono ((PAs.cons he .nil hs).out A os av s pos hA r) (fun vs s₁ p => ?_) fun _ _ e => e) (star_one hs)) hd) call_name
  obtain ⟨V, rfl, q⟩ := p.1.one
  obtain ⟨t, rfl⟩ := q.int_inv
  exact call_type_of (Tx := "int") (typeIs_int _ _ _) (by decide) ⟨.ty, p.2⟩
theorem foldl_one (V : Value) : ∀ (n : Nat) (acc : Array Value), ((List.replicate n #[V]).foldl (fun x1 x2 => x1 ++ x2) acc).toList = acc.toList ++ List.replicate n V
  | 0, acc => by simp
  | n + 1, acc => by
    rw [List.replicate_succ, List.foldl_cons, foldl_one V n]
    simp [List.replicate_succ]
theorem VRs.replicate {av : List Addr} {h : Heap} {d : PyData} {V : Value} (r : VR av h d V) : ∀ n, VRs av h (List.replicate n d) (List.replicate n V)
  | 0 => .nil
  | n + 1 => .cons r (VRs.replicate r n)
theorem mulListP {A : Around} {s : Shared} {l : Addr} {items : Array Value} {k : Nat} {x : Int} {u : Tok} {Q : Value → Shared → Prop} (hl : s.heap.get? l = some { cls := .type "list", dict := none, data := .seq items k, slots := #[] })
    (hlo : -(2 ^ 63 : Int) ≤ x) (hhi : x < 2 ^ 63) (hsz : items.size * x.toNat ≤ 2 ^ 24)
    (h : Q (.ref s.heap.objs.size) { s with heap := s.heap.push { cls := .type "list", data := .seq (List.foldl (fun x1 x2 => x1 ++ x2) #[] (List.replicate (if items.isEmpty = true then 0 else x.toNat) items)) } }) :
    wpAny (model prog w) A (binaryOp .Mult (.ref l) (.int x u)) Q No s :=
  wpAny_binaryOp_repeat_ref (T := "list") (U := "int") (by decide) ⟨_, hl, rfl⟩ (fun s' => typeIs_int s' x u) noFill_list_mul F.fills_int_mul F.slot_int_rmul repeat_list F.slot_int_index.lookup
    (call_meets F.slot_int_rmul (typeIs_int s x u) F.entry_int_rmul (F.args_int_rmul_2 _ _) (int___rmul___int_list x u l items k)
      ⟨hl, rfl, ⟨_, hl, rfl⟩, call_meets F.slot_list_mul ⟨_, hl, rfl⟩ F.entry_list_mul (F.args_list_mul_2 _ _)
        (AutoListH.list___mul___list_int_3 l items k x u (by simp [Builtin.List.listFitsIndex]; omega) (by omega) (by simp [Builtin.List.listTooLong, sizeLine]; omega)) ⟨hl, h⟩⟩)
theorem BinR.mulL {d : PyData} {n : Nat} (hn : n ≤ 1000) : BinR prog w k .Mult (.list [d]) (.int n) (.list (List.replicate n d)) := by
  constructor
  intro A av s V W hA hal x y
  obtain ⟨a, vs, m, rfl, ha, e, hv⟩ := x.list_inv
  obtain ⟨t, rfl⟩ := y.int_inv
  obtain ⟨V, hV, hr⟩ := hv.one
  have hvs : vs = #[V] := by apply Array.toList_inj.mp; simpa using hV
  subst hvs
  refine mulListP e (by omega) (by omega) (by simp; omega) ⟨.newList hal ?_, kp_mk fun b o eb => Heap.get?_push_of_some _ eb⟩
  have : (#[V] : Array Value).isEmpty = false := rfl
  rw [this]
  simp only [Bool.false_eq_true, if_false, Int.toNat_natCast]
  rw [foldl_one V n #[]]
  simpa using VRs.replicate hr n
theorem VRs.tys {av : List Addr} {h : Heap} : ∀ {n : Nat} {Vs : List Value}, VRs av h (List.replicate n tyI) Vs → Vs = List.replicate n (.type "int")
  | 0, _, y => y.nil_inv
  | n + 1, _, y => by
    rw [List.replicate_succ] at y ⊢
    obtain ⟨V, Vs', rfl, r, q⟩ := y.cons_inv
    rw [r.ty_inv, q.tys]
theorem CmpR.neTy {n : Nat} : CmpR prog w k .NotEq (.list (List.replicate n tyI)) (.list (List.replicate n tyI)) false := by
  constructor
  intro A av s V W hA x y
  obtain ⟨a, vs, m, rfl, ha, e, hv⟩ := x.list_inv
  obtain ⟨b, us, l, rfl, hb, e', hu⟩ := y.list_inv
  have h1 : vs = (List.replicate n (Value.type "int")).toArray := by apply Array.toList_inj.mp; simpa using hv.tys
  have h2 : us = (List.replicate n (Value.type "int")).toArray := by apply Array.toList_inj.mp; simpa using hu.tys
  subst h1 h2
  refine SeqAt.RcNeAt.lists (isList_of e) (isList_of e') rfl hA.u (e := fun _ => true) (fun j p q => ?_) prog w _ _ ⟨?_, kp_refl s⟩
  · exact SeqAt.EqAt.same _
  · simp
theorem CmpR.isNotTy : CmpR prog w k .IsNot tyI tyI false := by
  constructor
  intro A av s V W hA x y
  rw [x.ty_inv, y.ty_inv]
  exact wpAny_isNot_self rfl ⟨rfl, kp_refl s⟩
end
end Mine
end
section
open PySem PySem.W PyProof.Rows
set_option linter.unusedVariables false
namespace Mine
theorem ln_find : ∀ w < 6, ∀ b < 3, ∀ k < 5, Txt.find (ln w (97 + k) b) ⟨#[97 + k]⟩ = (w : Int) := by decide +kernel
theorem rep_lt {c c' : Nat} (hc : 32 < c) (hc' : 32 < c') (hne : c ≠ c') (r r' : List Nat) : ∀ w w', decide (List.replicate w 32 ++ c :: r < List.replicate w' 32 ++ c' :: r') = (decide (w' < w) || (w == w' && decide (c < c')))
  | 0, 0 => by
    rw [List.replicate_zero, List.nil_append, List.nil_append, StrLaws.lt_cons_cons]
    have : (c == c') = false := by simpa using hne
    rw [this]; simp
  | 0, w' + 1 => by
    rw [List.replicate_zero, List.nil_append, List.replicate_succ, List.cons_append, StrLaws.lt_cons_cons]
    have h1 : (c == 32) = false := by simp; omega
    have h2 : decide (c < 32) = false := by simp; omega
    rw [h1, h2]; simp
  | w + 1, 0 => by
    rw [List.replicate_zero, List.nil_append, List.replicate_succ, List.cons_append, StrLaws.lt_cons_cons]
    have h2 : decide (32 < c') = true := by simpa using hc'
    rw [h2]; simp
  | w + 1, w' + 1 => by
    rw [List.replicate_succ, List.replicate_succ, List.cons_append, List.cons_append, StrLaws.lt_cons_cons, rep_lt hc hc' hne r r' w w']
    simp
theorem ln_lt {w c b w' c' b' : Nat} (hc : 32 < c) (hc' : 32 < c') (hne : c ≠ c') : decide ((ln w c b).cps.toList < (ln w' c' b').cps.toList) = (decide (w' < w) || (w == w' && decide (c < c'))) :=
  rep_lt hc hc' hne _ _ w w'
def keyOf (w k : Nat) : Int := 5 * (5 - (w : Int)) + k
def sgn1 (d : Int) : Int := if (if d < 1 then d else 1) > -1 then (if d < 1 then d else 1) else -1
theorem sgn1_pos {d : Int} (h : d ≥ 1) : sgn1 d = 1 := by
  unfold sgn1; rw [if_neg (show ¬ d < 1 by omega), if_pos (by decide)]
theorem sgn1_neg {d : Int} (h : d ≤ -1) : sgn1 d = -1 := by
  unfold sgn1; rw [if_pos (show d < 1 by omega), if_neg (by omega)]
theorem coll_sgn {w b k w' b' k' : Nat} (hk : k < 5) (hk' : k' < 5) (hs : k = k' → w = w' ∧ b = b') : strcollD (ln w (97 + k) b) (ln w' (97 + k') b') = sgn1 (keyOf w k - keyOf w' k') := by
  by_cases hkk : k = k'
  · obtain ⟨rfl, rfl⟩ := hs hkk
    subst hkk
    unfold strcollD
    have : ¬ (ln w (97 + k) b).cps.toList < (ln w (97 + k) b).cps.toList := List.lt_irrefl _
    rw [decide_eq_false this]
    unfold sgn1; simp
  · unfold strcollD
    rw [ln_lt (by omega) (by omega) (by omega), ln_lt (by omega) (by omega) (by omega)]
    rcases Nat.lt_trichotomy w w' with h | h | h
    · have h1 : decide (w < w') = true := by simpa using h
      have h2 : decide (w' < w) = false := by simp; omega
      have h3 : (w == w') = false := by simp; omega
      rw [h1, h2, h3, sgn1_pos (by unfold keyOf; omega)]
      rfl
    · subst h
      have h1 : decide (w < w) = false := by simp
      have h3 : (w == w) = true := by simp
      rw [h1, h3]
      rcases Nat.lt_trichotomy k k' with g | g | g
      · have g1 : decide (97 + k < 97 + k') = true := by simpa using g
        have g2 : decide (97 + k' < 97 + k) = false := by simp; omega
        rw [g1, g2, sgn1_neg (by unfold keyOf; omega)]
        rfl
      · exact absurd g hkk
      · have g1 : decide (97 + k < 97 + k') = false := by simp; omega
        have g2 : decide (97 + k' < 97 + k) = true := by simpa using g
        rw [g1, g2, sgn1_pos (by unfold keyOf; omega)]
        rfl
    · have h1 : decide (w < w') = false := by simp; omega
      have h2 : decide (w' < w) = true := by simpa using h
      have h4 : (w' == w) = false := by simp; omega
      rw [h1, h2, h4, sgn1_neg (by unfold keyOf; omega)]
      rfl
end Mine
end
section
open PySem PySem.W PyProof.Rows
set_option linter.unusedVariables false
namespace Mine
section
variable {env E cenv : Env} {B : Heap} {ρ ρ' : Vs} {prog : Program} {w : World} {k : Nat}
abbrev lnOf (ws bs : List Nat) (k : Nat) : Str := ln (ws.getD k 0) (97 + k) (bs.getD k 0)
def lines (ws bs : List Nat) : List Str := (List.range 5).map (lnOf ws bs)
def keysOf (ws : List Nat) : List Int := (List.range 5).map fun k => keyOf (ws.getD k 0) k
def signsOf (ws : List Nat) (k : Nat) : List Int := (List.range 5).map fun o => sgn1 (keyOf (ws.getD o 0) o - keyOf (ws.getD k 0) k)
def takes (ws : List Nat) (supply : Nat) (k : Nat) : Bool := decide (0 < ws.getD k 0) && decide ((signsOf ws k).count (-1) < supply)
def nextW (ws : List Nat) (supply : Nat) : List Nat := (List.range 5).map fun k => if takes ws supply k = true then ws.getD k 0 - 1 else ws.getD k 0
def givenOf (ws : List Nat) (supply n : Nat) : List Str := ((List.range n).filter (takes ws supply)).map fun k => ⟨#[97 + k]⟩
def afterOf (ws bs : List Nat) (supply n : Nat) : List Str := (List.range n).map fun k => if takes ws supply k = true then ln (ws.getD k 0 - 1) (97 + k) (bs.getD k 0) else lnOf ws bs k
theorem shaped_ints (ns : List Int) : SeqAt.shaped (.list (ns.map .int)) = true := by
  unfold SeqAt.shaped
  rw [Bool.and_eq_true]
  constructor
  · show PyData.canLayAll0 (ns.map .int) = true
    induction ns with
    | nil => rfl
    | cons n ns ih => rw [List.map_cons, PyData.canLayAll0, ih]; rfl
  · have : PyData.depthAll (ns.map .int) ≤ 1 := by
      induction ns with
      | nil => simp [PyData.depthAll]
      | cons n ns ih => rw [List.map_cons, PyData.depthAll]; simp [PyData.depth]; omega
    simp [PyData.depth]; omega
theorem ne_self {d : PyData} (h : SeqAt.shaped d = true) : CmpR prog w k .NotEq d d false := by
  have := @CmpR.ne prog w k d d h h
  rwa [SeqAt.eqv_refl d (SeqAt.canLay_of_shaped h)] at this
theorem abc_item : ∀ j : Nat, j < 5 → Txt.item "abcde" (j : Int) = ⟨#[97 + j]⟩ ∧ (Txt.charAt "abcde" (j : Int)).isSome = true := by decide +kernel
structure RoundG (B : Heap) (f fc fp : Addr) : Prop where
  me : FnAt B "_law_round" 23 f
  coll : FnAt B "_strcoll" 3 fc
  strip : FnAt B "_strip_padding" 4 fp
  enum : BI B "enumerate" (.type "enumerate")
  max : BI B "max" (.builtin "max")
  min : BI B "min" (.builtin "min")
  type : BI B "type" (.type "type")
  int : BI B "int" (.type "int")
  len : BI B "len" (.builtin "len")
set_option maxRecDepth 100000 in
set_option maxHeartbeats 2000000 in
theorem round_ok {f fc fp : Addr} (G : RoundG B f fc fp) (ws bs : List Nat) (supply : Nat) (hw : ∀ k < 5, ws.getD k 0 < 6) (hb : ∀ k < 5, bs.getD k 0 < 3) :
    CallR prog w 2 B (.ref f) [.list ((lines ws bs).map .str), .int supply] (.tuple [.list ((givenOf ws supply 5).map .str), .list ((afterOf ws bs supply 5).map .str)]) := by
  refine CallR.fn (ns := ["lines", "supply"]) (rest := ["given", "after", "keys", "k", "line", "signs"]) G.me rfl (fun Vs pm cd doc h => ?_) (kind_loc (by decide +kernel)) (by decide +kernel) (fun L => ?_) fun L cd => ?_
  · match Vs, h with
    | [V, W], _ => with_unfolding_all rfl
  · exact nodup_of (by rfl)
  · have hll : (lines ws bs).length = 5 := by simp [lines]
    have lat : ∀ k < 5, (lines ws bs).getD k ⟨#[]⟩ = lnOf ws bs k := fun k hk => by simp [lines, List.getD, hk]
    have hlen : ∀ k < 5, (lnOf ws bs k).length ≤ 16777216 := fun k hk => by
      have := hw k hk; have := hb k hk; rw [ln_len]; omega
    let st : Nat → Vs := fun i => [("lines", .v (.list ((lines ws bs).map .str))), ("supply", .v (.int supply)), ("given", .o (.lst ((givenOf ws supply i).map .str))), ("after", .o (.lst ((afterOf ws bs supply i).map .str))), ("keys", .v (.list ((keysOf ws).map .int))), ("k", .no), ("line", .no), ("signs", .no)]
    refine PS.cons (S1.own 2 (PN.list PAs.nil) rfl (.inl rfl)) (PS.cons (S1.own 3 (PN.list PAs.nil) rfl (.inl rfl)) ?_)
    refine PS.cons (ρ₁ := st 0) (S1.set 4 (compE (xs := enumP ((lines ws bs).map .str)) (own := fun _ => []) (ρ₀ := [("k", .no), ("line", .no)]) (ρi := fun j => [("k", .v (.int j)), ("line", .v (.str (lnOf ws bs j)))]) (p := fun _ => true) (f := fun j => .int (keyOf (ws.getD j 0) j)) (out := (keysOf ws).map .int)
      ⟨rfl, rfl, by decide +kernel, (PI.enum G.enum rfl (PE.var 0 rfl) (by rw [List.length_map, hll]; omega)).c, own0, fun C av h os H => cap_no (cap_no cap_nil), fun C j d hd => ?_, fun _ _ _ _ => .nil, fun C j d hd _ => ?_⟩ ?_) rfl (.inr ⟨rfl, _, rfl⟩)) ?_
    · obtain ⟨x, hx, rfl⟩ := enumP_at hd
      obtain ⟨rfl, hj⟩ := at_str hx
      rw [hll] at hj
      rw [lat j hj]
      exact C2.pair 0 1 rfl rfl
    · have hj : j < 5 := by have := lt_of_at hd; rw [enumP_len, List.length_map, hll] at this; exact this
      refine PE.cast (PE.bin (PE.bin PE.int (PE.bin PE.int (PE.meth1 (PE.var 1 rfl) (PE.sub PE.str (PE.var 0 rfl) (IxR.str (fits (by omega) (by omega)) (abc_item j hj).2 (abc_item j hj).1)) Mth1.find) BinR.sub) (BinR.mul (IntMulOk.of_left (by decide)))) (PE.var 0 rfl) BinR.add) ?_
      rw [ln_find _ (hw j hj) _ (hb j hj) _ hj]; rfl
    · rw [enumP_len, List.length_map, hll, coll_all, keysOf, List.map_map]; rfl
    refine PS.cons (P1.for st (PI.enum G.enum rfl (PE.var 0 rfl) (by rw [List.length_map, hll]; omega)) fun i d hd => ?_) ?_
    · obtain ⟨x, hx, rfl⟩ := enumP_at hd
      obtain ⟨rfl, hi⟩ := at_str hx
      rw [hll] at hi
      rw [lat i hi]
      let st2 : Vs := [("lines", .v (.list ((lines ws bs).map .str))), ("supply", .v (.int supply)), ("given", .o (.lst ((givenOf ws supply i).map .str))), ("after", .o (.lst ((afterOf ws bs supply i).map .str))), ("keys", .v (.list ((keysOf ws).map .int))), ("k", .v (.int i)), ("line", .v (.str (lnOf ws bs i))), ("signs", .v (.list ((signsOf ws i).map .int)))]
      refine ⟨_, T1.pair 5 6 rfl (.inr ⟨rfl, _, rfl⟩) rfl (.inr ⟨rfl, _, rfl⟩), PS.post (PS.cons (ρ₁ := st2) (S1.comp 7 (xs := (lines ws bs).map .str) (own := fun _ => []) (ρ₀ := [("other", .no), ("line", .v (.str (lnOf ws bs i)))]) (ρi := fun j => [("other", .v (.str (lnOf ws bs j))), ("line", .v (.str (lnOf ws bs i)))]) (p := fun _ => true) (f := fun j => .int (strcollD (lnOf ws bs j) (lnOf ws bs i))) (out := (signsOf ws i).map .int)
        ⟨rfl, rfl, by decide +kernel, (PI.list (PE.var 0 rfl) (by rw [List.length_map, hll]; omega) .name).c, own0, fun C av h os H => cap_no (cap_v 6 H rfl rfl rfl rfl cap_nil), fun C j d hd => ?_, fun _ _ _ _ => .nil, fun C j d hd _ => ?_⟩ rfl (.inl rfl) ?_)
        (PS.cons (P1.skip (b := false || (false || false)) (PT.all (PTs.or (PT.cmp (PE.var 7 rfl) (compE (xs := (keysOf ws).map .int) (own := fun _ => []) (ρ₀ := [("key", .no), ("k", .v (.int i)), ("keys", .v (.list ((keysOf ws).map .int)))]) (ρi := fun j => [("key", .v (.int ((keysOf ws).getD j 0))), ("k", .v (.int i)), ("keys", .v (.list ((keysOf ws).map .int)))]) (p := fun _ => true) (f := fun j => .int (sgn1 ((keysOf ws).getD j 0 - keyOf (ws.getD i 0) i))) (out := (signsOf ws i).map .int)
          ⟨rfl, rfl, by decide +kernel, (PI.list (PE.var 4 rfl) (by simp [keysOf]) .name).c, own0, fun C av h os H => cap_no (cap_v 5 H rfl rfl rfl rfl (cap_v 4 H rfl rfl rfl rfl cap_nil)), fun C j d hd => ?_, fun _ _ _ _ => .nil, fun C j d hd _ => ?_⟩ ?_) (ne_self (shaped_ints _)))
          fun _ => PTs.or (PT.cmp (compE (xs := (signsOf ws i).map .int) (own := fun _ => []) (ρ₀ := [("sign", .no)]) (ρi := fun j => [("sign", .v (.int ((signsOf ws i).getD j 0)))]) (p := fun _ => true) (f := fun j => tyI) (out := List.replicate 5 tyI)
          ⟨rfl, rfl, by decide +kernel, (PI.list (PE.var 7 rfl) (by simp [signsOf]) .name).c, own0, fun C av h os H => cap_no cap_nil, fun C j d hd => ?_, fun _ _ _ _ => .nil, fun C j d hd _ => PE.callT G.type rfl (PE.var 0 rfl)⟩ ?_) (PE.bin (PE.list (.cons (PE.tyInt G.int rfl) .nil)) PE.int (BinR.mulL (n := 5) (by decide))) CmpR.neTy) fun _ => PTs.or_nil)) rfl)
        (PS.cons (ρ₁ := [("lines", .v (.list ((lines ws bs).map .str))), ("supply", .v (.int supply)), ("given", .o (.lst ((givenOf ws supply (i + 1)).map .str))), ("after", .o (.lst ((afterOf ws bs supply (i + 1)).map .str))), ("keys", .v (.list ((keysOf ws).map .int))), ("k", .v (.int i)), ("line", .v (.str (lnOf ws bs i))), ("signs", .v (.list ((signsOf ws i).map .int)))]) ?_ PS.nil))) ?_⟩
      · obtain ⟨rfl, hj⟩ := at_str hd
        rw [hll] at hj
        rw [lat j hj]
        exact C2.name 0 rfl
      · exact PE.callF G.coll rfl (.cons (PE.var 0 rfl) (.cons (PE.var 1 rfl) .nil)) (strcoll_ok G.coll _ _)
      · rw [List.length_map, hll, coll_all, signsOf, List.map_map]
        apply List.map_congr_left
        intro j hj
        have hj5 : j < 5 := List.mem_range.mp hj
        show PyData.int _ = PyData.int _
        rw [coll_sgn hj5 hi (fun e => by subst e; exact ⟨rfl, rfl⟩)]
      · obtain ⟨rfl, hj⟩ := at_int hd
        exact C2.name 0 rfl
      · have hj : j < 5 := by have := lt_of_at hd; simpa [keysOf] using this
        have hki : ((keysOf ws).map PyData.int)[((i : Nat) : Int).toNat]? = some (.int (keyOf (ws.getD i 0) i)) := by
          rw [Int.toNat_natCast, map_int_at (by simp [keysOf]; omega)]
          simp [keysOf, List.getD, hi]
        exact PE.callB G.max rfl (.cons (PE.neg PE.int) (.cons (PE.callB G.min rfl (.cons PE.int (.cons (PE.bin (PE.var 0 rfl) (PE.sub (PE.var 2 rfl) (PE.var 1 rfl) (IxR.list (by omega) (by omega) hki)) BinR.sub) .nil)) CallR.min2) .nil)) CallR.max2
      · rw [List.length_map, coll_all, signsOf, List.map_map]
        have : (keysOf ws).length = 5 := by simp [keysOf]
        rw [this]
        apply List.map_congr_left
        intro j hj
        have hj5 : j < 5 := List.mem_range.mp hj
        simp [keysOf, List.getD, hj5]
      · obtain ⟨rfl, hj⟩ := at_int hd
        exact C2.name 0 rfl
      · rw [List.length_map, coll_all]
        have : (signsOf ws i).length = 5 := by simp [signsOf]
        rw [this]; rfl
      · have hval : (((⟨#[if 0 = ws.getD i 0 then 97 + i else 32]⟩ : Str) == Str.ofString " ") && (decide ((((signsOf ws i).count (-1) : Nat) : Int) < (supply : Int)) && true)) = takes ws supply i := by
          unfold takes
          rw [Bool.and_true]
          congr 1
          · by_cases h0 : 0 < ws.getD i 0
            · rw [if_neg (by omega), decide_eq_true h0]; rfl
            · rw [if_pos (by omega), decide_eq_false h0, beq_eq_false_iff_ne]
              intro h
              have : (#[97 + i] : Array Nat) = #[32] := congrArg Str.cps h
              simp at this; omega
          · simp
        have hc0 : (Txt.charAt (lnOf ws bs i) 0).isSome = true := by
          have := @ln_at (ws.getD i 0) (97 + i) (bs.getD i 0) 0 (by omega)
          rw [show ((0 : Nat) : Int) = 0 from rfl] at this
          rw [this]; rfl
        have hi0 : Txt.item (lnOf ws bs i) 0 = ⟨#[if 0 = ws.getD i 0 then 97 + i else 32]⟩ := @ln_item (ws.getD i 0) (97 + i) (bs.getD i 0) 0 (by omega)
        have hg := givenOf ws supply i
        by_cases ht : takes ws supply i = true
        · refine P1.iteT (PT.cast (PT.all (PTs.and (PT.cmp (PE.sub (PE.var 6 rfl) PE.int (IxR.str (i := 0) (fits (by decide) (by decide)) hc0 hi0)) PE.str CmpR.eqS) fun _ => PTs.and (PT.cmp (PE.meth1 (PE.var 7 rfl) (PE.neg PE.int) Mth1.count) (PE.var 1 rfl) CmpR.ltI) fun _ => PTs.and_nil)) hval) ht
            (PS.cons (S1.append 2 rfl (PE.sub PE.str (PE.var 5 rfl) (IxR.str (fits (by omega) (by omega)) (abc_item i hi).2 (abc_item i hi).1)) ?_) (PS.cons (S1.append (d := .str (ln (ws.getD i 0 - 1) (97 + i) (bs.getD i 0))) 3 rfl (PE.cast (PE.callF G.strip rfl (.cons (PE.var 6 rfl) (.cons PE.int .nil)) (strip_ok (n := 1) G.strip G.len (ws.getD i 0) (97 + i) (bs.getD i 0) (by omega) ?_)) ?_) ?_ (h := ?_)) PS.nil))
          · simp only [givenOf, List.length_map]
            exact Nat.le_trans (List.length_filter_le _ _) (by simp; omega)
          · have := hw i hi; have := hb i hi; omega
          · have h0 : 0 < ws.getD i 0 := by
              unfold takes at ht
              rw [Bool.and_eq_true] at ht
              exact of_decide_eq_true ht.1
            unfold strip
            rw [show (1 : Nat) - ws.getD i 0 = 0 by omega, Nat.sub_zero]
          · simp [afterOf]; omega
          · simp only [givenOf, afterOf, List.range_succ, List.filter_append, List.map_append, List.filter_cons, List.filter_nil, List.map_cons, List.map_nil, if_pos ht]
            rfl
        · refine P1.iteF (PT.cast (PT.all (PTs.and (PT.cmp (PE.sub (PE.var 6 rfl) PE.int (IxR.str (i := 0) (fits (by decide) (by decide)) hc0 hi0)) PE.str CmpR.eqS) fun _ => PTs.and (PT.cmp (PE.meth1 (PE.var 7 rfl) (PE.neg PE.int) Mth1.count) (PE.var 1 rfl) CmpR.ltI) fun _ => PTs.and_nil)) hval) (Bool.eq_false_iff.mpr ht)
            (PS.cons (S1.append 3 rfl (PE.var 6 rfl) ?_ (h := ?_)) PS.nil)
          · simp [afterOf]; omega
          · simp only [givenOf, afterOf, List.range_succ, List.filter_append, List.map_append, List.filter_cons, List.filter_nil, List.map_cons, List.map_nil, if_neg ht, List.append_nil]
            rfl
      · show Le _ (st (i + 1))
        exact .same (.same (.same (.same (.same (.drop (.drop (.drop .nil)))))))
    · rw [enumP_len, List.length_map, hll]
      exact PS.frz' 2 rfl (PS.frz' 3 rfl (PS.ret (P1.ret (PE.tuple (.cons (PE.var 2 rfl) (.cons (PE.var 3 rfl) .nil))))))
end
end Mine
end
section
open PySem PySem.W PyProof.Rows
set_option linter.unusedVariables false
namespace Mine
section
variable {env : Env} {B : Heap} {F : Fp} {av₀ : List Addr} {ρ ρ' : Vs} {os : List Addr} {s : Shared} {prog : Program} {w : World} {k : Nat}
theorem next_list {A : Around} {it l : Addr} {i : Nat} {items : Array Value} {x : Value} {Q : Value → Shared → Prop} (hit : s.heap.IsListIter it l i) (hl : s.heap.IsList l items) (hx : items[i]? = some x)
    (hQ : ∀ h', h'.IsListIter it l (i + 1) → Heap.SameBut it s.heap h' → Q x { s with heap := h' }) : wpAny (model prog w) A (call (.builtin "next") [.ref it]) Q No s := by
  refine Calls.call_function_entry (by decide +kernel) (by decide +kernel) kdk_entry_next (kdk_args_next _) ?_
  unfold Builtin.«next»
  refine wpAny_bind (m := someArgs "next" 1 2 _) (wpAny_of_eq (a := [Value.ref it]) (by first | rfl | kernel_rfl!) ?_)
  dsimp only
  refine wpAny_bind (wpAny_specialOf (name := Str.ofString "__next__") hit.typeIs slot_listiter_next.lookup ?_)
  refine wpAny_ite_split (fun hab => absurd hab (by decide)) (fun _ => ?_)
  obtain ⟨o, ho, hc, hd⟩ := id hit
  obtain ⟨ol, hol, _, nl, hdl⟩ := hl
  refine wpAny_bind (wpAny_callSpecial?_slot (name := Str.ofString "__next__") hit.typeIs slot_listiter_next (wpAny_call_entry slot_listiter_next hit.typeIs entry_listiter_next ?_ (args_listiter_next _)))
  show wpAny _ _ (field (.ref it) 0 >>= _) _ _ s
  refine wpAny_bind (wpAny_field ho hd (x := .ref l) rfl ?_)
  show wpAny _ _ (if (Value.ref l == Value.none) = true then _ else _) _ _ s
  rw [if_neg (show ¬ ((Value.ref l == Value.none) = true) from Bool.false_ne_true)]
  show wpAny _ _ (field (.ref it) 1 >>= _) _ _ s
  refine wpAny_bind (wpAny_field ho hd (x := .int i 0) rfl ?_)
  show wpAny _ _ (seqItems? (.ref l) >>= _) _ _ s
  refine wpAny_bind (wpAny_seqItems hol hdl ?_)
  simp only [Int.toNat_natCast, hx]
  refine wpAny_bind (wpAny_setField ho hd (by simp) (wpAny_pure ⟨x, rfl, wpAny_pure ⟨_, rfl, hQ _ ?_ (Heap.SameBut.update ..)⟩⟩))
  exact ⟨_, Heap.get?_update_self _ ho (Obj.isFreed_of_fields (Obj.data_mapFields hd _)), (Obj.cls_mapFields ..).trans hc, by
    rw [Obj.data_mapFields hd]; simp [rawInt]⟩

/-- statements that may change the objects of res, which stand in what the frame must keep else -/
structure PR (prog : Program) (w : World) (k : Nat) (env : Env) (B : Heap) (res : List Addr) (Φ : Fp → Prop) (ρ : Vs) (ss : List Stmt) (Ψ : Fp → Prop) (o : Out) : Prop where
  out : ∀ A F av₀ os s, OkA k A → St env B F av₀ ρ os s → (∀ a ∈ res, a ∈ av₀) → Φ F → wpAny (model prog w) A (execs ss env) (fun f s' => Up s s' ∧ ∃ F' : Fp, (∀ b o, b ∉ res → F b = some o → F' b = some o) ∧ Ψ F' ∧ Res env B F' av₀ o f s') No s
structure PR1 (prog : Program) (w : World) (k : Nat) (env : Env) (B : Heap) (res : List Addr) (Φ : Fp → Prop) (ρ : Vs) (st : Stmt) (Ψ : Fp → Prop) (o : Out) : Prop where
  out : ∀ A F av₀ os s, OkA k A → St env B F av₀ ρ os s → (∀ a ∈ res, a ∈ av₀) → Φ F → wpAny (model prog w) A (exec st env) (fun f s' => Up s s' ∧ ∃ F' : Fp, (∀ b o, b ∉ res → F b = some o → F' b = some o) ∧ Ψ F' ∧ Res env B F' av₀ o f s') No s
variable {res : List Addr} {Φ Ψ Θ : Fp → Prop}
theorem PR.of {ss : List Stmt} {o : Out} (h : PS prog w k env B ρ ss o) : PR prog w k env B res Φ ρ ss Φ o :=
  ⟨fun A F av₀ os s hA X hr hF => wpAny_mono (h.out A F av₀ os s hA X) (fun f s' p => ⟨p.1, F, fun _ _ _ e => e, hF, p.2⟩) fun _ _ e => e⟩
theorem PR1.of {st : Stmt} {o : Out} (h : P1 prog w k env B ρ st o) : PR1 prog w k env B res Φ ρ st Φ o :=
  ⟨fun A F av₀ os s hA X hr hF => wpAny_mono (h.out A F av₀ os s hA X) (fun f s' p => ⟨p.1, F, fun _ _ _ e => e, hF, p.2⟩) fun _ _ e => e⟩
theorem PR.cons {st : Stmt} {ss : List Stmt} {ρ₁ : Vs} {o : Out} (h : PR1 prog w k env B res Φ ρ st Θ (.nx ρ₁)) (h2 : PR prog w k env B res Θ ρ₁ ss Ψ o) : PR prog w k env B res Φ ρ (st :: ss) Ψ o := by
  constructor
  intro A F av₀ os s hA X hr hF
  refine wpAny_execs_cons (wpAny_mono (h.out A F av₀ os s hA X hr hF) (fun f s₁ p => ?_) fun _ _ e => e)
  obtain ⟨u, F₁, ag, hF₁, rfl, os₁, X₁⟩ := p
  exact wpAny_mono (h2.out A F₁ av₀ os₁ s₁ hA X₁ hr hF₁) (fun f s₂ q => let ⟨u2, F₂, ag2, r⟩ := q; ⟨up_trans u u2, F₂, fun b o hb e => ag2 b o hb (ag b o hb e), r⟩) fun _ _ e => e
theorem PR1.while {α : Type} (st : α → Vs) (c : α → Bool) (nxt : α → α) (P : α → Prop) (Φ : α → Fp → Prop) {t : Expr} {body : List Stmt} {pos : Pos} {n : Nat} {a b : α} (hw : Wh c nxt n a b) (hP : P a)
    (ht : ∀ a, P a → PT prog w k env B (st a) t (c a)) (hb : ∀ a, P a → c a = true → PR prog w k env B res (Φ a) (st a) body (Φ (nxt a)) (.nx (st (nxt a))) ∧ P (nxt a)) : PR1 prog w k env B res (Φ a) (st a) (.While t body [] pos) (Φ b) (.nx (st b)) := by
  constructor
  intro A F av₀ os s hA X hr hF
  refine wpAny_While (codeAny_whileLoop (fun n s' => ∃ a os' F', Wh c nxt n a b ∧ P a ∧ Up s s' ∧ (∀ b o, b ∉ res → F b = some o → F' b = some o) ∧ Φ a F' ∧ St env B F' av₀ (st a) os' s') ?_ n ⟨a, os, F, hw, hP, up_refl s, fun _ _ _ e => e, hF, X⟩)
  rintro n s₁ ⟨a, os', F', hw, hP, u, ag, hF', X⟩
  refine wpAny_mono ((ht a hP).st hA X) (fun r s₂ p => ?_) fun _ _ e => e.elim
  obtain ⟨rfl, p⟩ := p
  cases hw with
  | stop h =>
    rw [h]
    exact wpAny_execs_nil ⟨up_trans u (up_kp p), F', ag, hF', rfl, _, X.keeps p⟩
  | @step _ _ n h hw =>
    rw [if_pos h]
    refine wpAny_mono ((hb a hP h).1.out A F' av₀ os' s₂ hA (X.keeps p) hr hF') (fun f s₃ q => ?_) fun _ _ e => e.elim
    obtain ⟨u', F₃, ag₃, hF₃, rfl, os₃, X₃⟩ := q
    exact ⟨n, Nat.lt_succ_self n, _, os₃, F₃, hw, (hb a hP h).2, up_trans u (up_trans (up_kp p) u'), fun b o hb e => ag₃ b o hb (ag b o hb e), hF₃, X₃⟩
theorem St.stepR {s' : Shared} (X : St env B F av₀ ρ os s) (k : Kb res s s') (hr : ∀ a ∈ res, a ∈ av₀) (hB : ∀ b ∈ res, B.get? b = none) (hal : ∀ b ∈ res, ∃ o, s'.heap.get? b = some o) :
    St env B (fun b => if b ∈ res then s'.heap.get? b else F b) av₀ ρ os s' := by
  have hmd : ∀ a ∈ env.locals :: (env.cells.map (·.2) ++ os), a ∉ res := fun a ha hw => by
    obtain ⟨o, e⟩ := X.old a (hr a hw)
    rw [X.fresh a ha] at e; cases e
  have hmc : ∀ p ∈ env.cells, p.2 ∉ res := fun p hp => hmd _ (.tail _ (List.mem_append_left _ (List.mem_map_of_mem (f := (·.2)) hp)))
  have hL : env.locals ∉ res := hmd _ (.head _)
  obtain ⟨o₁, H, ho₁, hn⟩ := X.hold
  refine ⟨X.ok, fun b o e => ?_, fun b o e => ?_, ⟨o₁, H.move (fun a o hs ha e => ⟨ha, kb k a o (fun hw => ha (by simp [avOf, hr a hw])) e⟩) (fun p hp W q => ?_) (fun a ha o e => kb k a o (hmd a (.tail _ (List.mem_append_right _ (ho₁ a ha)))) e), ho₁, hn⟩, ?_, fun p hp => ?_, X.inj, fun a ha => ?_, fun a ha => ?_, fun a ha => ?_, X.ap, X.names⟩
  · have hbw : b ∉ res := fun hw => by rw [hB b hw] at e; cases e
    rw [if_neg hbw]; exact X.base b o e
  · by_cases hw : b ∈ res
    · rw [if_pos hw] at e; exact e
    · rw [if_neg hw] at e; exact kb k b o hw (X.keep b o e)
  · cases q with
    | loc a b c => exact .loc a (b.at' fun o e => kb k _ o hL e) c
    | cell a b c =>
      refine .cell a b ?_
      obtain ⟨o, e, d⟩ := c
      exact ⟨o, kb k _ o (hmc _ (mem_of_lookup b)) e, d⟩
    | free a f b c =>
      refine .free a f b ?_
      obtain ⟨o, e, d⟩ := c
      exact ⟨o, kb k _ o (hmc _ (mem_of_lookup b)) e, d⟩
  · obtain ⟨m, n⟩ := X.ns
    exact ⟨m, n.at' fun o e => kb k _ o hL e⟩
  · obtain ⟨v, o, e, d⟩ := X.cells p hp
    exact ⟨v, o, kb k _ o (hmc p hp) e, d⟩
  · rw [if_neg (hmd a ha)]; exact X.fresh a ha
  · by_cases hw : a ∈ res
    · obtain ⟨o, e⟩ := hal a hw
      exact ⟨o, by rw [if_pos hw]; exact e⟩
    · obtain ⟨o, e⟩ := X.old a ha
      exact ⟨o, by rw [if_neg hw]; exact e⟩
  · obtain ⟨o, e⟩ := X.osA a ha
    exact ⟨o, kb k _ o (hmd a (.tail _ (List.mem_append_right _ ha))) e⟩

/-- the iterator I over the list l (whose items from i₀ on are the numbers xs) stands at i₀ + n -/
structure ItF (I l : Addr) (i₀ : Nat) (xs : List Int) (n : Nat) (F : Fp) : Prop where
  it : ∃ o, F I = some o ∧ o.cls = .type "list_iterator" ∧ o.data = .fields #[.ref l, .int ((i₀ + n : Nat) : Int) 0]
  ls : ∃ vs m, F l = some (lobj vs m) ∧ IntsAre (vs.toList.drop i₀) xs
theorem PR1.next {I l : Addr} {i₀ : Nat} {xs : List Int} {n : Nat} (i j : Nat) {x y f : Str} {px py pf cpos pos : Pos} {sl : Sl} (hne : l ≠ I) (hB : B.get? I = none) (hi : ρ[i]? = some (x, .v (.dict [(.int I, .none)]))) (g : BI B f (.builtin "next")) (hkf : env.kindOf f = some .globalImplicit)
    (hj : ρ[j]? = some (y, sl)) (hk : Stor env y) (hn : n < xs.length) (h : ρ.set j (y, .v (.int (xs.getD n 0))) = ρ' := by rfl) (hdf : (f == ("__debug__" : Str)) = false := by decide) (hdx : (x == ("__debug__" : Str)) = false := by decide) :
    PR1 prog w k env B [I] (ItF I l i₀ xs n) ρ (.Assign [.Name y py] (.Call (.Name f pf) [.Name x px] [] cpos) pos) (ItF I l i₀ xs (n + 1)) (.nx ρ') := by
  subst h
  constructor
  intro A F av₀ os s hA X hr hF
  obtain ⟨⟨o, e1, e2, e3⟩, vs, m, e4, hI⟩ := hF
  refine wpAny_Assign_Name ?_ rfl
  obtain ⟨o₁, r, _⟩ := X.R
  refine Call_ (wpAny_NameB r.ok hkf g r.base (PyProof.Rows.callWith_builtin1 (wpAny_mono ((PAs.cons (PE.var i hi hdx) .nil rfl).out A _ _ s cpos hA r) (fun Vs s₁ p => ?_) fun _ _ e => e) (star_one rfl) rfl) hdf) call_name
  obtain ⟨V, rfl, q⟩ := p.1.one
  obtain rfl := q.ref_inv
  have X₁ := X.keeps p.2
  have hlt : i₀ + n < vs.size := by
    have := hI.length
    rw [List.length_drop, Array.length_toList] at this
    omega
  obtain ⟨t, ht⟩ := ints_get hI n vs[i₀ + n] (by rw [List.getElem?_drop, toList_at, Array.getElem?_eq_getElem hlt])
  refine next_list (l := l) (items := vs) ⟨o, X₁.keep _ _ e1, e2, e3⟩ (isList_of (X₁.keep _ _ e4)) (Array.getElem?_eq_getElem hlt) fun h' hit' hs => ?_
  rw [ht]
  have kb₁ : Kb [I] s₁ { s₁ with heap := h' } := ⟨h', s₁.toks, rfl, fun b o hb e => (hs.2 b (by simpa using hb)).trans e⟩
  obtain ⟨o', e1', e2', e3'⟩ := hit'
  have X₂ := X₁.stepR kb₁ hr (fun b hb => by simp at hb; subst hb; exact hB) (fun b hb => by simp at hb; subst hb; exact ⟨o', e1'⟩)
  refine wpAny_mono (X₂.putV (d := .int (xs.getD n 0)) hj hk .int) (fun _ s₃ z => ?_) fun _ _ e => e
  refine ⟨up_trans (up_kp p.2) (up_trans (kb_up kb₁) z.1), _, fun b o hb e => ?_, ⟨⟨o', ?_, e2', e3'⟩, vs, m, ?_, hI⟩, rfl, _, z.2⟩
  · rw [if_neg hb]; exact e
  · rw [if_pos (by simp)]; exact e1'
  · rw [if_neg (by simpa using hne)]; exact e4
end
end Mine
end
section
open PySem PySem.W PyProof.Rows
set_option linter.unusedVariables false
namespace Mine
section
variable {env : Env} {B : Heap} {F : Fp} {av₀ : List Addr} {ρ ρ' : Vs} {os : List Addr} {s : Shared} {prog : Program} {w : World} {k : Nat} {res : List Addr} {Φ Ψ Θ : Fp → Prop}
theorem PR.ret {st : Stmt} {ss : List Stmt} {d : PyData} (h : P1 prog w k env B ρ st (.rt d)) : PR prog w k env B res Φ ρ (st :: ss) Φ (.rt d) := PR.of (PS.ret h)
/-- what is read after j more octets, from place n -/
def vr (xs : List Int) (n : Nat) : Nat → Int
  | 0 => Builtin.bitAnd (xs.getD n 0) 63
  | j + 1 => Builtin.bitOr (vr xs n j * 2 ^ (6 : Int).toNat) (Builtin.bitAnd (xs.getD (n + (j + 1)) 0) 63)
def goesOn (xs : List Int) (n j : Nat) : Bool := Builtin.bitAnd (xs.getD (n + j) 0) 64 != 0
theorem Wh_run {c : Nat → Bool} : ∀ {m j : Nat}, (∀ i, i < m → c (j + i) = true) → c (j + m) = false → Wh c (· + 1) m j (j + m)
  | 0, j, _, h => .stop h
  | m + 1, j, h, h' => by
    have := Wh_run (c := c) (m := m) (j := j + 1) (fun i hi => by have := h (i + 1) (by omega); rwa [show j + (i + 1) = j + 1 + i by omega] at this) (by rwa [show j + 1 + m = j + (m + 1) by omega])
    rw [show j + 1 + m = j + (m + 1) by omega] at this
    exact .step (h 0 (by omega)) this
set_option maxRecDepth 100000 in
theorem varint_body {f : Addr} (gn : BI B "next" (.builtin "next")) {L : Addr} {cd : Value} {I l : Addr} {i₀ : Nat} {xs : List Int} {n m : Nat} (hne : l ≠ I) (hB : B.get? I = none) (hm : n + m < xs.length) (hc : ∀ i, i < m → goesOn xs n i = true) (hc' : goesOn xs n m = false) (hv : ∀ j, j ≤ m → (vr xs n j).natAbs < 2 ^ 64) :
    PR prog w 0 (envOfC "_parse_varint" (dScope 6) L f cd) B [I] (ItF I l i₀ xs n) (inits ["iterator"] [.dict [(.int I, .none)]] ["b", "val"]) (dBody 6) (ItF I l i₀ xs (n + m + 1)) (.rt (.int (vr xs n m))) := by
  let st : Nat → Vs := fun j => [("iterator", .v (.dict [(.int I, .none)])), ("b", .v (.int (xs.getD (n + j) 0))), ("val", .v (.int (vr xs n j)))]
  refine PR.cons (PR1.next 0 1 hne hB rfl gn rfl rfl (.inl rfl) (by omega)) (PR.cons (ρ₁ := st 0) (PR1.of (S1.set 2 (PE.bin (PE.var 1 rfl) PE.int BinR.and) rfl (.inl rfl))) ?_)
  have hw := Wh_run (c := goesOn xs n) (m := m) (j := 0) (fun i hi => by rw [Nat.zero_add]; exact hc i hi) (by rw [Nat.zero_add]; exact hc')
  rw [Nat.zero_add] at hw
  refine PR.cons (PR1.while st (goesOn xs n) (· + 1) (fun j => j ≤ m) (fun j => ItF I l i₀ xs (n + j + 1)) hw (Nat.zero_le _) (fun j hj => ?_) (fun j hj hg => ?_)) (PR.ret (P1.ret (PE.var 2 rfl)))
  · exact PT.val (PE.bin (PE.var 1 rfl) PE.int BinR.and) TruR.int
  · have hlt : j < m := by
      rcases Nat.lt_or_ge j m with h | h
      · exact h
      · have : j = m := Nat.le_antisymm hj h
        rw [this, hc'] at hg; cases hg
    refine ⟨PR.cons (PR1.of (S1.aug 2 rfl (.inl rfl) PE.int (InR.shl (by decide) (by decide) (hv j hj)))) (PR.cons (PR1.next 0 1 hne hB rfl gn rfl rfl (.inl rfl) (by omega)) (PR.cons (ρ₁ := st (j + 1)) (PR1.of (S1.aug 2 rfl (.inl rfl) (PE.bin (PE.var 1 rfl) PE.int BinR.and) InR.or)) (PR.of PS.nil))), hlt⟩
theorem varint_call {f : Addr} (g : FnAt B "_parse_varint" 6 f) (gn : BI B "next" (.builtin "next")) {I l : Addr} {i₀ : Nat} {xs : List Int} {n m : Nat} (hne : l ≠ I) (hBI : B.get? I = none) (hm : n + m < xs.length) (hc : ∀ i, i < m → goesOn xs n i = true) (hc' : goesOn xs n m = false) (hv : ∀ j, j ≤ m → (vr xs n j).natAbs < 2 ^ 64)
    {A : Around} {av : List Addr} (hA : OkA 1 A) (hB : ∀ b o, B.get? b = some o → s.heap.get? b = some o) (hal : ∀ a ∈ av, ∃ o, s.heap.get? a = some o) (hI : I ∈ av) (hit : ItF I l i₀ xs n fun b => s.heap.get? b) :
    wpAny (model prog w) A (call (.ref f) [.ref I]) (fun V s' => (∃ t, V = .int (vr xs n m) t) ∧ Up s s' ∧ (∀ b o, b ≠ I → s.heap.get? b = some o → s'.heap.get? b = some o) ∧ ItF I l i₀ xs (n + m + 1) fun b => s'.heap.get? b) No s := by
  refine fn_enter (ns := ["iterator"]) (ds := [.dict [(.int I, .none)]]) (rest := ["b", "val"]) (av := av) g rfl (fun Vs pm cd doc h => ?_) (kind_loc (by decide +kernel)) (by decide +kernel) (fun L => List.nodup_nil) hA hB hal (.cons .ref .nil) fun L cd h₁ tk hL X => ?_
  · match Vs, h with
    | [V], _ => with_unfolding_all rfl
  · refine wpAny_mono ((varint_body gn hne hBI hm hc hc' hv).out _ _ av [] _ hA.deeper X (fun a ha => by simp at ha; subst ha; exact hI) hit) (fun fl s' q => ?_) fun _ _ e => e
    obtain ⟨⟨h', t', rfl⟩, F', ag, hF', V, rfl, hV, kp'⟩ := q
    obtain ⟨t, rfl⟩ := hV.int_inv
    obtain ⟨⟨o, e1, e2, e3⟩, vs, m', e4, hI'⟩ := hF'
    exact ⟨⟨t, rfl⟩, ⟨h', t', rfl⟩, fun b o hb e => kp' b o (ag b o (by simpa using hb) e), ⟨o, kp' _ _ e1, e2, e3⟩, vs, m', kp' _ _ e4, hI'⟩
end
end Mine
end
section
open PySem PySem.W PyProof.Rows
set_option linter.unusedVariables false
namespace Mine
section
variable {env : Env} {B : Heap} {F : Fp} {av₀ : List Addr} {ρ ρ' : Vs} {os : List Addr} {s : Shared} {prog : Program} {w : World} {k : Nat}
theorem P1.varint {f : Addr} (i j : Nat) {x y : Str} {px py pf cpos pos : Pos} {sl : Sl} {rest : List Int} {m : Nat} (g : FnAt B "_parse_varint" 6 f) (gn : BI B "next" (.builtin "next")) (hkf : env.kindOf "_parse_varint" = some .globalImplicit)
    (hi : ρ[i]? = some (x, .o (.itr (rest.map .int)))) (hj : (ρ.set i (x, .o (.itr ((rest.drop (m + 1)).map .int))))[j]? = some (y, sl)) (hk : Stor env y) (hm : m < rest.length) (hc : ∀ i, i < m → goesOn rest 0 i = true) (hc' : goesOn rest 0 m = false) (hv : ∀ j, j ≤ m → (vr rest 0 j).natAbs < 2 ^ 64)
    (h : (ρ.set i (x, .o (.itr ((rest.drop (m + 1)).map .int)))).set j (y, .v (.int (vr rest 0 m))) = ρ' := by rfl) (hdx : (x == ("__debug__" : Str)) = false := by decide) :
    P1 prog w (k + 1) env B ρ (.Assign [.Name y py] (.Call (.Name "_parse_varint" pf) [.Name x px] [] cpos) pos) (.nx ρ') := by
  subst h
  constructor
  intro A F av₀ os s hA X
  obtain ⟨V, as, hx, ho, has, fin⟩ := X.mutK hi
  cases ho with
  | @itr I l _ vs n i₀ hl hit hlo hvs =>
  have hI : I ∈ avOf env os av₀ := St.os_mem (has I (.head _))
  have hBI : B.get? I = none := by
    cases e : B.get? I with
    | none => rfl
    | some o =>
      have := X.base I o e
      rw [X.fresh I (.tail _ (List.mem_append_right _ (has I (.head _))))] at this; cases this
  have hne : l ≠ I := fun e => hl (e ▸ hI)
  obtain ⟨o, pm, cd, doc, hof, hdat, _⟩ := g.o
  have hBs : ∀ b o, B.get? b = some o → s.heap.get? b = some o := fun b o e => X.keep b o (X.base b o e)
  obtain ⟨oi, e1, e2, e3⟩ := hit
  refine wpAny_Assign_Name (Call_ (wpAny_NameG X.ok hkf g.g hBs (callWith_def hdat (args_cons (wpAny_NameHas X.ok.kind hx (args_nil ⟨hBs _ _ hof, ?_⟩) hdx) (star_one rfl)) (star_one rfl))) call_name) rfl
  refine wpAny_mono (varint_call g gn hne hBI (n := 0) (xs := rest) (i₀ := i₀) (by omega) hc hc' hv (hA.mono (by omega)) hBs X.avA hI ⟨⟨oi, e1, e2, by rw [e3, Nat.add_zero]⟩, vs, n, hlo, hvs.ints⟩) (fun V s₁ p => ?_) fun _ _ e => e
  obtain ⟨⟨t, rfl⟩, ⟨h', t', rfl⟩, hk₁, ⟨o', f1, f2, f3⟩, vs', n', f4, _⟩ := p
  have hlo' : h'.get? l = some (lobj vs n) := hk₁ l _ hne hlo
  have X₁ := fin h' t' (.itr ((rest.drop (m + 1)).map .int)) (fun b o hb e => hk₁ b o (by simpa using hb) e) (.itr (i := i₀ + (0 + m + 1)) hl ⟨o', f1, f2, f3⟩ hlo' ?_)
  · exact wpAny_mono (X₁.putV hj hk .int) (fun _ s₂ q => ⟨up_trans ⟨h', t', rfl⟩ q.1, rfl, _, q.2⟩) fun _ _ e => e
  · have h1 := hvs.drop (m + 1)
    rw [List.drop_drop, ← List.map_drop] at h1
    rw [show i₀ + (0 + m + 1) = i₀ + (m + 1) by omega]
    exact VRs.of_ints h1.ints
end
end Mine
end
section
open PySem PySem.W PyProof.Rows
set_option linter.unusedVariables false
namespace Mine
section
variable {env : Env} {B : Heap} {F : Fp} {av₀ : List Addr} {ρ ρ' : Vs} {os : List Addr} {s : Shared} {prog : Program} {w : World} {k : Nat}

/-- entering any def of the text: the arguments are bound, then the body runs -/
theorem fn_enterG {f : Addr} {o : Obj} {fd : FuncData} {body : List Stmt} {pos : List Value} {kw : List (Str × Value)} {ns rest : List Str} {A : Around} {av : List Addr} {s : Shared} {Q : Value → Shared → Prop}
    (ho : s.heap.get? f = some o) (hdat : o.data = .func fd) (hlim : s.heap.NoLimit) (hcode : s.heap.CodeRec fd.code fd.qualname) (hbody : fd.body = .stmts body) (hclo : fd.closure = [])
    (hglob : fd.globals = mainGlobals) (hblt : fd.builtins = builtinsNs)
    (hkind : ∀ L, ∀ y ∈ ns, fd.scope.names.lookup y = some .local ∨ (fd.scope.names.lookup y = some .cell ∧ ((cellsFrom (L + 1) fd.scope.names []).lookup y).isSome = true))
    (hn : (ns ++ rest).Nodup) (hcn : ∀ L, ((cellsFrom (L + 1) fd.scope.names []).map (·.1)).Nodup) (hA : OkA (k + 1) A) (hal : ∀ a ∈ av, ∃ o, s.heap.get? a = some o)
    (hb : wpAny (model prog w) A.in1 (bindArgs fd ⟨pos, kw⟩) (fun binds s' => Keeps s s' ∧ ∃ Vs ds, binds = ns.zip Vs ∧ ds.length = ns.length ∧ VRs av s'.heap ds Vs ∧
      ∀ L h₁ tk, L = s'.heap.objs.size → (∀ B : Heap, (∀ b o, B.get? b = some o → s'.heap.get? b = some o) → St (callEnvC fd L f) B (fun b => s'.heap.get? b) av (inits ns ds rest) [] { s' with heap := h₁, toks := tk }) →
        wpAny (model prog w) (A.deeper (callEnvC fd L f)) (execs body (callEnvC fd L f)) (fun fl s'' => Q (match fl with | .ret v => v | _ => .none) s'') (fun _ _ => False) { s' with heap := h₁, toks := tk }) (fun _ _ => False) s)
    (hco : fd.scope.isCoroutine = false) (hgen : fd.scope.isGenerator = false) (hk : fd.scope.kind = .function) :
    wpAny (model prog w) A (call (.ref f) pos kw) Q (fun _ _ => False) s := by
  refine wpAny_call (codeAny_call_function hA.room ho hdat hco hgen hbody hcode (wpAny_mono hb (fun binds s' p => ?_) fun _ _ e => e))
  obtain ⟨kk, Vs, ds, rfl, hl, y, go⟩ := p
  have hlen : Vs.length = ns.length := by rw [y.length, hl]
  rw [hclo]
  refine wpAny_newFunctionEnv_cells hk (fun p hp => ?_) fun env he s₁ x => ?_
  · obtain ⟨y, V⟩ := p
    exact hkind _ y (List.of_mem_zip hp).1
  · have he' : env = callEnvC fd s'.heap.objs.size f := he
    clear he
    obtain ⟨h₁, tk, rfl, _⟩ := x.done
    refine ⟨(hlim.keeps (kp kk)).keeps x.toInCall.keep, ?_⟩
    rw [he'] at x ⊢
    have keep := x.toInCall.keep
    have hns := x.toInCall.ns
    have hcell := x.cell
    have hap := x.apart
    have habove := x.above
    clear x
    generalize hL : s'.heap.objs.size = L at hns hcell hap habove ⊢
    refine codeAny_func (wpAny_mono (go L h₁ tk hL.symm fun B hB => ?_) (fun fl s'' q => q) fun _ _ e => e.elim)
    have hLn : s'.heap.get? L = none := by rw [← hL]; exact next_none _
    have dead : ∀ a, L ≤ a → s'.heap.get? a = none := fun a ha => by
      cases e : s'.heap.get? a with
      | none => rfl
      | some o => exact absurd (Heap.lt_size e) (by rw [hL]; exact Nat.not_lt.mpr ha)
    have hcd : ∀ p ∈ cellsFrom (L + 1) fd.scope.names [], s'.heap.get? p.2 = none := fun p hp => dead _ (Nat.le_of_lt (habove p.1 p.2 hp))
    have hlk : ∀ {l : List (Str × Addr)}, (l.map (·.1)).Nodup → ∀ p ∈ l, l.lookup p.1 = some p.2 := by
      intro l
      induction l with
      | nil => intro _ p hp; cases hp
      | cons q l ih =>
        intro hn p hp
        rw [List.map_cons, List.nodup_cons] at hn
        rcases List.mem_cons.mp hp with rfl | hp
        · rw [List.lookup_cons]; simp
        · have : (p.1 == q.1) = false := by
            rw [beq_eq_false_iff_ne]
            intro e; exact hn.1 (e ▸ List.mem_map_of_mem (f := (·.1)) hp)
          rw [List.lookup_cons, this]; exact ih hn.2 p hp
    have fresh : ∀ a ∈ (callEnvC fd L f).locals :: ((callEnvC fd L f).cells.map (·.2) ++ []), s'.heap.get? a = none := by
      intro a ha
      rcases List.mem_cons.mp ha with rfl | ha
      · exact hLn
      · rw [List.append_nil] at ha
        obtain ⟨p, hp, rfl⟩ := List.mem_map.mp ha
        exact hcd p hp
    have mv : Mv av s'.heap (avOf (callEnvC fd L f) [] av) h₁ := fun a o hs ha e => ⟨fun hm => by
      rcases av_md hm with h | h
      · rw [fresh a h] at e; cases e
      · exact ha h, keep a o e⟩
    have hzn : ((ns.zip Vs).map (·.1)).Nodup := by rw [zip_fst hlen]; exact (List.nodup_append.mp hn).1
    have has : ∀ p ∈ ns.zip Vs, Has (callEnvC fd L f) h₁ p.1 p.2 := by
      rintro ⟨y, V⟩ hp
      rcases hkind L y (List.of_mem_zip hp).1 with h | ⟨h, hc⟩
      · exact .loc (env := callEnvC fd L f) h hns (bindL_get hzn h (.inl hp))
      · obtain ⟨c, hc⟩ := Option.isSome_iff_exists.mp hc
        refine .cell (env := callEnvC fd L f) h hc ?_
        have h1 := hcell y c hc
        rw [bindC_get hzn (by show fd.scope.names.lookup y ≠ some .local; rw [h]; decide) (.inl hp)] at h1
        exact h1
    exact {
      ok := ⟨hk, hglob, hblt⟩
      base := hB
      keep := keep
      hold := ⟨[], Hold.init has (y.mv mv) hl, fun a ha => (by cases ha), List.nodup_nil⟩
      ns := ⟨_, hns⟩
      cells := fun p hp => ⟨_, hcell p.1 p.2 (hlk (hcn L) p hp)⟩
      inj := fun a b c h1 h2 => PySem.name_of_addr hap (mem_of_lookup h1) (mem_of_lookup h2)
      fresh := fresh
      old := fun a ha => let ⟨o, e⟩ := hal a ha; ⟨o, kp kk a o e⟩
      osA := fun a ha => by cases ha
      ap := fun a ha => by cases ha
      names := by
        unfold inits
        rw [List.map_append, List.map_map, List.map_map]
        have e1 : ((fun p : Str × Sl => p.1) ∘ fun p : Str × PyData => (p.1, Sl.v p.2)) = (·.1) := rfl
        have e2 : ((fun p : Str × Sl => p.1) ∘ fun y : Str => (y, Sl.no)) = id := rfl
        rw [e1, e2, List.map_id, zip_fst' hl]
        exact hn }

def cBody : List Stmt := match P0.main.body[18]? with | some (Stmt.ClassDef _ _ _ b _ _ _ _ _ _ _) => b | _ => []
def mArgs (i : Nat) : Arguments := match cBody[i]? with | some (Stmt.FunctionDef _ a _ _ _ _ _ _ _ _) => a | _ => ⟨[], [], none, [], [], none, []⟩
def mBody (i : Nat) : List Stmt := match cBody[i]? with | some (Stmt.FunctionDef _ _ b _ _ _ _ _ _ _) => b | _ => []
def mScope (i : Nat) : Scope := match cBody[i]? with | some (Stmt.FunctionDef _ _ _ _ _ _ c _ _ _) => c | _ => P0.main.scope
/-- a method of the class C -/
structure MtAt (B : Heap) (K : Frag) (C : Addr) (name qual : Str) (i : Nat) (dV : Value) (f : Addr) : Prop where
  find : findIn K (.ref C) name = some (some (.ref f))
  ty : typeIn K (.ref f) = some (.type "function")
  keep : keepIn K (.ref f) = true
  o : ∃ o pm cd doc an kV ct, B.get? f = some o ∧ o.data = .func (fnOf name qual (mArgs i) (mBody i) (mScope i) dV kV doc pm an cd ct) ∧ B.CodeRec cd qual
/-- a compiled pattern -/
structure PatAt (B : Heap) (p : Addr) (code : Array Nat) : Prop where
  o : ∃ o vs t to items n, B.get? p = some o ∧ o.cls = .type "re.Pattern" ∧ o.dict = none ∧ o.data = .fields vs ∧ vs.getD 5 .none = .ref t ∧ Builtin.Re.reRawNat (vs.getD 6 .none) = 0 ∧ Builtin.Re.reRawNat (vs.getD 2 .none) = 0 ∧ B.get? t = some to ∧ to.data = .seq items n ∧ (items.map Builtin.Re.reRawOf).map (·.toNat) = code
/-- what is used of the class Headers of the text -/
structure HC (B : Heap) (C : Addr) (K : Frag) (T0 fi fc fg ft fa pN pV : Addr) (cN cV : Array Nat) : Prop where
  inB : K.In B
  lim : B.NoLimit
  gC : BG B "Headers" (.ref C)
  gN : BG B "_name_disallowed_re" (.ref pN)
  gV : BG B "_value_disallowed_re" (.ref pV)
  bty : BI B "type" (.type "type")
  bstr : BI B "str" (.type "str")
  bls : BI B "list" (.type "list")
  keepC : keepIn K (.ref C) = true
  makes : makesIn K C = true
  ga : findIn K (.ref C) "__getattribute__" = some (some (.builtin "object.__getattribute__"))
  gk : findIn K (.ref C) "__getattr__" = some none
  cd : ∃ cd, clsIn K C = some cd ∧ cd.hasDict = true
  nh : findIn K (.ref C) "_headers" = some none
  sa : findIn K (.ref C) "__setattr__" = some (some (.builtin "object.__setattr__"))
  po : plainOver K C = true
  df : ∃ o n, B.get? T0 = some o ∧ o.data = .seq #[.none] n
  mi : MtAt B K C "__init__" "Headers.__init__" 0 (.ref T0) fi
  mc : MtAt B K C "_convert_string_type" "Headers._convert_string_type" 1 .none fc
  mg : MtAt B K C "get_all" "Headers.get_all" 7 .none fg
  mt : MtAt B K C "items" "Headers.items" 11 .none ft
  ma : MtAt B K C "add_header" "Headers.add_header" 16 .none fa
  pn : PatAt B pN cN
  pv : PatAt B pV cV
end
end Mine
end
section
open PySem PySem.W PyProof.Rows
set_option linter.unusedVariables false
namespace Mine
theorem plainAttrs_pat : PlainAttrs "re.Pattern" :=
  ⟨⟨"object.__getattribute__", by rw [typeLookup_type, builtinLookup_eq_fast]; kernel_rfl, by decide +kernel⟩, by rw [typeLookup_type, builtinLookup_eq_fast]; kernel_rfl⟩
theorem slot_search : Slot "re.Pattern" "search" "re.Pattern.search" :=
  .of (owner := "re.Pattern") (n := "search") (by rw [typeLookup_type, builtinLookup_eq_fast]; kernel_rfl) (by decide +kernel) (by decide +kernel) (by decide +kernel)
    (by first | exact .inl (by decide +kernel) | exact .inr (by decide +kernel)) (by rw [isSubtype_type]; kernel_rfl)
theorem type_search : typeOf (.builtin "re.Pattern.search") = pure (.type "method_descriptor") := by show builtinType _ = _; rw [builtinType_eq_fast]; kernel_rfl
theorem entry_search : entryFor table "re.Pattern.search" = some Builtin.«re.Pattern.search» := entryFor_of_tree (by kernel_rfl)
theorem args_search (a b : Value) : argsOk "re.Pattern.search" ⟨[a, b], []⟩ := by
  unfold argsOk; kernel_rfl
/-- the search finds nothing -/
def sNone (code : Array Nat) (x : Str) : Bool := match ((Sre.forSearch code x.cps 0 0 (min (2 ^ 63 - 1 : Int).toNat x.cps.size) false).runFor 4).outcome with
  | some .failed => true
  | _ => false
section
variable {prog : Program} {w : World} {s : Shared}
theorem rules_run {M : Model} {A : Around} {E : Value → Shared → Prop} {s : Shared} {Q : PUnit → Shared → Prop} (f : Nat → Bool) (g : Nat → String) (h : Q ⟨⟩ s) : ∀ l : List Nat, wpAny M A (forIn l PUnit.unit (fun i _ => if f i = true then (rule (g i) >>= fun _ => pure (ForInStep.yield PUnit.unit)) else pure (ForInStep.yield PUnit.unit))) Q E s
  | [] => by rw [List.forIn_nil]; exact wpAny_pure h
  | i :: l => by
    rw [List.forIn_cons]
    cases f i with
    | true => exact wpAny_bind (wpAny_bind (wpAny_rule (wpAny_pure (rules_run f g h l))))
    | false => exact wpAny_bind (wpAny_pure (rules_run f g h l))
theorem end_run {M : Model} {A : Around} {E : Value → Shared → Prop} {s : Shared} {m : Sre.M} (h : (m.runFor 4).outcome = some .failed) {Q : Option Sre.M → Shared → Prop} (q : Q none s) : wpAny M A (Builtin.Re.reRunToEnd m) Q E s := by
  unfold Builtin.Re.reRunToEnd
  have e : Builtin.Re.reDrive (2 ^ 64) m = pure (m.runFor 4) := by
    rw [show (2 ^ 64 : Nat) = (2 ^ 64 - 1) + 1 by decide]
    unfold Builtin.Re.reDrive
    simp only [Builtin.Re.reTurnSteps, h, Option.isSome_some, if_true]
  rw [e]
  refine wpAny_bind (wpAny_pure (wpAny_bind (rules_run _ _ ?_ _)))
  rw [h]
  exact wpAny_pure q
theorem search_run {A : Around} {E : Value → Shared → Prop} {p : Addr} {x : Str} {t : Tok} {code : Array Nat} (h : PatAt s.heap p code) (hs : sNone code x = true) :
    wpAny (model prog w) A (Builtin.«re.Pattern.search» ⟨[.ref p, .str x t], []⟩) (fun fin s' => ∃ v, fin = .done (.ret v) ∧ v = .none ∧ s' = s) E s := by
  obtain ⟨o, vs, ti, to, items, n, ho, hc, _, hd, h5, h6, h2, hto, htd, hcode⟩ := h
  unfold Builtin.«re.Pattern.search» Builtin.Re.reTarget
  refine wpAny_bind (wpAny_bind (wpAny_of_eq (a := [some (.str x t), none, none]) (by kernel_rfl) ?_))
  dsimp only
  refine wpAny_bind (wpAny_pure (wpAny_bind (wpAny_pure ?_)))
  refine wpAny_bind (wpAny_fieldsOf ho hd ?_)
  refine wpAny_bind (m := Builtin.Re.reTextOf (.str x t)) (wpAny_of_eq (a := (x.cps, 0)) rfl ?_)
  dsimp only
  rw [h6, h5, h2]
  refine wpAny_bind (m := Builtin.Re.reNoCollectionInside _ 0) (wpAny_of_eq (a := ()) rfl ?_)
  refine wpAny_bind (wpAny_bind (m := seqItems? (.ref ti)) (wpAny_seqItems hto htd (wpAny_pure ?_)))
  refine wpAny_pure ?_
  unfold Builtin.Re.reAnswer
  dsimp only
  refine wpAny_bind (end_run ?_ (wpAny_pure ⟨_, rfl, rfl, rfl⟩))
  unfold sNone at hs
  rw [← hcode] at hs
  revert hs
  show (match (Sre.M.runFor 4 (Sre.forSearch _ x.cps 0 0 (min (2 ^ 63 - 1 : Int).toNat x.cps.size) false)).outcome with | some .failed => true | _ => false) = true → _
  intro hs
  split at hs
  · assumption
  · cases hs
end
end Mine
end
section
open PySem PySem.W PyProof.Rows
set_option linter.unusedVariables false
namespace Mine
section
variable {env : Env} {B : Heap} {F : Fp} {av₀ av : List Addr} {ρ ρ' : Vs} {os : List Addr} {s : Shared} {prog : Program} {w : World} {k : Nat}
/-- a handle: the very object at a -/
abbrev hnd (a : Addr) : PyData := .dict [(.int a, .none)]
theorem MtAt.keeps {B B' : Heap} {K : Frag} {C : Addr} {name qual : Str} {i : Nat} {dV : Value} {f : Addr} (k : ∀ b o, B.get? b = some o → B'.get? b = some o) : MtAt B K C name qual i dV f → MtAt B' K C name qual i dV f := by
  intro x
  obtain ⟨a, b, c, o, pm, cd, doc, an, kV, ct, h, e, x⟩ := x
  exact ⟨a, b, c, o, pm, cd, doc, an, kV, ct, k _ _ h, e, x.keeps k⟩
theorem PatAt.keeps {B B' : Heap} {p : Addr} {code : Array Nat} (k : ∀ b o, B.get? b = some o → B'.get? b = some o) : PatAt B p code → PatAt B' p code := by
  intro x
  obtain ⟨o, vs, t, to, items, n, h, a, b, c, d, e, f, g, i, j⟩ := x
  exact ⟨o, vs, t, to, items, n, k _ _ h, a, b, c, d, e, f, k _ _ g, i, j⟩
theorem BG.keeps {B B' : Heap} {x : Str} {V : Value} (k : ∀ b o, B.get? b = some o → B'.get? b = some o) : BG B x V → BG B' x V
  | ⟨m, a, b⟩ => ⟨m, a.keeps k, b⟩
theorem BI.keeps {B B' : Heap} {x : Str} {V : Value} (k : ∀ b o, B.get? b = some o → B'.get? b = some o) : BI B x V → BI B' x V
  | ⟨m, n, a, b, c, d⟩ => ⟨m, n, a.keeps k, b, c.keeps k, d⟩
variable {C T0 fi fc fg ft fa pN pV : Addr} {K : Frag} {cN cV : Array Nat}
theorem HC.keeps {B B' : Heap} (H : HC B C K T0 fi fc fg ft fa pN pV cN cV) (k : ∀ b o, B.get? b = some o → B'.get? b = some o) : HC B' C K T0 fi fc fg ft fa pN pV cN cV where
  inB := H.inB.keeps k
  lim := H.lim.keeps k
  gC := H.gC.keeps k
  gN := H.gN.keeps k
  gV := H.gV.keeps k
  bty := H.bty.keeps k
  bstr := H.bstr.keeps k
  bls := H.bls.keeps k
  keepC := H.keepC
  makes := H.makes
  ga := H.ga
  gk := H.gk
  cd := H.cd
  nh := H.nh
  sa := H.sa
  po := H.po
  df := let ⟨o, n, a, b⟩ := H.df; ⟨o, n, k _ _ a, b⟩
  mi := H.mi.keeps k
  mc := H.mc.keeps k
  mg := H.mg.keeps k
  mt := H.mt.keeps k
  ma := H.ma.keeps k
  pn := H.pn.keeps k
  pv := H.pv.keeps k

theorem PE.gref {x : Str} {a : Addr} {pos : Pos} (g : BG B x (.ref a)) (hk : env.kindOf x = some .globalImplicit) (hd : (x == ("__debug__" : Str)) = false := by decide) : PE prog w k env B ρ (.Name x pos) (hnd a) :=
  ⟨fun A os av s hA r => wpAny_NameG r.ok hk g r.base ⟨.ref, kp_refl s⟩ hd⟩
theorem TruR.none : TruR prog w k .none false := by
  constructor
  intro A av s V hA x
  rw [x.none_inv]
  exact truthy_none ⟨rfl, kp_refl s⟩
theorem PT.tyStr {x y : Str} {px py pos cpos : Pos} {e : Expr} {z : Str} (g : BI B x (.type "type")) (hk : env.kindOf x = some .globalImplicit) (g' : BI B y (.type "str")) (hk' : env.kindOf y = some .globalImplicit) (he : PE prog w k env B ρ e (.str z))
    (hs : isStar e = false := by rfl) (hd : (x == ("__debug__" : Str)) = false := by decide) (hd' : (y == ("__debug__" : Str)) = false := by decide) (hm : behindInMarks .Is (.Name y py) = false := by with_unfolding_all rfl) :
    PT prog w k env B ρ (.Compare (.Call (.Name x px) [e] [] cpos) [.Is] [.Name y py] pos) true := by
  constructor
  intro A os av s hA r
  refine wpAny_isTrue_Compare1 (Call_ (wpAny_NameB r.ok hk g r.base (PyProof.Rows.callWith_type1 (wpAny_mono ((PAs.cons he .nil hs).out A os av s cpos hA r) (fun vs s₁ p => ?_) fun _ _ e => e) (star_one hs)) hd) call_name) hm
  obtain ⟨V, rfl, q⟩ := p.1.one
  obtain ⟨t, rfl⟩ := q.str_inv
  refine call_type_of (Tx := "str") (typeIs_str _ _ _) (by decide) (wpAny_NameB r.ok hk' g' (r.keeps p.2).base (wpAny_is_self rfl ?_) hd')
  exact wpAny_truthy_bool ⟨rfl, p.2⟩
theorem PE.search {o e : Expr} {p : Addr} {x : Str} {code : Array Nat} {apos pos : Pos} (P : PatAt B p code) (hs : sNone code x = true) (ho : PE prog w k env B ρ o (hnd p)) (he : PE prog w k env B ρ e (.str x))
    (hbase : attributeBase o "search" env (eval o env) = eval o env := by rfl) (hst : isStar e = false := by rfl) (hline : (apos.endLine == pos.line) = true := by rfl) : PE prog w k env B ρ (.Call (.Attribute o "search" apos) [e] [] pos) .none := by
  constructor
  intro A os av s hA r
  refine Call_method1 hbase (star_one hst) hline (wpAny_mono (ho.out A os av s hA r) (fun V s₁ q => ?_) fun _ _ e => e)
  obtain rfl := q.1.ref_inv
  obtain ⟨oo, vs, ti, to, items, n, ho', hc, hdn, hd, h5, h6, h2, hto, htd, hcode⟩ := P.keeps (r.keeps q.2).base
  refine ⟨_, _, plainAttrs_pat, slot_search, type_search, ⟨oo, ho', hc⟩, fun a ea => by cases ea; exact ⟨oo, ho', hdn⟩, ?_⟩
  refine Calls.callWith_builtin rfl (Calls.evalArgs_plain (Calls.spliced_cons (wpAny_mono (he.out A os av s₁ hA (r.keeps q.2)) (fun W s₂ z => Calls.spliced_nil ?_) fun _ _ e => e)))
  obtain ⟨t, rfl⟩ := z.1.str_inv
  refine wpAny_call_entry slot_search ⟨oo, kp z.2 _ _ ho', hc⟩ entry_search (wpAny_mono (search_run (P.keeps ((r.keeps q.2).keeps z.2).base) hs) (fun fin s' y => ?_) fun _ _ e => e) (args_search _ _)
  obtain ⟨v, rfl, rfl, rfl⟩ := y
  exact ⟨_, rfl, .none, kp_trans q.2 z.2⟩
set_option maxRecDepth 100000 in
theorem conv_call (H : HC B C K T0 fi fc fg ft fa pN pV cN cV) {T : Addr} {b : Bool} {x : Str} {t : Tok} (hs : sNone (if b then cN else cV) x = true) {A : Around} (hA : OkA 1 A) (hB : ∀ b o, B.get? b = some o → s.heap.get? b = some o) (hal : ∀ a ∈ av, ∃ o, s.heap.get? a = some o) :
    wpAny (model prog w) A (call (.ref fc) [.ref T, .str x t] [("name", .bool b)]) (fun V s' => VR av s'.heap (.str x) V ∧ Keeps s s') (fun _ _ => False) s := by
  obtain ⟨o, pm, cd, doc, an, kV, ct, ho, hd, hcr⟩ := H.mc.o
  refine fn_enterG (k := 0) (ns := ["self", "value", "name"]) (rest := ["regex"]) (av := av) (hB _ _ ho) hd (H.lim.keeps hB) (hcr.keeps hB) rfl rfl rfl rfl (kind_loc (scope := mScope 1) (by decide +kernel)) (by decide +kernel) (fun L => List.nodup_nil) hA hal ?_ rfl rfl rfl
  refine wpAny_of_eq (a := ([("self", .ref T), ("value", .str x t), ("name", .bool b)] : List (Str × Value))) (by with_unfolding_all rfl) ⟨kp_refl s, [.ref T, .str x t, .bool b], [hnd T, .str x, .bool b], rfl, rfl, .cons .ref (.cons .str (.cons .bool .nil)), fun L h₁ tk hL X => ?_⟩
  have H' := H.keeps hB
  have Y := X s.heap fun _ _ e => e
  have Pb : PS prog w 0 (callEnvC (fnOf "_convert_string_type" "Headers._convert_string_type" (mArgs 1) (mBody 1) (mScope 1) .none kV doc pm an cd ct) L fc) s.heap (inits ["self", "value", "name"] [hnd T, .str x, .bool b] ["regex"]) (mBody 1) (.rt (.str x)) := by
    refine PS.ret (P1.iteT (PT.tyStr H'.bty rfl H'.bstr rfl (PE.var 1 rfl)) rfl ?_)
    refine PS.cons (S1.set 3 (PE.ite (d := hnd (if b then pN else pV)) (PT.val (PE.var 2 rfl) TruR.bool) (fun hb => ?_) (fun hb => ?_)) rfl (.inl rfl)) ?_
    · subst hb; exact PE.gref H'.gN rfl
    · subst hb; exact PE.gref H'.gV rfl
    · refine PS.cons (P1.skip (PT.val (PE.search (p := if b then pN else pV) (code := if b then cN else cV) ?_ hs (PE.var 3 rfl) (PE.var 1 rfl)) TruR.none) rfl) (PS.ret (P1.ret (PE.var 1 rfl)))
      cases b
      · exact H'.pv
      · exact H'.pn
  refine wpAny_mono (Pb.out _ _ av [] _ hA.deeper Y) (fun fl s' q => ?_) fun _ _ e => e
  obtain ⟨⟨h', t', rfl⟩, V, rfl, hv, hk⟩ := q
  exact ⟨hv, h', t', rfl, hk⟩
end
end Mine
end
section
open PySem PySem.W PyProof.Rows
set_option linter.unusedVariables false
namespace Mine
section
variable {env : Env} {B : Heap} {F : Fp} {av₀ av : List Addr} {ρ ρ' : Vs} {os : List Addr} {s : Shared} {prog : Program} {w : World} {k : Nat}
variable {C T0 fi fc fg ft fa pN pV : Addr} {K : Frag} {cN cV : Array Nat}
theorem Call_meth {M : Model} {A : Around} {E : Value → Shared → Prop} {o : Expr} {name : Str} {apos pos : Pos} {args : List Expr} {kws : List Keyword} {Q : Value → Shared → Prop}
    (hbase : attributeBase o name env (eval o env) = eval o env)
    (hfew : methodCallForm (args.length + kws.length) (backTo pos (starEach args env)) (backToKw pos (keywordEach kws env)) = true) (hline : (apos.endLine == pos.line) = true)
    (h : wpAny M A (eval o env) (fun ov s₁ => ∀ pl, wpAny M A (getMethod ov name pl) (fun fx s₂ => wpAny M A (callWith pos fx.1 fx.2 (backTo pos (starEach args env)) (backToKw pos (keywordEach kws env))) Q E s₂) E s₁) E s) :
    wpAny M A (eval (.Call (.Attribute o name apos) args kws pos) env) Q E s := by
  rw [arm_eval_Call, hbase]
  refine wpAny_bind (wpAny_mono h (fun ov s₁ h₁ => ?_) fun _ _ e => e)
  refine wpAny_bind (wpAny_standAt ?_)
  have hpos : methodCallPos true o env apos pos = pure pos := by unfold methodCallPos; simp [hline]
  unfold methodCall
  rw [hfew]
  refine wpAny_bind (wpAny_holding (wpAny_mono (h₁ _) (fun fx s₂ h₂ => ?_) fun _ _ e => e))
  exact wpAny_bind (wpAny_of_eq hpos h₂)
theorem key_str {e : DictEntry} {n : Str} (h : e.key.isStr n = true) : ∃ t, e.key = .str n t := by
  obtain ⟨hh, key, v⟩ := e
  cases key <;> try cases h
  rename_i x t
  have : x = n := by simpa [Value.isStr] using h
  exact ⟨t, by rw [this]⟩
/-- the one T of C with its dict d, whose one entry is the list l -/
structure HO (B : Heap) (C T d l : Addr) : Prop where
  t : B.get? T = some (instObj C d)
  d : ∃ e n, e.key.isStr "_headers" = true ∧ e.val = .ref l ∧ B.get? d = some (dictOf [e] n)
theorem HO.keeps {B B' : Heap} {C T d l : Addr} (k : ∀ b o, B.get? b = some o → B'.get? b = some o) (O : HO B C T d l) : HO B' C T d l :=
  ⟨k _ _ O.t, let ⟨e, n, a, b, c⟩ := O.d; ⟨e, n, a, b, k _ _ c⟩⟩
theorem HO.inst {T d l : Addr} (O : HO B C T d l) : ∃ od, InstAt B T (instObj C d) C (some od) ∧ (∀ name : Str, ((Str.ofString "_headers") == name) = false → shadowIn (some od) name = some false) ∧ lookIn "_headers" od = some (some (.ref l)) := by
  obtain ⟨e, n, h1, h2, h3⟩ := O.d
  refine ⟨_, ⟨O.t, rfl, rfl, h3⟩, fun name hn => ?_, ?_⟩
  · obtain ⟨t, hk⟩ := key_str h1
    unfold shadowIn lookIn
    have hr : e.refKey = false := by unfold DictEntry.refKey; rw [hk]
    simp only [List.find?_cons, List.find?_nil, hk, Value.isStr, hn, List.any_cons, List.any_nil, hr]
    rfl
  · unfold lookIn
    simp only [List.find?_cons, h1, h2]
theorem meth_get {A : Around} {T d l f : Addr} {name qual : Str} {i : Nat} {dV : Value} {pl : Sem Bool} {Q : Value × List Value → Shared → Prop} {E : Value → Shared → Prop} (H : HC B C K T0 fi fc fg ft fa pN pV cN cV) (M : MtAt B K C name qual i dV f)
    (hB : ∀ b o, B.get? b = some o → s.heap.get? b = some o) (O : HO s.heap C T d l) (hn : ((Str.ofString "_headers") == name) = false) (h : Q (.ref f, [.ref T]) s) : wpAny (model prog w) A (getMethod (.ref T) name pl) Q E s := by
  obtain ⟨od, I, hs, _⟩ := O.inst
  exact method_fn (H.inB.keeps hB) I H.ga H.gk M.find M.ty (hs name hn) h
theorem PE.conv {T d l : Addr} {b : Bool} {e : Expr} {x xs : Str} {ps apos pos kpos kp2 : Pos} {j : Nat} (i : Nat) (H : HC B C K T0 fi fc fg ft fa pN pV cN cV) (O : HO B C T d l) (hi : ρ[i]? = some (xs, .v (hnd T))) (he : PE prog w (k + 1) env B ρ e (.str x)) (hs : sNone (if b then cN else cV) x = true)
    (hst : isStar e = false := by rfl) (hline : (apos.endLine == pos.line) = true := by rfl) (hd : (xs == ("__debug__" : Str)) = false := by decide) :
    PE prog w (k + 1) env B ρ (.Call (.Attribute (.Name xs ps) "_convert_string_type" apos) [e] [⟨some "name", .Constant (.bool b) j kpos, kp2⟩] pos) (.str x) := by
  constructor
  intro A os av s hA r
  have hplain : ((backTo pos (starEach [e] env)).any (·.1) || (backToKw pos (keywordEach [⟨some "name", .Constant (.bool b) j kpos, kp2⟩] env)).any (·.1.isNone)) = false := by
    rw [back_one hst]; rfl
  refine Call_meth rfl ?_ hline ((PE.var i hi hd : PE prog w (k + 1) env B ρ (.Name xs ps) (hnd T)).out A os av s hA r |> fun h => wpAny_mono h (fun V s₁ q => ?_) fun _ _ e => e)
  · rw [back_one hst]; rfl
  · obtain rfl := q.1.ref_inv
    have r₁ := r.keeps q.2
    intro pl
    refine meth_get H H.mc r₁.base (O.keeps r₁.base) (by decide) ?_
    refine callWith_KW (h₀ := B) H.inB H.mc.keep rfl (wpAny_mono ((PAs.cons he .nil hst).out A os av s₁ pos hA r₁) (fun vs s₂ z => ?_) fun _ _ e => e) hplain (star_one hst)
    obtain ⟨V, rfl, zz⟩ := z.1.one
    obtain ⟨t, rfl⟩ := zz.str_inv
    have r₂ := r₁.keeps z.2
    refine wpAny_evalAll_cons ?_
    show wpAny _ _ (eval (.Constant (.bool b) j kpos) env >>= _) _ _ _
    refine wpAny_bind (wpAny_Constant_bool (wpAny_bind (wpAny_standAt (wpAny_pure (wpAny_evalAll_nil ⟨H.inB.keeps r₂.base, ?_⟩)))))
    exact wpAny_mono (conv_call (av := av) H hs (hA.mono (by omega)) r₂.base r₂.alive) (fun V s₃ y => ⟨y.1, kp_trans q.2 (kp_trans z.2 y.2)⟩) fun _ _ e => e
end
end Mine
end
section
open PySem PySem.W PyProof.Rows
set_option linter.unusedVariables false
namespace Mine
section
variable {env : Env} {B : Heap} {F : Fp} {av₀ av : List Addr} {ρ ρ' : Vs} {os : List Addr} {s : Shared} {prog : Program} {w : World} {k : Nat}
variable {C T0 fi fc fg ft fa pN pV : Addr} {K : Frag} {cN cV : Array Nat}
theorem PE.attr {T d l : Addr} {xs : Str} {ps apos : Pos} (i : Nat) (H : HC B C K T0 fi fc fg ft fa pN pV cN cV) (O : HO B C T d l) (hi : ρ[i]? = some (xs, .v (hnd T))) (hd : (xs == ("__debug__" : Str)) = false := by decide) :
    PE prog w k env B ρ (.Attribute (.Name xs ps) "_headers" apos) (hnd l) := by
  constructor
  intro A os av s hA r
  rw [arm_eval_Attribute]
  refine wpAny_bind (wpAny_mono ((PE.var i hi hd : PE prog w k env B ρ (.Name xs ps) (hnd T)).out A os av s hA r) (fun V s₁ q => ?_) fun _ _ e => e)
  obtain rfl := q.1.ref_inv
  have r₁ := r.keeps q.2
  obtain ⟨od, I, _, hl⟩ := (O.keeps r₁.base).inst
  obtain ⟨cd, hcd, hdict⟩ := H.cd
  have hf : findObj K C (some od) "_headers" = some (.value (.ref l)) := by
    unfold findObj
    rw [hcd, Option.bind_some, H.nh, Option.bind_some]
    simp only [Option.bind_some, PySem.W.ownOf, hdict, if_true, hl]
  refine wpAny_bind (wpAny_standAt (wpAny_bind (wpAny_holding (get_value (H.inB.keeps r₁.base) I H.ga hf rfl ?_))))
  exact wpAny_bind (m := letTemporaryGo (.Name xs ps) _ _) (wpAny_of_eq rfl (wpAny_pure ⟨.ref, kp_trans q.2 (kp_tok _ _)⟩))

/-- a list, own or not, that is only read -/
structure PLs (prog : Program) (w : World) (k : Nat) (env : Env) (B : Heap) (ρ : Vs) (e : Expr) (ds : List PyData) : Prop where
  out : ∀ A os av s, OkA k A → R env B ρ os av s → wpAny (model prog w) A (eval e env) (fun V s' => (∃ a vs n, V = .ref a ∧ s'.heap.get? a = some (lobj vs n) ∧ VRs av s'.heap ds vs.toList) ∧ Keeps s s') (fun _ _ => False) s
theorem PLs.attr {T d l : Addr} {xs g : Str} {ps apos : Pos} {ds : List PyData} {Ws : List Value} (i j : Nat) (H : HC B C K T0 fi fc fg ft fa pN pV cN cV) (O : HO B C T d l) (hl : B.PlainList l Ws.toArray) (hi : ρ[i]? = some (xs, .v (hnd T))) (hj : ρ[j]? = some (g, .k ds Ws)) (hd : (xs == ("__debug__" : Str)) = false := by decide) :
    PLs prog w k env B ρ (.Attribute (.Name xs ps) "_headers" apos) ds := by
  constructor
  intro A os av s hA r
  refine wpAny_mono ((PE.attr i H O hi hd : PE prog w k env B ρ (.Attribute (.Name xs ps) "_headers" apos) (hnd l)).out A os av s hA r) (fun V s₁ q => ?_) fun _ _ e => e
  obtain rfl := q.1.ref_inv
  obtain ⟨n, e⟩ := hl
  exact ⟨⟨l, Ws.toArray, n, rfl, (r.keeps q.2).base _ _ e, (r.hold.kn hj).keeps (kp q.2)⟩, q.2⟩
theorem pick_all {α : Type} : ∀ l : List α, (List.range l.length).filterMap (l[·]?) = l
  | [] => rfl
  | x :: l => by
    have ih := pick_all l
    rw [List.length_cons, List.range_succ_eq_map, List.filterMap_cons, List.filterMap_map]
    simp only [Function.comp_def, List.getElem?_cons_zero, List.getElem?_cons_succ, Nat.succ_eq_add_one, ih]
theorem sl_all {α : Type} (l : List α) : sl l none none = l := by
  have : sl l none none = (List.range l.length).filterMap (l[·]?) := by
    unfold sl sliceBounds sliceRange
    have h : (if 0 < l.length then (l.length : Int) else 0).toNat = l.length := by split <;> omega
    simp [h]
  rw [this, pick_all]
theorem PLs.slice {value : Expr} {p pos : Pos} {ds : List PyData} (hv : PLs prog w k env B ρ value ds) (hn : ds.length ≤ 16777216) : PE prog w k env B ρ (.Subscript value (.Slice none none none p) pos) (.list (sl ds none none)) := by
  constructor
  intro A os av s hA r
  refine Subscript_ (wpAny_mono (hv.out A os av s hA r) (fun V s₁ p => wpAny_Slice (wpAny_pure (wpAny_pure (wpAny_pure ?_)))) fun _ _ e => e)
  obtain ⟨⟨l, vs, n, rfl, e, hvs⟩, k₁⟩ := p
  have r₁ := r.keeps k₁
  have hsz : vs.size = ds.length := by rw [← Array.length_toList, hvs.length]
  refine wpAny_sub ⟨"list", _, list_getitem_lookup, ((isList_of e).push _).typeIs, wpAny_getItem_list_slice ((isList_of e).push _) (Heap.IsSliceOf.new ..) .none .none .none (by simp) ?_ (by rw [hsz]; exact hn)⟩ (.inr rfl)
  have kk : Keeps s₁ { s₁ with heap := s₁.heap.push { cls := .type "slice", data := .fields #[.none, .none, .none] } } := kp_push _ _
  refine ⟨.newList (r₁.keeps kk).alive ?_, kp_trans k₁ (kp_trans kk (kp_push _ _))⟩
  have := (hvs.keeps (kp kk)).pick (sliceRange (sliceBounds none none none ds.length).1 (sliceBounds none none none ds.length).2.1 (sliceBounds none none none ds.length).2.2)
  unfold sl slicePick
  rw [hsz]
  simpa using this
theorem PLs.src {tgt iter : Expr} {xs : List PyData} (hv : PLs prog w k env B ρ iter xs) (hn : xs.length ≤ 16777216) (ht : TgOk tgt xs) : PIc prog w k env B ρ tgt iter xs := by
  constructor
  intro A os av s hA r
  refine wpAny_mono (hv.out A os av s hA r) (fun V s₁ p => ?_) fun _ _ e => e
  obtain ⟨⟨a, vs, n, rfl, e, hvs⟩, k₁⟩ := p
  have r₁ := r.keeps k₁
  have hsz : vs.size = xs.length := by rw [← Array.length_toList, hvs.length]
  have hne : a ≠ s₁.heap.objs.size := fun h => by rw [h, next_none] at e; cases e
  refine wpAny_pyIter_list (isList_of e) ⟨kp_trans k₁ (kp_push _ _), xs, vs.toList, [s₁.heap.objs.size, a], [s₁.heap.objs.size], fun i h => h.IsListIter s₁.heap.objs.size a i ∧ h.IsList a vs,
    Src.ofWalks (P := fun i v => vs[i]? = some v) (fun A hA => hsz ▸ Walks.list hA s₁.heap.objs.size a hne vs) (fun i h st b hb => ?_) (fun i h st b hb o ho hs => ?_) (fun i v d av h hp hd hv => ?_) (fun A s i V d Q hd hV st hQ => ?_), ⟨⟨_, Heap.get?_push_size _ rfl, rfl, rfl⟩, (isList_of e).push _⟩, hvs.keeps (fun _ _ e => Heap.get?_push_of_some _ e), fun b hb => ?_, hn⟩
  · simp only [List.mem_cons, List.not_mem_nil, or_false] at hb
    rcases hb with rfl | rfl
    · obtain ⟨⟨o, h1, _⟩, _⟩ := st; exact ⟨o, h1⟩
    · obtain ⟨_, ⟨o, h1, _⟩⟩ := st; exact ⟨o, h1⟩
  · simp only [List.mem_cons, List.not_mem_nil, or_false] at hb
    subst hb
    obtain ⟨⟨o', h1, h2, h3⟩, _⟩ := st
    rw [ho] at h1; cases h1
    obtain ⟨vs', n', h4 | h4⟩ := hs <;> rw [h4] at h3 <;> cases h3
  · obtain ⟨V, h1, h2⟩ := hv.get hd
    rw [toList_at, hp] at h1; cases h1; exact h2
  · rcases ht with ht | ⟨elts, z, pt, rfl, ht⟩
    · exact wpAny_of_eq (ht _ _) hQ
    · obtain ⟨ds, rfl⟩ := ht d (mem_of_at hd)
      obtain ⟨T, _, _, rfl, _⟩ := hV.tuple_inv
      exact wpAny_letOwnedTupleGo_listiter st.1 hQ
  · simp only [List.mem_cons, List.not_mem_nil, or_false] at hb
    subst hb
    exact kp_none k₁ (next_none _)
/-- values known beside the names -/
theorem St.ghost {g : Str} {ds : List PyData} {Ws : List Value} (X : St env B F av₀ ρ os s) (h : VRs (avOf env os av₀) s.heap ds Ws) (hg : g ∉ ρ.map (·.1)) : St env B F av₀ ((g, .k ds Ws) :: ρ) os s :=
  { X with
    hold := let ⟨o₁, H, a, b⟩ := X.hold; ⟨[] ++ o₁, .cons (.k h) H, a, b⟩
    names := by rw [List.map_cons, List.nodup_cons]; exact ⟨hg, X.names⟩ }
abbrev tupD (p : Str × Str) : PyData := .tuple [.str p.1, .str p.2]
theorem HIts.vrs {av : List Addr} {h : Heap} : ∀ {its : List (Str × Str)} {ts : List Addr}, HIts av h its ts → VRs av h (its.map tupD) (ts.map .ref)
  | _, _, .nil => .nil
  | _, _, .cons a b c => .cons (.tuple a b (.cons .str (.cons .str .nil))) c.vrs
theorem HIts.length {av : List Addr} {h : Heap} : ∀ {its : List (Str × Str)} {ts : List Addr}, HIts av h its ts → ts.length = its.length
  | _, _, .nil => rfl
  | _, _, .cons a b c => by rw [List.length_cons, List.length_cons, c.length]
/-- what reads outside of av reads so in a new frame -/
theorem St.enter {ds : List PyData} {Ws : List Value} (X : St env B F av₀ ρ os s) {h₀ : Heap} (hF : ∀ b o, h₀.get? b = some o → F b = some o) (h : VRs av₀ h₀ ds Ws) : VRs (avOf env os av₀) s.heap ds Ws :=
  h.mv fun a o _ ha e => ⟨fun hm => by
    rcases av_md hm with q | q
    · have := hF a o e; rw [X.fresh a q] at this; cases this
    · exact ha q, X.keep a o (hF a o e)⟩
set_option maxRecDepth 100000 in
theorem items_call (H : HC B C K T0 fi fc fg ft fa pN pV cN cV) {T d l : Addr} {its : List (Str × Str)} {ts : List Addr} (O : HO s.heap C T d l) (hl : s.heap.PlainList l (ts.map Value.ref).toArray) (hits : HIts av s.heap its ts) (hlen : its.length ≤ 1000)
    {A : Around} (hA : OkA 1 A) (hB : ∀ b o, B.get? b = some o → s.heap.get? b = some o) (hal : ∀ a ∈ av, ∃ o, s.heap.get? a = some o) :
    wpAny (model prog w) A (call (.ref ft) [.ref T]) (fun V s' => VR av s'.heap (.list (its.map tupD)) V ∧ Keeps s s') (fun _ _ => False) s := by
  obtain ⟨o, pm, cd, doc, an, kV, ct, ho, hd, hcr⟩ := H.mt.o
  refine fn_enterG (k := 0) (ns := ["self"]) (rest := []) (av := av) (hB _ _ ho) hd (H.lim.keeps hB) (hcr.keeps hB) rfl rfl rfl rfl (kind_loc (scope := mScope 11) (by decide +kernel)) (by decide +kernel) (fun L => List.nodup_nil) hA hal ?_ rfl rfl rfl
  refine wpAny_of_eq (a := ([("self", .ref T)] : List (Str × Value))) (by with_unfolding_all rfl) ⟨kp_refl s, [.ref T], [hnd T], rfl, rfl, .cons .ref .nil, fun L h₁ tk hL X => ?_⟩
  have H' := H.keeps hB
  have Y := X s.heap fun _ _ e => e
  have Z := Y.ghost (g := "") (Y.enter (fun _ _ e => e) hits.vrs) (show _ ∉ (["self"] : List Str) by decide +kernel)
  have Pb : PS prog w 0 (callEnvC (fnOf "items" "Headers.items" (mArgs 11) (mBody 11) (mScope 11) .none kV doc pm an cd ct) L ft) s.heap (("", .k (its.map tupD) (ts.map .ref)) :: inits ["self"] [hnd T] []) (mBody 11) (.rt (.list (its.map tupD))) := by
    exact PS.ret (P1.ret (PE.cast (PLs.slice (PLs.attr 1 0 H' O hl rfl rfl) (by rw [List.length_map]; omega)) (congrArg PyData.list (sl_all _))))
  refine wpAny_mono (Pb.out _ _ av [] _ hA.deeper Z) (fun fl s' q => ?_) fun _ _ e => e
  obtain ⟨⟨h', t', rfl⟩, V, rfl, hv, hk⟩ := q
  exact ⟨hv, h', t', rfl, hk⟩
end
end Mine
end
section
open PySem PySem.W PyProof.Rows
set_option linter.unusedVariables false
namespace Mine
section
variable {env : Env} {B : Heap} {F : Fp} {av₀ av : List Addr} {ρ ρ' : Vs} {os : List Addr} {s : Shared} {prog : Program} {w : World} {k : Nat}
variable {C T0 fi fc fg ft fa pN pV : Addr} {K : Frag} {cN cV : Array Nat}
theorem coll_list {α : Type} (p : α → Bool) (f : α → PyData) (d : α) : ∀ l : List α, coll (fun j => p (l.getD j d)) (fun j => f (l.getD j d)) l.length = (l.filter p).map f
  | [] => rfl
  | x :: l => by
    have ih := coll_list p f d l
    unfold coll at ih ⊢
    rw [List.length_cons, List.range_succ_eq_map, List.filterMap_cons, List.filterMap_map]
    simp only [Function.comp_def, List.getD_cons_zero, List.getD_cons_succ, Nat.succ_eq_add_one, ih, List.filter_cons]
    cases p x <;> simp
theorem map_at {α : Type} {f : α → PyData} {l : List α} {j : Nat} {d : PyData} (dflt : α) (h : (l.map f)[j]? = some d) : d = f (l.getD j dflt) ∧ j < l.length := by
  have hl := lt_of_at h
  rw [List.length_map] at hl
  rw [List.getElem?_map, List.getElem?_eq_getElem hl] at h
  cases h
  refine ⟨?_, hl⟩
  rw [List.getD_eq_getElem?_getD, List.getElem?_eq_getElem hl]; rfl
abbrev lowEq (nm : Str) (p : Str × Str) : Bool := Txt.lower p.1 == nm
abbrev sx (i : Nat) (l : List (Str × Str)) : Str × Str := l.getD i (⟨#[]⟩, ⟨#[]⟩)
set_option maxRecDepth 100000 in
theorem getall_call (H : HC B C K T0 fi fc fg ft fa pN pV cN cV) {T d l : Addr} {its : List (Str × Str)} {ts : List Addr} (O : HO s.heap C T d l) (hl : s.heap.PlainList l (ts.map Value.ref).toArray) (hits : HIts av s.heap its ts) (hlen : its.length ≤ 1000)
    {nm : Str} {t : Tok} (hs : sNone cN (Txt.lower nm) = true) (hlow : (Txt.lower nm).length ≤ 16777216) (hlows : ∀ p ∈ its, (Txt.lower p.1).length ≤ 16777216)
    {A : Around} (hA : OkA 2 A) (hB : ∀ b o, B.get? b = some o → s.heap.get? b = some o) (hal : ∀ a ∈ av, ∃ o, s.heap.get? a = some o) :
    wpAny (model prog w) A (call (.ref fg) [.ref T, .str nm t]) (fun V s' => VR av s'.heap (.list ((its.filter (lowEq (Txt.lower nm))).map fun p => .str p.2)) V ∧ Keeps s s') (fun _ _ => False) s := by
  obtain ⟨o, pm, cd, doc, an, kV, ct, ho, hd, hcr⟩ := H.mg.o
  refine fn_enterG (k := 1) (ns := ["self", "name"]) (rest := []) (av := av) (hB _ _ ho) hd (H.lim.keeps hB) (hcr.keeps hB) rfl rfl rfl rfl (fun L y hy => ?_) (by decide +kernel) (fun L => ?_) hA hal ?_ rfl rfl rfl
  · simp only [List.mem_cons, List.not_mem_nil, or_false] at hy
    rcases hy with rfl | rfl
    · exact .inl rfl
    · exact .inr ⟨rfl, rfl⟩
  · show List.Nodup [_]
    simp
  refine wpAny_of_eq (a := ([("self", .ref T), ("name", .str nm t)] : List (Str × Value))) (by with_unfolding_all rfl) ⟨kp_refl s, [.ref T, .str nm t], [hnd T, .str nm], rfl, rfl, .cons .ref (.cons .str .nil), fun L h₁ tk hL X => ?_⟩
  have H' := H.keeps hB
  have Y := X s.heap fun _ _ e => e
  have Z := Y.ghost (g := "") (Y.enter (fun _ _ e => e) hits.vrs) (show _ ∉ (["self", "name"] : List Str) by decide +kernel)
  have Pb : PS prog w 1 (callEnvC (fnOf "get_all" "Headers.get_all" (mArgs 7) (mBody 7) (mScope 7) .none kV doc pm an cd ct) L fg) s.heap (("", .k (its.map tupD) (ts.map .ref)) :: inits ["self", "name"] [hnd T, .str nm] []) (mBody 7) (.rt (.list ((its.filter (lowEq (Txt.lower nm))).map fun p => .str p.2))) := by
    refine PS.cons (ρ₁ := [("", .k (its.map tupD) (ts.map .ref)), ("self", .v (hnd T)), ("name", .v (.str (Txt.lower nm)))]) (S1.set 2 (PE.conv 1 H' O rfl (PE.meth0 (PE.var 2 rfl) (Mth0.lower hlow)) hs) rfl (.inr ⟨rfl, _, rfl⟩)) ?_
    refine PS.ret (P1.ret (compE (xs := its.map tupD) (own := fun _ => []) (ρ₀ := [("kv", .no), ("name", .v (.str (Txt.lower nm)))]) (ρi := fun j => [("kv", .v (tupD (sx j its))), ("name", .v (.str (Txt.lower nm)))])
      (p := fun j => lowEq (Txt.lower nm) (sx j its)) (f := fun j => .str (sx j its).2)
      ⟨rfl, rfl, by decide +kernel, PLs.src (PLs.attr 1 0 H' O hl rfl rfl) (by rw [List.length_map]; omega) .name, own0, fun C av h os H => cap_no (cap_v 2 H rfl rfl rfl rfl cap_nil), fun C j d hd => ?_, fun C j d hd => ?_, fun C j d hd _ => ?_⟩ ?_))
    · obtain ⟨rfl, _⟩ := map_at (⟨#[]⟩, ⟨#[]⟩) hd
      exact C2.name 0 rfl
    · obtain ⟨_, hj⟩ := map_at (⟨#[]⟩, ⟨#[]⟩) hd
      have hm : sx j its ∈ its := by unfold sx; rw [List.getD_eq_getElem?_getD, List.getElem?_eq_getElem hj]; exact List.getElem_mem hj
      exact .one (PT.cmp (PE.meth0 (PE.sub (PE.var 0 rfl) PE.int (IxR.tuple (by decide) (by decide) rfl)) (Mth0.lower (hlows _ hm))) (PE.var 1 rfl) CmpR.eqS)
    · exact PE.sub (PE.var 0 rfl) PE.int (IxR.tuple (by decide) (by decide) rfl)
    · rw [List.length_map]; exact coll_list (lowEq (Txt.lower nm)) (fun p => .str p.2) (⟨#[]⟩, ⟨#[]⟩) its
  refine wpAny_mono (Pb.out _ _ av [] _ hA.deeper Z) (fun fl s' q => ?_) fun _ _ e => e
  obtain ⟨⟨h', t', rfl⟩, V, rfl, hv, hk⟩ := q
  exact ⟨hv, h', t', rfl, hk⟩

theorem P1.forItems0 {tgt : Expr} {body : List Stmt} {x : Str} {px apos cpos pos : Pos} {D : Addr} (i : Nat) (hi : ρ[i]? = some (x, .v (hnd D))) (hD : B.get? D = some emptyDict) (hlo : (D == sysModules) = false)
    (hbase : attributeBase (.Name x px) "items" env (eval (.Name x px) env) = eval (.Name x px) env := by rfl) (hline : (apos.endLine == cpos.line) = true := by rfl) (hdb : (x == ("__debug__" : Str)) = false := by decide)
    (hs : ∀ x', foldedSetIterable (.Call (.Attribute (.Name x px) "items" apos) [] [] cpos) env x' = pure x' := by intro _; rfl) :
    P1 prog w k env B ρ (.For tgt (.Call (.Attribute (.Name x px) "items" apos) [] [] cpos) body [] pos) (.nx ρ) := by
  constructor
  intro A F av₀ os s hA X
  obtain ⟨o₁, r, _⟩ := X.R
  have hat : ∀ s' : Shared, Keeps s s' → s'.heap.DictAt (strKind prog w) D [] 0 := fun s' kk => ⟨emptyDict, #[], kp kk _ _ (r.base _ _ hD), ⟨rfl, rfl, rfl⟩, rfl, by intro e he; simp at he, .nil, List.nodup_nil⟩
  refine wpAny_For (Call_method0 hbase hline (wpAny_mono ((PE.var i hi hdb : PE prog w k env B ρ (.Name x px) (hnd D)).out A _ _ s hA r) (fun V s₁ q => ?_) fun _ _ e => e)) hs
  obtain rfl := q.1.ref_inv
  have hD₁ := kp q.2 _ _ (r.base _ _ hD)
  have hdo : s₁.heap.DictOf (strKind prog w) D [] := (hat s₁ q.2).dictOf
  refine ⟨_, _, PySem.F.plainAttrs_dict, PySem.F.slot_dict_items, PySem.F.type_dict_items, ⟨_, hD₁, rfl⟩, fun a ea => by cases ea; exact ⟨_, hD₁, rfl⟩, ?_⟩
  refine PyProof.Rows.callWith_method0 (env := env) (call_meetsIn PySem.F.slot_dict_items ⟨_, hD₁, rfl⟩ PySem.F.entry_dict_items (PySem.F.args_dict_items_1 _) (meets_dict_items (strKind prog w) D hlo) ⟨⟨[], hdo⟩, ?_⟩)
  have k₂ : Keeps s { s₁ with heap := s₁.heap.push { cls := .type "dict_items", data := .fields #[.ref D] } } := kp_trans q.2 (kp_push _ _)
  show wpAny _ _ (pyIter (.ref s₁.heap.objs.size)) _ _ _
  refine wpAny_pyIter_items (knd := strKind prog w) (d := D) (kvs := []) (ep := 0) ⟨_, Heap.get?_push_size _ rfl, rfl, rfl⟩ (hat _ k₂) ?_
  generalize hs₂ : ({ s₁ with heap := s₁.heap.push { cls := .type "dict_items", data := .fields #[.ref D] } } : Shared) = s₂ at k₂ ⊢
  have k₃ : Keeps s { s₂ with heap := s₂.heap.push { cls := .type "dict_itemiterator", data := .fields #[.none, .bool false, .ref D, .int 0 0, .int ([] : List (Str × Value)).length 0, .int 0 0, .none, .none] } } := kp_trans k₂ (kp_push _ _)
  refine codeAny_forLoop_any (fun _ s' => s' = { s₂ with heap := s₂.heap.push { cls := .type "dict_itemiterator", data := .fields #[.none, .bool false, .ref D, .int 0 0, .int ([] : List (Str × Value)).length 0, .int 0 0, .none, .none] } }) ?_ 0 rfl
  rintro n s' rfl
  refine wpAny_pyNext_items_end (knd := strKind prog w) (d := D) (i := 0) (ep := 0) (kvs := []) (ok := .none) (ov := .none) hA.hh (Heap.get?_push_size _ rfl) (hat _ k₃) rfl fun h' hx => ?_
  have k₄ : Keeps s { s₂ with heap := h' } := by
    obtain ⟨h2, t2, rfl, kk⟩ := k₂
    exact ⟨h', t2, rfl, fun b o e => hx b o (Nat.ne_of_lt (Heap.lt_size (kk b o e))) (Heap.get?_push_of_some _ (kk b o e))⟩
  exact wpAny_execs_nil ⟨up_kp k₄, rfl, os, X.keeps k₄⟩
end
end Mine
end
section
open PySem PySem.W PyProof.Rows
set_option linter.unusedVariables false
set_option linter.unusedSimpArgs false
namespace Mine
section
variable {env : Env} {B : Heap} {F : Fp} {av₀ av : List Addr} {ρ ρ' : Vs} {os : List Addr} {s : Shared} {prog : Program} {w : World} {k : Nat}
variable {C T0 fi fc fg ft fa pN pV : Addr} {K : Frag} {cN cV : Array Nat}
theorem CmpR.isNotNoneS {a : Str} : CmpR prog w k .IsNot (.str a) .none true := by
  constructor
  intro A av s V W hA x y
  obtain ⟨t, rfl⟩ := x.str_inv
  obtain rfl := y.none_inv
  exact fun _ _ _ => ⟨rfl, kp_refl s⟩
theorem hide_of {h : Heap} {l b : Addr} {o : Obj} (hb : b ≠ l) (e : h.get? b = some o) : (h.hide l).get? b = some o := (Heap.hide_ne h hb).trans e
theorem HIts.append {av : List Addr} {h : Heap} {x y : Str} {t u : Tok} {a : Addr} {n : Nat} (ha : a ∉ av) (e : h.get? a = some (tobj #[.str x t, .str y u] n)) : ∀ {its ts}, HIts av h its ts → HIts av h (its ++ [(x, y)]) (ts ++ [a])
  | _, _, .nil => .cons ha e .nil
  | _, _, .cons p q r => .cons p q (r.append ha e)
set_option maxRecDepth 100000 in
theorem mArgs16 : ∃ p q r kw, mArgs 16 = ⟨[], [p, q, r], none, [], [], some kw, []⟩ ∧ p.arg = "self" ∧ q.arg = "_name" ∧ r.arg = "_value" ∧ kw.arg = "_params" := ⟨_, _, _, _, rfl, rfl, rfl, rfl, rfl⟩
set_option maxRecDepth 100000 in
theorem bind_kw (nm ql : Str) (body : List Stmt) (sc : Scope) (kV doc pm : Value) (an : Option Addr) (cd ct : Value) (p q r kw : Arg) (h1 : p.arg = "self") (h2 : q.arg = "_name") (h3 : r.arg = "_value") (h4 : kw.arg = "_params") (a b c : Value) :
    bindArgs (fnOf nm ql ⟨[], [p, q, r], none, [], [], some kw, []⟩ body sc .none kV doc pm an cd ct) ⟨[a, b, c], []⟩ = (alloc emptyDict >>= fun D => pure ([("self", a), ("_name", b), ("_value", c), ("_params", .ref D)] : List (Str × Value))) := by
  obtain ⟨pa, pb, pc⟩ := p
  obtain ⟨qa, qb, qc⟩ := q
  obtain ⟨ra, rb, rc⟩ := r
  obtain ⟨ka, kb, kc⟩ := kw
  dsimp only at h1 h2 h3 h4
  subst h1 h2 h3 h4
  with_unfolding_all rfl
set_option maxRecDepth 100000 in
theorem add_call (H : HC B C K T0 fi fc fg ft fa pN pV cN cV) {T d l : Addr} {its : List (Str × Str)} {ts : List Addr} (O : HO s.heap C T d l) (hl : s.heap.PlainList l (ts.map Value.ref).toArray) (hits : HIts av s.heap its ts) (hlen : its.length ≤ 1000)
    (hT : T ≠ l) (hd' : d ≠ l) (hlav : l ∈ av) (hBl : B.get? l = none) {x y : Str} {t u : Tok} (hx : sNone cN x = true) (hy : sNone cV y = true) (hj : Txt.join "; " [y] = y) (hjo : JoinOk "; " [y] = true)
    {A : Around} (hA : OkA 2 A) (hB : ∀ b o, B.get? b = some o → s.heap.get? b = some o) (hal : ∀ a ∈ av, ∃ o, s.heap.get? a = some o) :
    wpAny (model prog w) A (call (.ref fa) [.ref T, .str x t, .str y u]) (fun V s' => V = .none ∧ Up s s' ∧ (∀ b o, b ≠ l → s.heap.get? b = some o → s'.heap.get? b = some o) ∧ ∃ ts', s'.heap.PlainList l (ts'.map Value.ref).toArray ∧ HIts av s'.heap (its ++ [(x, y)]) ts') (fun _ _ => False) s := by
  obtain ⟨o, pm, cd, doc, an, kV, ct, ho, hd, hcr⟩ := H.ma.o
  refine fn_enterG (k := 1) (ns := ["self", "_name", "_value", "_params"]) (rest := ["parts", "k", "v"]) (av := av) (hB _ _ ho) hd (H.lim.keeps hB) (hcr.keeps hB) rfl rfl rfl rfl (kind_loc (scope := mScope 16) (by decide +kernel)) (by decide +kernel) (fun L => List.nodup_nil) hA hal ?_ rfl rfl rfl
  have hbind : bindArgs (fnOf "add_header" "Headers.add_header" (mArgs 16) (mBody 16) (mScope 16) .none kV doc pm an cd ct) ⟨[.ref T, .str x t, .str y u], []⟩ = (alloc emptyDict >>= fun D => pure ([("self", .ref T), ("_name", .str x t), ("_value", .str y u), ("_params", .ref D)] : List (Str × Value))) := by
    obtain ⟨p, q, r, kw, hm, h1, h2, h3, h4⟩ := mArgs16
    rw [hm]
    exact bind_kw _ _ _ _ _ _ _ _ _ _ p q r kw h1 h2 h3 h4 _ _ _
  rw [hbind]
  have k₁ : Keeps s { s with heap := s.heap.push emptyDict } := kp_push _ _
  refine wpAny_bind (wpAny_alloc (wpAny_pure ⟨k₁, [.ref T, .str x t, .str y u, .ref s.heap.objs.size], [hnd T, .str x, .str y, hnd s.heap.objs.size], rfl, rfl, .cons .ref (.cons .str (.cons .str (.cons .ref .nil))), fun L h₁ tk hL X => ?_⟩))
  have hD : (s.heap.push emptyDict).get? s.heap.objs.size = some emptyDict := Heap.get?_push_size _ rfl
  have hlo : (s.heap.objs.size == sysModules) = false := beq_eq_false_iff_ne.mpr (Nat.ne_of_gt (modules_low (H.lim.keeps hB)))
  have hDl : s.heap.objs.size ≠ l := fun e => by obtain ⟨n, q⟩ := hl; rw [← e, next_none] at q; cases q
  have k₁' : ∀ b o, s.heap.get? b = some o → (s.heap.push emptyDict).get? b = some o := kp k₁
  generalize hh : s.heap.push emptyDict = hp at X hD k₁' k₁
  generalize hsz : s.heap.objs.size = D at hD hlo hDl X
  have H' : HC (hp.hide l) C K T0 fi fc fg ft fa pN pV cN cV := H.keeps fun b o e => hide_of (fun q => by rw [q, hBl] at e; cases e) (k₁' _ _ (hB _ _ e))
  have O' : HO (hp.hide l) C T d l := ⟨hide_of hT (k₁' _ _ O.t), let ⟨e, n, a, b, c⟩ := O.d; ⟨e, n, a, b, hide_of hd' (k₁' _ _ c)⟩⟩
  have Y := X (hp.hide l) fun _ _ e => Heap.of_hide e
  have hD' : (hp.hide l).get? D = some emptyDict := hide_of hDl hD
  clear X
  refine wpAny_execs_cons (wpAny_mono ((S1.own (k := 1) 4 (PN.list PAs.nil) rfl (.inl rfl) : P1 prog w 1 _ _ _ _ (.nx [("self", .v (hnd T)), ("_name", .v (.str x)), ("_value", .v (.str y)), ("_params", .v (hnd D)), ("parts", .o (.lst [])), ("k", .no), ("v", .no)])).out _ _ av [] _ hA.deeper Y) (fun f s₁ p => ?_) fun _ _ e => e)
  obtain ⟨u1, rfl, os1, X1⟩ := p
  refine wpAny_execs_cons (wpAny_mono ((P1.iteT (PT.cmp (PE.var 2 rfl) PE.nn CmpR.isNotNoneS) rfl (PS.cons (S1.set 2 (PE.conv (k := 0) (b := false) (x := y) 0 H' O' rfl (PE.var 2 rfl) hy) rfl (.inl rfl)) (PS.cons (S1.append 4 rfl (PE.var 2 rfl) (by decide)) PS.nil)) : P1 prog w 1 _ _ _ _ (.nx [("self", .v (hnd T)), ("_name", .v (.str x)), ("_value", .v (.str y)), ("_params", .v (hnd D)), ("parts", .o (.lst [.str y])), ("k", .no), ("v", .no)])).out _ _ av os1 _ hA.deeper X1) (fun f s₂ p => ?_) fun _ _ e => e)
  obtain ⟨u2, rfl, os2, X2⟩ := p
  refine wpAny_execs_cons (wpAny_mono ((P1.forItems0 3 rfl hD' hlo : P1 prog w 1 _ _ _ _ _).out _ _ av os2 _ hA.deeper X2) (fun f s₃ p => ?_) fun _ _ e => e)
  obtain ⟨u3, rfl, os3, X3⟩ := p
  obtain ⟨os4, X4⟩ := X3.freeze (i := 4) rfl
  have hl3 : s₃.heap.PlainList l (ts.map Value.ref).toArray := let ⟨n, e⟩ := hl; ⟨n, X4.keep _ _ (k₁' _ _ e)⟩
  obtain ⟨o₁, r, _⟩ := X4.R
  refine wpAny_execs_cons (wpAny_Expr (wpAny_Call_method rfl (few_one rfl) rfl PySem.F.plainAttrs_list PySem.F.slot_list_append PySem.F.type_list_append (wpAny_mono ((PE.attr 0 H' O' rfl).out _ _ _ s₃ (hA.deeper) r) (fun V s₄ p => ?_) fun _ _ e => e)) rfl rfl)
  obtain rfl := p.1.ref_inv
  have hl4 : s₄.heap.PlainList l (ts.map Value.ref).toArray := let ⟨n, e⟩ := hl3; ⟨n, kp p.2 _ _ e⟩
  refine ⟨hl4.isList.typeIs, fun b hb => by cases hb; obtain ⟨n, e⟩ := hl4; exact ⟨_, e, rfl⟩, ?_⟩
  rw [back_one rfl]
  refine Calls.callWith_builtin rfl (Calls.evalArgs_plain (Calls.spliced_cons (wpAny_mono ((PE.tuple (.cons (PE.conv (k := 0) (b := true) (x := x) 0 H' O' rfl (PE.var 1 rfl) hx) (.cons (PE.meth1 PE.str (PE.var 4 rfl) (Mth1.join (ns := [y]) hjo)) .nil))).out _ _ _ s₄ hA.deeper (r.keeps p.2)) (fun W s₅ q => Calls.spliced_nil ?_) fun _ _ e => e)))
  obtain ⟨a, vs, n, rfl, ha, e, hv⟩ := q.1.tuple_inv
  obtain ⟨V1, V2, hvs, r1, r2⟩ := hv.two
  rw [hj] at r2
  obtain ⟨t1, rfl⟩ := r1.str_inv
  obtain ⟨t2, rfl⟩ := r2.str_inv
  have hvs' : vs = #[.str x t1, .str y t2] := by apply Array.toList_inj.mp; simpa using hvs
  subst hvs'
  have k5 := kp_trans p.2 q.2
  have hl5 : s₅.heap.PlainList l (ts.map Value.ref).toArray := let ⟨n, e⟩ := hl3; ⟨n, kp k5 _ _ e⟩
  refine wpAny_list_append_plain hl5 (fun h' hl' hs => ?_) (by rw [List.size_toArray, List.length_map, hits.length]; exact Nat.le_trans hlen (by decide))
  refine wpAny_execs_nil ?_
  have hal' : a ≠ l := fun q => by subst q; exact ha (by simp [avOf, hlav])
  have kall : ∀ b o, b ≠ l → s.heap.get? b = some o → h'.get? b = some o := fun b o hb e => (hs.2 b hb).trans (kp k5 _ _ (X4.keep _ _ (k₁' _ _ e)))
  refine ⟨rfl, ?_, kall, ts ++ [a], ?_, ?_⟩
  · exact up_trans (up_trans (up_kp k₁) ⟨h₁, tk, rfl⟩) (up_trans u1 (up_trans u2 (up_trans u3 (up_trans (up_kp k5) ⟨h', s₅.toks, rfl⟩))))
  · rw [List.map_append, List.map_cons, List.map_nil, ← List.push_toArray]; exact hl'
  · refine HIts.append (t := t1) (u := t2) (n := n) (fun hm => ha (by simp [avOf, hm])) ((hs.2 a hal').trans e) ?_
    refine hits.mv fun b o hsq hb e => ⟨hb, kall b o (fun q => hb (q ▸ hlav)) e⟩
end
end Mine
end
section
open PySem PySem.W PyProof.Rows
set_option linter.unusedVariables false
namespace Mine
section
variable {env : Env} {B : Heap} {F : Fp} {av₀ av : List Addr} {ρ ρ' : Vs} {os : List Addr} {s : Shared} {prog : Program} {w : World} {k : Nat}
variable {C T0 fi fc fg ft fa pN pV : Addr} {K : Frag} {cN cV : Array Nat}
/-- entering any def of the text: the arguments are bound, then the body runs -/
theorem fn_enterC {f : Addr} {o : Obj} {fd : FuncData} {body : List Stmt} {pos : List Value} {kw : List (Str × Value)} {ns rest : List Str} {A : Around} {av : List Addr} {s : Shared} {Q : Value → Shared → Prop} {R : Result → Shared → Prop} (hR : ∀ v s', Q v s' → R (.ok (.ret v)) s')
    (ho : s.heap.get? f = some o) (hdat : o.data = .func fd) (hlim : s.heap.NoLimit) (hcode : s.heap.CodeRec fd.code fd.qualname) (hbody : fd.body = .stmts body) (hclo : fd.closure = [])
    (hglob : fd.globals = mainGlobals) (hblt : fd.builtins = builtinsNs)
    (hkind : ∀ L, ∀ y ∈ ns, fd.scope.names.lookup y = some .local ∨ (fd.scope.names.lookup y = some .cell ∧ ((cellsFrom (L + 1) fd.scope.names []).lookup y).isSome = true))
    (hn : (ns ++ rest).Nodup) (hcn : ∀ L, ((cellsFrom (L + 1) fd.scope.names []).map (·.1)).Nodup) (hA : OkA (k + 1) A) (hal : ∀ a ∈ av, ∃ o, s.heap.get? a = some o)
    (hb : wpAny (model prog w) A.in1 (bindArgs fd ⟨pos, kw⟩) (fun binds s' => Keeps s s' ∧ ∃ Vs ds, binds = ns.zip Vs ∧ ds.length = ns.length ∧ VRs av s'.heap ds Vs ∧
      ∀ L h₁ tk, L = s'.heap.objs.size → (∀ B : Heap, (∀ b o, B.get? b = some o → s'.heap.get? b = some o) → St (callEnvC fd L f) B (fun b => s'.heap.get? b) av (inits ns ds rest) [] { s' with heap := h₁, toks := tk }) →
        wpAny (model prog w) (A.deeper (callEnvC fd L f)) (execs body (callEnvC fd L f)) (fun fl s'' => Q (match fl with | .ret v => v | _ => .none) s'') (fun _ _ => False) { s' with heap := h₁, toks := tk }) (fun _ _ => False) s)
    (hco : fd.scope.isCoroutine = false) (hgen : fd.scope.isGenerator = false) (hk : fd.scope.kind = .function) :
    codeAny (model prog w) A (.call (.ref f) ⟨pos, kw⟩) R s := by
  refine codeAny_call_function hA.room ho hdat hco hgen hbody hcode (wpAny_mono hb (fun binds s' p => ?_) fun _ _ e => e.elim)
  obtain ⟨kk, Vs, ds, rfl, hl, y, go⟩ := p
  have hlen : Vs.length = ns.length := by rw [y.length, hl]
  rw [hclo]
  refine wpAny_newFunctionEnv_cells hk (fun p hp => ?_) fun env he s₁ x => ?_
  · obtain ⟨y, V⟩ := p
    exact hkind _ y (List.of_mem_zip hp).1
  · have he' : env = callEnvC fd s'.heap.objs.size f := he
    clear he
    obtain ⟨h₁, tk, rfl, _⟩ := x.done
    refine ⟨(hlim.keeps (kp kk)).keeps x.toInCall.keep, ?_⟩
    rw [he'] at x ⊢
    have keep := x.toInCall.keep
    have hns := x.toInCall.ns
    have hcell := x.cell
    have hap := x.apart
    have habove := x.above
    clear x
    generalize hL : s'.heap.objs.size = L at hns hcell hap habove ⊢
    refine codeAny_func (wpAny_mono (go L h₁ tk hL.symm fun B hB => ?_) (fun fl s'' q => hR _ _ q) fun _ _ e => e.elim)
    have hLn : s'.heap.get? L = none := by rw [← hL]; exact next_none _
    have dead : ∀ a, L ≤ a → s'.heap.get? a = none := fun a ha => by
      cases e : s'.heap.get? a with
      | none => rfl
      | some o => exact absurd (Heap.lt_size e) (by rw [hL]; exact Nat.not_lt.mpr ha)
    have hcd : ∀ p ∈ cellsFrom (L + 1) fd.scope.names [], s'.heap.get? p.2 = none := fun p hp => dead _ (Nat.le_of_lt (habove p.1 p.2 hp))
    have hlk : ∀ {l : List (Str × Addr)}, (l.map (·.1)).Nodup → ∀ p ∈ l, l.lookup p.1 = some p.2 := by
      intro l
      induction l with
      | nil => intro _ p hp; cases hp
      | cons q l ih =>
        intro hn p hp
        rw [List.map_cons, List.nodup_cons] at hn
        rcases List.mem_cons.mp hp with rfl | hp
        · rw [List.lookup_cons]; simp
        · have : (p.1 == q.1) = false := by
            rw [beq_eq_false_iff_ne]
            intro e; exact hn.1 (e ▸ List.mem_map_of_mem (f := (·.1)) hp)
          rw [List.lookup_cons, this]; exact ih hn.2 p hp
    have fresh : ∀ a ∈ (callEnvC fd L f).locals :: ((callEnvC fd L f).cells.map (·.2) ++ []), s'.heap.get? a = none := by
      intro a ha
      rcases List.mem_cons.mp ha with rfl | ha
      · exact hLn
      · rw [List.append_nil] at ha
        obtain ⟨p, hp, rfl⟩ := List.mem_map.mp ha
        exact hcd p hp
    have mv : Mv av s'.heap (avOf (callEnvC fd L f) [] av) h₁ := fun a o hs ha e => ⟨fun hm => by
      rcases av_md hm with h | h
      · rw [fresh a h] at e; cases e
      · exact ha h, keep a o e⟩
    have hzn : ((ns.zip Vs).map (·.1)).Nodup := by rw [zip_fst hlen]; exact (List.nodup_append.mp hn).1
    have has : ∀ p ∈ ns.zip Vs, Has (callEnvC fd L f) h₁ p.1 p.2 := by
      rintro ⟨y, V⟩ hp
      rcases hkind L y (List.of_mem_zip hp).1 with h | ⟨h, hc⟩
      · exact .loc (env := callEnvC fd L f) h hns (bindL_get hzn h (.inl hp))
      · obtain ⟨c, hc⟩ := Option.isSome_iff_exists.mp hc
        refine .cell (env := callEnvC fd L f) h hc ?_
        have h1 := hcell y c hc
        rw [bindC_get hzn (by show fd.scope.names.lookup y ≠ some .local; rw [h]; decide) (.inl hp)] at h1
        exact h1
    exact {
      ok := ⟨hk, hglob, hblt⟩
      base := hB
      keep := keep
      hold := ⟨[], Hold.init has (y.mv mv) hl, fun a ha => (by cases ha), List.nodup_nil⟩
      ns := ⟨_, hns⟩
      cells := fun p hp => ⟨_, hcell p.1 p.2 (hlk (hcn L) p hp)⟩
      inj := fun a b c h1 h2 => PySem.name_of_addr hap (mem_of_lookup h1) (mem_of_lookup h2)
      fresh := fresh
      old := fun a ha => let ⟨o, e⟩ := hal a ha; ⟨o, kp kk a o e⟩
      osA := fun a ha => by cases ha
      ap := fun a ha => by cases ha
      names := by
        unfold inits
        rw [List.map_append, List.map_map, List.map_map]
        have e1 : ((fun p : Str × Sl => p.1) ∘ fun p : Str × PyData => (p.1, Sl.v p.2)) = (·.1) := rfl
        have e2 : ((fun p : Str × Sl => p.1) ∘ fun y : Str => (y, Sl.no)) = id := rfl
        rw [e1, e2, List.map_id, zip_fst' hl]
        exact hn }


set_option maxRecDepth 100000 in
theorem bind_init {s : Shared} (nm ql : Str) (body : List Stmt) (sc : Scope) (kV doc pm : Value) (an : Option Addr) (cd ct : Value) {T0 : Addr} {o : Obj} {n : Nat} (ho : s.heap.get? T0 = some o) (hs : o.data = .seq #[.none] n) (a : Value) :
    BindsTo s (fnOf nm ql (mArgs 0) body sc (.ref T0) kV doc pm an cd ct) ⟨[a], []⟩ [("self", a), ("headers", .none)] :=
  BindsTo.of_defaults rfl ho hs (by with_unfolding_all rfl) (by with_unfolding_all rfl)
theorem PN.iteF {t x y : Expr} {pos : Pos} {b : Bool} {kk : Ow} (h : PT prog w k env B ρ t b) (hb : b = false) (h2 : PN prog w k env B ρ y kk) : PN prog w k env B ρ (.IfExp t x y pos) kk := by
  constructor
  intro A os av s hA r
  refine wpAny_IfExp (wpAny_mono (h.out A os av s hA r) (fun c s₁ p => ?_) fun _ _ e => e)
  obtain ⟨rfl, p⟩ := p
  rw [if_neg (by rw [hb]; decide)]
  refine wpAny_mono (h2.out A os av s₁ hA (r.keeps p)) (fun V s₂ q => ?_) fun _ _ e => e
  obtain ⟨a, rfl, ha, ho, kk⟩ := q
  exact ⟨a, rfl, kp_none p ha, ho, kp_trans p kk⟩
theorem CmpR.isNotNN : CmpR prog w k .IsNot .none .none false := by
  constructor
  intro A av s V W hA x y
  obtain rfl := x.none_inv
  obtain rfl := y.none_inv
  exact fun _ _ _ => ⟨rfl, kp_refl s⟩
theorem PT.tyNotListO {x y z : Str} {px py pz pos cpos : Pos} {its : List PyData} (i : Nat) (hi : ρ[i]? = some (z, .o (.lst its))) (g : BI B x (.type "type")) (hk : env.kindOf x = some .globalImplicit) (g' : BI B y (.type "list")) (hk' : env.kindOf y = some .globalImplicit)
    (hd : (x == ("__debug__" : Str)) = false := by decide) (hd' : (y == ("__debug__" : Str)) = false := by decide) (hdz : (z == ("__debug__" : Str)) = false := by decide) (hm : behindInMarks .IsNot (.Name y py) = false := by with_unfolding_all rfl) :
    PT prog w k env B ρ (.Compare (.Call (.Name x px) [.Name z pz] [] cpos) [.IsNot] [.Name y py] pos) false := by
  constructor
  intro A os av s hA r
  obtain ⟨V, as, hv, ho, _⟩ := r.hold.own hi
  cases ho with
  | @lst a _ Vs b c =>
    refine wpAny_isTrue_Compare1 (Call_ (wpAny_NameB r.ok hk g r.base (PyProof.Rows.callWith_type1 (args_cons (wpAny_NameHas r.ok.kind hv (args_nil ?_) hdz) (star_one rfl)) (star_one rfl)) hd) call_name) hm
    refine call_type_of (Tx := "list") b.isList.typeIs (by decide) (wpAny_NameB r.ok hk' g' r.base (wpAny_isNot_self rfl ?_) hd')
    exact wpAny_truthy_bool ⟨rfl, kp_refl s⟩
theorem Has.fn {h : Heap} {x : Str} {V W : Value} (h1 : Has env h x V) (hv' : Has env h x W) : V = W := by
  cases h1 with
  | loc p q r =>
    cases hv' with
    | loc p' q' r' => have := q.agree q' x; rw [r, r'] at this; cases this; rfl
    | cell p' q' r' => rw [p] at p'; cases p'
    | free p' q' r' => rw [p] at p'; cases p'
  | cell p q r =>
    cases hv' with
    | loc p' q' r' => rw [p] at p'; cases p'
    | cell p' q' r' =>
      rw [q] at q'; cases q'
      obtain ⟨o, e1, e2⟩ := r
      obtain ⟨o', e1', e2'⟩ := r'
      rw [e1] at e1'; cases e1'; rw [e2] at e2'; cases e2'; rfl
    | free p' q' r' => rw [p] at p'; cases p'
  | free p n q r =>
    cases hv' with
    | loc p' q' r' => rw [p] at p'; cases p'
    | cell p' q' r' => rw [p] at p'; cases p'
    | free p' n' q' r' =>
      rw [q] at q'; cases q'
      obtain ⟨o, e1, e2⟩ := r
      obtain ⟨o', e1', e2'⟩ := r'
      rw [e1] at e1'; cases e1'; rw [e2] at e2'; cases e2'; rfl
theorem set_first {A : Around} {T d : Addr} {V : Value} {Q : Unit → Shared → Prop} {E : Value → Shared → Prop} (H : HC B C K T0 fi fc fg ft fa pN pV cN cV) (hB : ∀ b o, B.get? b = some o → s.heap.get? b = some o) (hT : s.heap.get? T = some (instObj C d)) (hd : s.heap.get? d = some emptyDict)
    (h : ∀ h' tk e n, Heap.SameBut d s.heap h' → e.key.isStr "_headers" = true → e.val = V → h'.get? d = some (dictOf [e] n) → Q () { s with heap := h', toks := tk }) : wpAny (model prog w) A (setAttr (.ref T) "_headers" V) Q E s := by
  have X := H.inB.keeps hB
  have I : InstAt s.heap T (instObj C d) C (some emptyDict) := ⟨hT, rfl, rfl, hd⟩
  have ht : takerIn K C "_headers" = some none := by unfold takerIn; rw [H.nh]; rfl
  obtain ⟨cd, hc, hd'⟩ := H.cd
  refine set_plain X I H.sa (osa_open (s := { s with toks := s.toks + 1 }) X I H.po ht fun b => ?_)
  refine wpAny_bind (wpAny_pure (wpAny_bind (wpAny_bind (wpAny_loadPart hT (wpAny_bind (Looks.here (s := { s with toks := s.toks + 1 }) (looks_clsIn X hc) ?_))))))
  rw [hd']
  refine wpAny_pure (a := some d) (wpAny_bind (wpAny_pure (wpAny_bind ?_)))
  unfold nsSet
  refine wpAny_bind (wpAny_bind (wpAny_askSetting (wpAny_pure (wpAny_bind (wpAny_mkText (wpAny_bind (wpAny_loadPart hd ?_)))))))
  dsimp only
  rw [aRefKeyMayBeTheName_at]
  have c : (!(#[] : Array DictEntry).any (·.key.isStr "_headers") && (#[] : Array DictEntry).any (·.refKey)) = false := by simp
  rw [c]
  have hput : ∀ hsh key, Obj.putName "_headers" hsh key V emptyDict = dictOf [⟨hsh, key, V⟩] 1 := fun hsh key => putName_dict "_headers" hsh key V [] 0
  refine wpAny_updatePart hd ?_
  have D' := Heap.get?_update_self (Obj.putName "_headers" (PyData.keyHash w.params "_headers") (.str "_headers" (s.toks + 1)) V) hd (by rw [hput]; rfl)
  rw [hput] at D'
  refine wpAny_bind (wpAny_lookBehind D' (pastItsLine_dict (by rw [List.size_toArray, sizeLine_eq]; simp)) ?_)
  exact wpAny_pure (h _ _ _ _ (Heap.SameBut.update ..) (by show (Str.ofString "_headers" == Str.ofString "_headers") = true; decide) rfl D')
theorem un_typeCall {k : Nat} {A : Around} {C : Addr} (x : OkA (k + 1) A) : OkA k (A.under (.builtin "type.__call__" ⟨[.ref C], []⟩)) :=
  ⟨x.hh, by have := x.depth; show A.depth + 1 + k ≤ 600; omega, by
    have := x.units
    have h : (A.under (.builtin "type.__call__" ⟨[.ref C], []⟩)).units ≤ A.units + 4 := by show A.units + _ ≤ A.units + 4; exact Nat.add_le_add_left (Nat.le_of_ble_eq_true rfl) _
    omega⟩
set_option maxRecDepth 100000 in
theorem init_code (H : HC B C K T0 fi fc fg ft fa pN pV cN cV) {T d : Addr} (hT : s.heap.get? T = some (instObj C d)) (hd : s.heap.get? d = some emptyDict) (hTd : T ≠ d) (hBd : B.get? d = none) {A : Around} (hA : OkA 1 A) (hB : ∀ b o, B.get? b = some o → s.heap.get? b = some o)
    {R : Result → Shared → Prop} (hR : ∀ s' l, Up s s' → (∀ b o, b ≠ d → s.heap.get? b = some o → s'.heap.get? b = some o) → HO s'.heap C T d l → s'.heap.PlainList l #[] → s.heap.get? l = none → R (.ok (.ret .none)) s') :
    codeAny (model prog w) A (.call (.ref fi) ⟨[.ref T], []⟩) R s := by
  obtain ⟨o, pm, cd, doc, an, kV, ct, ho, hdt, hcr⟩ := H.mi.o
  obtain ⟨oT, nT, hoT, hsT⟩ := H.df
  have hal : ∀ a ∈ [T, d], ∃ o, s.heap.get? a = some o := fun a ha => by
    simp only [List.mem_cons, List.not_mem_nil, or_false] at ha
    rcases ha with rfl | rfl
    · exact ⟨_, hT⟩
    · exact ⟨_, hd⟩
  refine fn_enterC (k := 0) (ns := ["self", "headers"]) (rest := ["k", "v"]) (av := [T, d]) (Q := fun V s' => V = .none ∧ ∃ l, Up s s' ∧ (∀ b o, b ≠ d → s.heap.get? b = some o → s'.heap.get? b = some o) ∧ HO s'.heap C T d l ∧ s'.heap.PlainList l #[] ∧ s.heap.get? l = none) (fun V s' q => by obtain ⟨rfl, l, a, b, c, d, e⟩ := q; exact hR s' l a b c d e)
    (hB _ _ ho) hdt (H.lim.keeps hB) (hcr.keeps hB) rfl rfl rfl rfl (kind_loc (scope := mScope 0) (by decide +kernel)) (by decide +kernel) (fun L => List.nodup_nil) hA hal ?_ rfl rfl rfl
  refine bind_init _ _ _ _ _ _ _ _ _ _ (hB _ _ hoT) hsT _ _ _ _ _ ⟨kp_refl s, [.ref T, .none], [hnd T, .none], rfl, rfl, .cons .ref (.cons .none .nil), fun L h₁ tk hL X => ?_⟩
  have H' : HC (s.heap.hide d) C K T0 fi fc fg ft fa pN pV cN cV := H.keeps fun b o e => hide_of (fun q => by rw [q, hBd] at e; cases e) (hB _ _ e)
  have Y := X (s.heap.hide d) fun _ _ e => Heap.of_hide e
  clear X
  refine wpAny_execs_cons (wpAny_mono ((S1.own (k := 0) 1 (PN.iteF (PT.cmp (PE.var 1 rfl) PE.nn CmpR.isNotNN) rfl (PN.list PAs.nil)) rfl (.inl rfl) : P1 prog w 0 _ _ _ _ (.nx [("self", .v (hnd T)), ("headers", .o (.lst [])), ("k", .no), ("v", .no)])).out _ _ [T, d] [] _ hA.deeper Y) (fun f s₁ p => ?_) fun _ _ e => e)
  obtain ⟨u1, rfl, os1, X1⟩ := p
  refine wpAny_execs_cons (wpAny_mono ((P1.skip (PT.tyNotListO (k := 0) 1 rfl H'.bty rfl H'.bls rfl) rfl : P1 prog w 0 _ _ _ _ (.nx [("self", .v (hnd T)), ("headers", .o (.lst [])), ("k", .no), ("v", .no)])).out _ _ [T, d] os1 _ hA.deeper X1) (fun f s₂ p => ?_) fun _ _ e => e)
  obtain ⟨u2, rfl, os2, X2⟩ := p
  obtain ⟨l, Vs, hv2, ⟨n, hl2⟩, hy2, hlm, _⟩ := X2.own (i := 1) (x := "headers") rfl
  obtain rfl := hy2.nil_inv
  have hls : s.heap.get? l = none := X2.fresh l (.tail _ (List.mem_append_right _ hlm))
  obtain ⟨os3, X3⟩ := X2.freeze (i := 1) rfl
  obtain ⟨o₁, r3, _⟩ := X3.R
  obtain ⟨V, hv, hr⟩ := r3.hold.at (i := 1) (x := "headers") (d := .list []) rfl
  obtain rfl := Has.fn hv2 hv
  obtain ⟨l', vs', n', hll, hlav, _, _⟩ := hr.list_inv
  cases hll
  have X4 := X3.seal
  have hseal : ∀ b o, s.heap.get? b = some o → (if b ∈ (callEnvC (fnOf "__init__" "Headers.__init__" (mArgs 0) (mBody 0) (mScope 0) (.ref T0) kV doc pm an cd ct) L fi).locals :: ((callEnvC (fnOf "__init__" "Headers.__init__" (mArgs 0) (mBody 0) (mScope 0) (.ref T0) kV doc pm an cd ct) L fi).cells.map (·.2) ++ os3) then none else s₂.heap.get? b) = some o := fun b o e => by
    rw [if_neg (fun hm => by rw [X3.fresh b hm] at e; cases e)]; exact X3.keep b o e
  have hlF : (if l ∈ (callEnvC (fnOf "__init__" "Headers.__init__" (mArgs 0) (mBody 0) (mScope 0) (.ref T0) kV doc pm an cd ct) L fi).locals :: ((callEnvC (fnOf "__init__" "Headers.__init__" (mArgs 0) (mBody 0) (mScope 0) (.ref T0) kV doc pm an cd ct) L fi).cells.map (·.2) ++ os3) then none else s₂.heap.get? l) = some (lobj #[] n) := by
    rw [if_neg (fun hm => hlav (mem_md hm))]; exact hl2
  obtain ⟨VT, hvT, hrT⟩ := r3.hold.at (i := 0) (x := "self") (d := hnd T) rfl
  obtain rfl := hrT.ref_inv
  have hk2 : ∀ b o, s.heap.get? b = some o → s₂.heap.get? b = some o := fun b o e => X3.keep b o e
  refine wpAny_execs_cons (plainObj_wpAny_Assign_Attribute (wpAny_NameHas r3.ok.kind hv (wpAny_NameHas r3.ok.kind hvT (set_first H (fun b o e => hk2 _ _ (hB _ _ e)) (hk2 _ _ hT) (hk2 _ _ hd) fun h' tk' e ne hs he1 he2 he3 => ?_))) rfl)
  have kb₁ : Kb [d] s₂ { s₂ with heap := h', toks := tk' } := ⟨h', tk', rfl, fun b o hb e => (hs.2 b (by simpa using hb)).trans e⟩
  have X5 := X4.stepR kb₁ (fun a ha => by simp at ha; subst ha; simp) (fun b hb => by simp at hb; subst hb; exact Heap.hide_self _ _) (fun b hb => by simp at hb; subst hb; exact ⟨_, he3⟩)
  refine wpAny_execs_cons (wpAny_mono (P1.out (o := .nx [("self", .v (hnd T)), ("headers", .v (.list [])), ("k", .no), ("v", .no)]) ?st4 _ _ [T, d] os3 _ hA.deeper X5) (fun f s₆ p => ?_) fun _ _ e => e)
  case st4 => exact P1.iteT (PT.val PE.bool TruR.bool) rfl (PS.cons (P1.for (xs := []) (fun _ => [("self", .v (hnd T)), ("headers", .v (.list [])), ("k", .no), ("v", .no)]) (PI.list (PE.var 1 rfl) (by decide) (.inr ⟨_, _, _, rfl, fun d hd => by cases hd⟩)) (fun i d hd => by simp at hd)) PS.nil)
  obtain ⟨u6, rfl, os6, X6⟩ := p
  have k6 : ∀ b o, b ≠ d → s.heap.get? b = some o → s₆.heap.get? b = some o := fun b o hb e => X6.keep b o (by rw [if_neg (by simpa using hb)]; exact hseal b o e)
  have hld : l ≠ d := fun q => by rw [q, hd] at hls; cases hls
  refine wpAny_execs_nil ⟨rfl, l, ?_, k6, ⟨k6 _ _ hTd hT, e, ne, he1, he2, X6.keep d _ (by rw [if_pos (by simp)]; exact he3)⟩, ⟨n, X6.keep l _ (by rw [if_neg (by simpa using hld)]; exact hlF)⟩, hls⟩
  exact up_trans ⟨h₁, tk, rfl⟩ (up_trans u1 (up_trans u2 (up_trans (kb_up kb₁) u6)))
end
end Mine
end
section
open PySem PySem.W PyProof.Rows
set_option linter.unusedVariables false
namespace Mine
section
variable {env : Env} {B : Heap} {F : Fp} {av₀ av : List Addr} {ρ ρ' : Vs} {os : List Addr} {s : Shared} {prog : Program} {w : World} {k : Nat}
variable {C T0 fi fc fg ft fa pN pV : Addr} {K : Frag} {cN cV : Array Nat}
theorem Has.kept {h h' : Heap} {x : Str} {V : Value} {l : Addr} (H : Has env h x V) (hk : ∀ b o, b ≠ l → h.get? b = some o → h'.get? b = some o) (hL : l ≠ env.locals) (hC : ∀ p ∈ env.cells, l ≠ p.2) : Has env h' x V := by
  cases H with
  | loc a b c => exact .loc a (b.at' fun o e => hk _ o (Ne.symm hL) e) c
  | cell a b c => obtain ⟨o, e, d⟩ := c; exact .cell a b ⟨o, hk _ o (Ne.symm (hC _ (mem_of_lookup b))) e, d⟩
  | free a g b c => obtain ⟨o, e, d⟩ := c; exact .free a g b ⟨o, hk _ o (Ne.symm (hC _ (mem_of_lookup b))) e, d⟩
theorem OwR.hdr_inv {its : List (Str × Str)} {V : Value} {as : List Addr} {h : Heap} (x : OwR av h (.hdr C its) V as) : ∃ T d l ts, V = .ref T ∧ as = [T, d, l] ∧ HO h C T d l ∧ h.PlainList l (ts.map Value.ref).toArray ∧ HIts av h its ts := by
  cases x with
  | hdr a b c d e f => exact ⟨_, _, _, _, rfl, rfl, ⟨a, _, _, b, c, d⟩, e, f⟩
theorem OwR.hdr_of {its : List (Str × Str)} {T d l : Addr} {ts : List Addr} {h : Heap} (O : HO h C T d l) (hl : h.PlainList l (ts.map Value.ref).toArray) (hi : HIts av h its ts) : OwR av h (.hdr C its) (.ref T) [T, d, l] :=
  let ⟨e, n, a, b, c⟩ := O.d; .hdr O.t a b c hl hi
theorem HIts.of_vrs {h : Heap} : ∀ {its : List (Str × Str)} {ts : List Addr}, VRs av h (its.map tupD) (ts.map .ref) → HIts av h its ts
  | [], ts, y => by
    have := y.nil_inv
    cases ts with
    | nil => exact .nil
    | cons _ _ => cases this
  | p :: its, ts, y => by
    obtain ⟨V, Vs', e, r, q⟩ := VRs.cons_inv y
    cases ts with
    | nil => cases e
    | cons t ts =>
      rw [List.map_cons, List.cons.injEq] at e
      obtain ⟨rfl, rfl⟩ := e
      obtain ⟨a, vs, n, h1, ha, e, hv⟩ := r.tuple_inv
      cases h1
      obtain ⟨V1, V2, hvs, r1, r2⟩ := hv.two
      obtain ⟨t1, rfl⟩ := r1.str_inv
      obtain ⟨t2, rfl⟩ := r2.str_inv
      have : vs = #[.str p.1 t1, .str p.2 t2] := by apply Array.toList_inj.mp; simpa using hvs
      subst this
      exact .cons ha e (HIts.of_vrs q)

theorem St.mvL {s' : Shared} {as : List Addr} (X : St env B F av₀ ρ os s) (k : Keeps s s') (ha : ∀ a ∈ as, s.heap.get? a = none) : Mv (avOf env os av₀) s.heap (avOf env (as ++ os) av₀) s'.heap := fun b o _ hb e => by
  refine ⟨fun hm => ?_, kp k b o e⟩
  have : b ∉ as := fun q => by rw [ha b q] at e; cases e
  simp only [avOf, List.mem_cons, List.mem_append] at hm hb
  rcases hm with h | h | (h | h) | h
  · exact hb (.inl h)
  · exact hb (.inr (.inl h))
  · exact this h
  · exact hb (.inr (.inr (.inl h)))
  · exact hb (.inr (.inr (.inr h)))
/-- new objects are taken as one's own -/
theorem St.growL {s' : Shared} {as : List Addr} (X : St env B F av₀ ρ os s) (k : Keeps s s') (ha : ∀ a ∈ as, s.heap.get? a = none) (hA : ∀ a ∈ as, ∃ o, s'.heap.get? a = some o) : St env B F av₀ ρ (as ++ os) s' := by
  have mv := X.mvL k ha
  exact {
    ok := X.ok
    base := X.base
    keep := fun b o e => kp k b o (X.keep b o e)
    hold := let ⟨o₁, H, x, y⟩ := X.hold; ⟨o₁, H.move mv (fun p _ W q => q.keeps (kp k)) (fun a _ o e => kp k a o e), fun a h => List.mem_append_right _ (x a h), y⟩
    ns := let ⟨m, h⟩ := X.ns; ⟨m, h.keeps (kp k)⟩
    cells := fun p hp => let ⟨m, h⟩ := X.cells p hp; ⟨m, h.keeps (kp k)⟩
    inj := X.inj
    fresh := fun b hb => by
      simp only [List.mem_cons, List.mem_append] at hb
      rcases hb with h | h | h | h
      · exact X.fresh b (by simp [h])
      · exact X.fresh b (by rw [List.mem_cons, List.mem_append]; exact .inr (.inl h))
      · exact X.F_none (ha b h)
      · exact X.fresh b (by rw [List.mem_cons, List.mem_append]; exact .inr (.inr h))
    old := X.old
    osA := fun b hb => by
      rcases List.mem_append.mp hb with hb | hb
      · exact hA b hb
      · obtain ⟨o, e⟩ := X.osA b hb; exact ⟨o, kp k b o e⟩
    ap := fun b hb => by
      rcases List.mem_append.mp hb with hb | hb
      · refine ⟨?_, fun p hp => ?_⟩
        · rintro rfl
          obtain ⟨m, n⟩ := X.ns
          obtain ⟨o, e⟩ := Ns.alive n
          rw [ha _ hb] at e; cases e
        · rintro rfl
          obtain ⟨v, q⟩ := X.cells p hp
          obtain ⟨o, e⟩ := IsCell.alive q
          rw [ha _ hb] at e; cases e
      · exact X.ap b hb
    names := X.names }
/-- storing a new thing of one's own -/
theorem St.putL {A : Around} {i : Nat} {x : Str} {sl : Sl} {V : Value} {as : List Addr} {kk : Ow} {s₀ : Shared} (X₀ : St env B F av₀ ρ os s₀) (kp₀ : Keeps s₀ s) (ha : ∀ a ∈ as, s₀.heap.get? a = none) (hnd : as.Nodup)
    (e : ρ[i]? = some (x, sl)) (hk : Stor env x) (b : OwR (avOf env (as ++ os) av₀) s.heap kk V as) :
    wpAny (model prog w) A (storeName env x V) (fun _ s' => Up s s' ∧ St env B F av₀ (ρ.set i (x, .o kk)) (as ++ os) s') (fun _ _ => False) s := by
  have X := X₀.growL kp₀ ha b.alive
  obtain ⟨o₁, H₀, ho₀, hn⟩ := X₀.hold
  have H := H₀.move (X₀.mvL kp₀ ha) (fun p _ W q => q.keeps (kp kp₀)) (fun a _ o e => kp kp₀ a o e)
  have ho : ∀ c ∈ o₁, c ∈ as ++ os := fun c h => List.mem_append_right _ (ho₀ c h)
  have hna : ∀ a ∈ as, a ∉ o₁ := fun a h hm => by obtain ⟨o, q⟩ := H₀.alive a hm; rw [ha a h] at q; cases q
  obtain ⟨m, n⟩ := X.ns
  have fin : ∀ h' c, Heap.SameBut c s.heap h' → c ∈ avOf env (as ++ os) av₀ → (∀ d ∈ o₁, d ≠ c) → (∀ a ∈ as, a ≠ c) → (∀ y W, y ≠ x → Has env s.heap y W → Has env h' y W) → Has env h' x V →
      ∃ o₂, Hold env (avOf env (as ++ os) av₀) h' (ρ.set i (x, .o kk)) o₂ ∧ (∀ d ∈ o₂, d ∈ as ++ os) ∧ o₂.Nodup := by
    intro h' c hs hc hoc hac f hx
    have mv : Mv (avOf env (as ++ os) av₀) s.heap (avOf env (as ++ os) av₀) h' := fun d o _ hd e => ⟨hd, (hs.2 d (by rintro rfl; exact hd hc)).trans e⟩
    obtain ⟨l, bs, r, rfl, _, q⟩ := H.store (as' := as) X.names e f mv (fun l as r e' _ d hd o e => (hs.2 d (hoc d (by subst e'; simp at hd ⊢; rcases hd with hd | hd <;> simp [hd]))).trans e)
      (.o hx (b.mv mv fun d hd o e => (hs.2 d (hac d hd)).trans e))
    refine ⟨_, q, fun d hd => ?_, ?_⟩
    · simp only [List.mem_append] at hd
      rcases hd with hd | hd | hd
      · exact ho d (by simp [hd])
      · exact List.mem_append_left _ hd
      · exact ho d (by simp [hd])
    · have hm := nodup_mid hn
      rw [List.nodup_append] at hm ⊢
      refine ⟨hm.1, ?_, fun x hx y hy => ?_⟩
      · rw [List.nodup_append]
        exact ⟨hnd, hm.2.1, fun x hx y hy hxy => hna x hx (by simp [hxy, hy])⟩
      · rcases List.mem_append.mp hy with hy | hy
        · intro hxy; exact hna y hy (by simp [← hxy, hx])
        · exact hm.2.2 _ hx y hy
  have hown : ∀ a ∈ o₁, a ≠ env.locals ∧ ∀ p ∈ env.cells, a ≠ p.2 := fun a ha => X.ap a (ho a ha)
  have hoa : ∀ a ∈ as, a ≠ env.locals ∧ ∀ p ∈ env.cells, a ≠ p.2 := fun a ha => X.ap a (List.mem_append_left _ ha)
  rcases hk with hk | ⟨hk, c, hc⟩
  · refine wpAny_storeName_local hk n (fun h' n' hs => ⟨⟨_, _, rfl⟩, X.at1 hs (.head _) ?_ ⟨_, n'⟩ (fun p hp => ?_) (Ns.alive n') ?_⟩) (by rw [X.ok.kind]; rfl)
    · exact fin h' _ hs St.locals_mem (fun a ha => (hown a ha).1) (fun a ha => (hoa a ha).1) (fun y W hy => Has.stLocal n n' hs hy) (.loc hk n' (if_pos rfl))
    · obtain ⟨v, q⟩ := X.cells p hp
      exact ⟨v, q.sameBut hs (Ne.symm (ns_ne_cell n q))⟩
    · rw [map_set e]; exact X.names
  · obtain ⟨v, q⟩ := X.cells _ (mem_of_lookup hc)
    refine wpAny_storeName_cell X.ok.kind hk hc q fun h' q' hs => ⟨⟨_, _, rfl⟩, X.at1 (tk := s.toks) hs (.tail _ (List.mem_append_left _ (List.mem_map_of_mem (f := (·.2)) (mem_of_lookup hc)))) ?_ ⟨_, n.sameBut hs (ns_ne_cell n q)⟩ (fun p hp => ?_) (IsCell.alive q') ?_⟩
    · exact fin h' _ hs (St.cell_mem hc) (fun a ha => (hown a ha).2 _ (mem_of_lookup hc)) (fun a ha => (hoa a ha).2 _ (mem_of_lookup hc)) (fun y W hy => Has.sameBut hs (ns_ne_cell n q) fun d v _ hd => by rintro rfl; exact hy (X.inj _ _ _ hd hc)) (.cell hk hc q')
    · obtain ⟨v', z⟩ := X.cells p hp
      by_cases hpc : p.2 = c
      · rw [hpc]; exact ⟨_, q'⟩
      · exact ⟨v', z.sameBut hs hpc⟩
    · rw [map_set e]; exact X.names
theorem P1.setPair (i j : Nat) {x y : Str} {px py pos tpos : Pos} {z} {sl sl' : Sl} {e : Expr} {a b : PyData} (he : PE prog w k env B ρ e (.tuple [a, b])) (hi : ρ[i]? = some (x, sl)) (hk : Stor env x) (hj : (ρ.set i (x, .v a))[j]? = some (y, sl')) (hk' : Stor env y) (h : (ρ.set i (x, .v a)).set j (y, .v b) = ρ' := by rfl)
    (hs : swapsWithSole [.Tuple [.Name x px, .Name y py] z tpos] e pos.line env = pure false := by rfl) (hw : swappedStores [.Tuple [.Name x px, .Name y py] z tpos] e env = pure none := by rfl) :
    P1 prog w k env B ρ (.Assign [.Tuple [.Name x px, .Name y py] z tpos] e pos) (.nx ρ') := by
  subst h
  constructor
  intro A F av₀ os s hA X
  refine PyProof.Rows.Assign_Tuple (wpAny_mono (he.st hA X) (fun V s₁ p => ?_) fun _ _ e => e) hs hw
  exact wpAny_mono ((Tg.pair i j hi hk hj hk' : Tg prog w env B (.Tuple [.Name x px, .Name y py] z tpos) (.tuple [a, b]) ρ _).out A F av₀ os s₁ V hA.hh (X.keeps p.2) p.1) (fun _ s₂ q => ⟨up_trans (up_kp p.2) q.1, rfl, _, q.2⟩) fun _ _ e => e
theorem P1.headers (i : Nat) {x : Str} {px pf cpos pos : Pos} {sl : Sl} (H : HC B C K T0 fi fc fg ft fa pN pV cN cV) (hkf : env.kindOf "Headers" = some .globalImplicit) (hi : ρ[i]? = some (x, sl)) (hk : Stor env x) (h : ρ.set i (x, .o (.hdr C [])) = ρ' := by rfl) :
    P1 prog w (k + 2) env B ρ (.Assign [.Name x px] (.Call (.Name "Headers" pf) [] [] cpos) pos) (.nx ρ') := by
  subst h
  constructor
  intro A F av₀ os s hA X
  have hB : ∀ b o, B.get? b = some o → s.heap.get? b = some o := fun b o e => X.keep b o (X.base b o e)
  refine wpAny_Assign_Name (Call_ (wpAny_NameG X.ok hkf H.gC hB (callWith_K0 (H.inB.keeps hB) H.keepC (wpAny_call ?_))) call_name) rfl
  obtain ⟨hp, g, dr, t, ost⟩ := s
  have XK : K.In hp := H.inB.keeps hB
  refine make_core (makes_of XK H.makes) (looks_findIn XK H.mi.find) (fun self => bind_fn XK self H.mi.ty) (.inl rfl) ?_
  have k₁ : Keeps (⟨hp, g, dr, t, ost⟩ : Shared) ⟨(hp.push emptyDict).push (instObj C hp.objs.size), g, dr, t, ost⟩ := ⟨_, t, rfl, fun b o e => Heap.get?_push_of_some _ (Heap.get?_push_of_some _ e)⟩
  have hd : ((hp.push emptyDict).push (instObj C hp.objs.size)).get? hp.objs.size = some emptyDict := Heap.get?_push_of_some _ (Heap.get?_push_size _ rfl)
  have hT : ((hp.push emptyDict).push (instObj C hp.objs.size)).get? (hp.objs.size + 1) = some (instObj C hp.objs.size) := by rw [← Heap.size_push hp emptyDict]; exact Heap.get?_push_size _ rfl
  have nd : hp.get? hp.objs.size = none := next_none hp
  have nT : hp.get? (hp.objs.size + 1) = none := by
    cases e : hp.get? (hp.objs.size + 1) with
    | none => rfl
    | some o => exact absurd (Heap.lt_size e) (Nat.not_lt.mpr (Nat.le_succ _))
  refine init_code H hT hd (Nat.succ_ne_self _) ?_ (un_typeCall (hA.mono (by omega))) (fun b o e => kp k₁ _ _ (hB _ _ e)) fun s' l u hk' O hl hls => ?_
  · cases e : B.get? hp.objs.size with
    | none => rfl
    | some o => have := hB _ _ e; rw [nd] at this; cases this
  refine ⟨rfl, ?_⟩
  have kk : Keeps (⟨hp, g, dr, t, ost⟩ : Shared) s' := by
    obtain ⟨h', t', rfl⟩ := u
    exact ⟨h', t', rfl, fun b o e => hk' b o (by rintro rfl; rw [nd] at e; cases e) (kp k₁ _ _ e)⟩
  have nl : hp.get? l = none := kp_none k₁ hls
  have hlT : l ≠ hp.objs.size + 1 := fun e => by rw [e, hT] at hls; cases hls
  have hld : l ≠ hp.objs.size := fun e => by rw [e, hd] at hls; cases hls
  refine wpAny_mono (X.putL (as := [hp.objs.size + 1, hp.objs.size, l]) kk (fun a ha => ?_) ?_ hi hk (OwR.hdr_of (ts := []) O hl .nil)) (fun _ s₂ q => ⟨up_trans (up_kp kk) q.1, rfl, _, q.2⟩) fun _ _ e => e
  · simp only [List.mem_cons, List.not_mem_nil, or_false] at ha
    rcases ha with rfl | rfl | rfl
    · exact nT
    · exact nd
    · exact nl
  · simp [hlT.symm, hld.symm, Nat.succ_ne_self]

/-- the Headers object as a handle, with what is known of it -/
theorem R.open {i : Nat} {x : Str} {its : List (Str × Str)} (r : R env B ρ os av s) (hi : ρ[i]? = some (x, .o (.hdr C its))) :
    ∃ (T d l : Addr) (ts os' : List Addr), HO s.heap C T d l ∧ s.heap.PlainList l (ts.map Value.ref).toArray ∧ R env s.heap (("", .k (its.map tupD) (ts.map .ref)) :: ρ.set i (x, .v (hnd T))) os' av s := by
  obtain ⟨l₁, as, r₁, rfl, p, q, r'⟩ := r.hold.split hi
  cases q with
  | @o _ V _ hx b =>
    obtain ⟨T, d, l, ts, rfl, rfl, O, hl, hit⟩ := b.hdr_inv
    exact ⟨T, d, l, ts, _, O, hl, ⟨r.ok, fun _ _ e => e, .cons (as := []) (.k hit.vrs) (.join (lt_of_at hi) p (.v hx .ref) r'), r.alive⟩⟩
/-- within this frame the object is known -/
abbrev OpenAt (B B' : Heap) (C T d l : Addr) (ts : List Addr) : Prop := (∀ b o, B.get? b = some o → B'.get? b = some o) ∧ HO B' C T d l ∧ B'.PlainList l (ts.map Value.ref).toArray
theorem PE.hdr {i : Nat} {x : Str} {its : List (Str × Str)} {e : Expr} {dd : PyData} (hi : ρ[i]? = some (x, .o (.hdr C its)))
    (h : ∀ (B' : Heap) (T d l : Addr) (ts : List Addr), OpenAt B B' C T d l ts → PE prog w k env B' (("", .k (its.map tupD) (ts.map .ref)) :: ρ.set i (x, .v (hnd T))) e dd) : PE prog w k env B ρ e dd := by
  constructor
  intro A os av s hA r
  obtain ⟨T, d, l, ts, os', O, hl, r'⟩ := r.open hi
  exact (h s.heap T d l ts ⟨r.base, O, hl⟩).out A os' av s hA r'
theorem PT.hdr {i : Nat} {x : Str} {its : List (Str × Str)} {e : Expr} {b : Bool} (hi : ρ[i]? = some (x, .o (.hdr C its)))
    (h : ∀ (B' : Heap) (T d l : Addr) (ts : List Addr), OpenAt B B' C T d l ts → PT prog w k env B' (("", .k (its.map tupD) (ts.map .ref)) :: ρ.set i (x, .v (hnd T))) e b) : PT prog w k env B ρ e b := by
  constructor
  intro A os av s hA r
  obtain ⟨T, d, l, ts, os', O, hl, r'⟩ := r.open hi
  exact (h s.heap T d l ts ⟨r.base, O, hl⟩).out A os' av s hA r'
theorem PE.items {B' : Heap} {T d l : Addr} {ts : List Addr} {its : List (Str × Str)} {x g : Str} {px apos pos : Pos} (i j : Nat) (H : HC B C K T0 fi fc fg ft fa pN pV cN cV) (O : OpenAt B B' C T d l ts) (hi : ρ[i]? = some (x, .v (hnd T))) (hj : ρ[j]? = some (g, .k (its.map tupD) (ts.map .ref))) (hlen : its.length ≤ 1000)
    (hline : (apos.endLine == pos.line) = true := by rfl) (hd : (x == ("__debug__" : Str)) = false := by decide) :
    PE prog w (k + 1) env B' ρ (.Call (.Attribute (.Name x px) "items" apos) [] [] pos) (.list (its.map tupD)) := by
  constructor
  intro A os av s hA r
  have H' := H.keeps O.1
  refine Call_meth rfl rfl hline (wpAny_mono ((PE.var i hi hd : PE prog w k env B' ρ (.Name x px) (hnd T)).out A os av s (hA.mono (by omega)) r) (fun V s₁ q => ?_) fun _ _ e => e)
  obtain rfl := q.1.ref_inv
  have r₁ := r.keeps q.2
  intro pl
  refine meth_get H' H'.mt r₁.base (O.2.1.keeps r₁.base) (by decide) ?_
  refine callWith_K0 (H'.inB.keeps r₁.base) H'.mt.keep ?_
  have hl : s₁.heap.PlainList l (ts.map Value.ref).toArray := let ⟨n, e⟩ := O.2.2; ⟨n, r₁.base _ _ e⟩
  exact wpAny_mono (items_call H' (O.2.1.keeps r₁.base) hl (HIts.of_vrs (r₁.hold.kn hj)) hlen (hA.mono (by omega)) r₁.base r₁.alive) (fun V s₂ z => ⟨z.1, kp_trans q.2 z.2⟩) fun _ _ e => e
theorem PE.getall {B' : Heap} {T d l : Addr} {ts : List Addr} {its : List (Str × Str)} {x g nm : Str} {px apos pos : Pos} {e : Expr} (i j : Nat) (H : HC B C K T0 fi fc fg ft fa pN pV cN cV) (O : OpenAt B B' C T d l ts) (hi : ρ[i]? = some (x, .v (hnd T))) (hj : ρ[j]? = some (g, .k (its.map tupD) (ts.map .ref))) (hlen : its.length ≤ 1000)
    (he : PE prog w (k + 2) env B' ρ e (.str nm)) (hs : sNone cN (Txt.lower nm) = true) (hlow : (Txt.lower nm).length ≤ 16777216) (hlows : ∀ p ∈ its, (Txt.lower p.1).length ≤ 16777216)
    (hst : isStar e = false := by rfl) (hline : (apos.endLine == pos.line) = true := by rfl) (hd : (x == ("__debug__" : Str)) = false := by decide) :
    PE prog w (k + 2) env B' ρ (.Call (.Attribute (.Name x px) "get_all" apos) [e] [] pos) (.list ((its.filter (lowEq (Txt.lower nm))).map fun p => .str p.2)) := by
  constructor
  intro A os av s hA r
  have H' := H.keeps O.1
  refine Call_meth rfl (by rw [back_one hst]; rfl) hline (wpAny_mono ((PE.var i hi hd : PE prog w k env B' ρ (.Name x px) (hnd T)).out A os av s (hA.mono (by omega)) r) (fun V s₁ q => ?_) fun _ _ e => e)
  obtain rfl := q.1.ref_inv
  have r₁ := r.keeps q.2
  intro pl
  refine meth_get H' H'.mg r₁.base (O.2.1.keeps r₁.base) (by decide) ?_
  refine callWith_K (h₀ := B') H'.inB H'.mg.keep (wpAny_mono ((PAs.cons he .nil hst).out A os av s₁ pos hA r₁) (fun vs s₂ z => ?_) fun _ _ e => e) (star_one hst) rfl
  obtain ⟨V, rfl, zz⟩ := z.1.one
  obtain ⟨t, rfl⟩ := zz.str_inv
  have r₂ := r₁.keeps z.2
  have hl : s₂.heap.PlainList l (ts.map Value.ref).toArray := let ⟨n, e⟩ := O.2.2; ⟨n, r₂.base _ _ e⟩
  refine ⟨H'.inB.keeps r₂.base, ?_⟩
  exact wpAny_mono (getall_call H' (O.2.1.keeps r₂.base) hl (HIts.of_vrs (r₂.hold.kn hj)) hlen hs hlow hlows (hA.mono (by omega)) r₂.base r₂.alive) (fun V s₃ y => ⟨y.1, kp_trans q.2 (kp_trans z.2 y.2)⟩) fun _ _ e => e
end
end Mine
end
section
open PySem PySem.W PyProof.Rows
set_option linter.unusedVariables false
namespace Mine
section
variable {env : Env} {B : Heap} {F : Fp} {av₀ av : List Addr} {ρ ρ' : Vs} {os : List Addr} {s : Shared} {prog : Program} {w : World} {k : Nat}
variable {C T0 fi fc fg ft fa pN pV : Addr} {K : Frag} {cN cV : Array Nat}
theorem PN.iter {x : Str} {px pos : Pos} {e : Expr} {ds : List PyData} (g : BI B x (.builtin "iter")) (hk : env.kindOf x = some .globalImplicit) (he : PE prog w k env B ρ e (.list ds)) (hs : isStar e = false := by rfl) (hd : (x == ("__debug__" : Str)) = false := by decide) :
    PN prog w k env B ρ (.Call (.Name x px) [e] [] pos) (.itr ds) := by
  constructor
  intro A os av s hA r
  refine Call_ (wpAny_NameB r.ok hk g r.base (PyProof.Rows.callWith_builtin1 (wpAny_mono ((PAs.cons he .nil hs).out A os av s pos hA r) (fun Vs s₁ p => ?_) fun _ _ e => e) (star_one hs) rfl) hd) call_name
  obtain ⟨V, rfl, q⟩ := p.1.one
  obtain ⟨l, vs, n, rfl, hl, e, hv⟩ := q.list_inv
  refine Calls.call_function_entry (by decide +kernel) (by decide +kernel) kdk_entry_iter (kdk_args_iter _) ?_
  unfold Builtin.«iter»
  refine wpAny_bind (m := someArgs "iter" 1 2 _) (wpAny_of_eq (a := [Value.ref l]) (by first | rfl | kernel_rfl!) ?_)
  show wpAny _ _ (pyIter (.ref l) >>= _) _ _ _
  refine wpAny_bind (wpAny_pyIter_list (isList_of e) (wpAny_pure ⟨_, rfl, _, rfl, kp_none p.2 (next_none _), ?_, kp_trans p.2 (kp_push _ _)⟩))
  have hne : l ≠ s₁.heap.objs.size := fun h => by rw [h, next_none] at e; cases e
  refine .itr (l := l) (vs := vs) (n := n) (i := 0) (fun hm => ?_) ⟨_, Heap.get?_push_size _ rfl, rfl, rfl⟩ (Heap.get?_push_of_some _ e) ?_
  · rcases List.mem_cons.mp hm with h | h
    · exact hne h
    · exact hl h
  · rw [List.drop_zero]
    exact hv.grow (next_none _) fun _ _ e => Heap.get?_push_of_some _ e

/-- a thing of one's own is given up and changed -/
theorem St.lose {i : Nat} {x : Str} {kk : Ow} (X : St env B F av₀ ρ os s) (e : ρ[i]? = some (x, .o kk)) :
    ∃ V as, Has env s.heap x V ∧ OwR (avOf env os av₀) s.heap kk V as ∧ (∀ a ∈ as, a ∈ os) ∧
      ∀ h' tk, (∀ b o, b ∉ as → s.heap.get? b = some o → h'.get? b = some o) → ∃ os', (∀ a ∈ os', a ∈ os) ∧ St env B F av₀ (ρ.set i (x, .no)) os' { s with heap := h', toks := tk } := by
  obtain ⟨o₁, H, ho, hn⟩ := X.hold
  obtain ⟨m, n⟩ := X.ns
  obtain ⟨l, as, r, rfl, p, q, r'⟩ := H.split e
  cases q with
  | @o _ V _ hx b =>
    refine ⟨V, as, hx, b, fun a ha => ho a (by simp [ha]), fun h' tk hs => ?_⟩
    have hoa : ∀ a ∈ as, a ∈ os := fun a ha => ho a (by simp [ha])
    have hL : env.locals ∉ as := fun h => (X.ap _ (hoa _ h)).1 rfl
    have hC : ∀ p ∈ env.cells, p.2 ∉ as := fun p hp h => (X.ap _ (hoa _ h)).2 p hp rfl
    have f : ∀ y W, Has env s.heap y W → Has env h' y W := fun y W hh => by
      cases hh with
      | loc a b c => exact .loc a (b.at' fun o e => hs _ o hL e) c
      | cell a b c => obtain ⟨o, e, d⟩ := c; exact .cell a b ⟨o, hs _ o (hC _ (mem_of_lookup b)) e, d⟩
      | free a g b c => obtain ⟨o, e, d⟩ := c; exact .free a g b ⟨o, hs _ o (hC _ (mem_of_lookup b)) e, d⟩
    have sub : ∀ d, d ∈ avOf env (os.filter fun b => decide (b ∉ as)) av₀ → d ∈ avOf env os av₀ := fun d hd => by
      simp only [avOf, List.mem_cons, List.mem_append, List.mem_filter] at hd ⊢
      rcases hd with h | h | h | h
      · exact .inl h
      · exact .inr (.inl h)
      · exact .inr (.inr (.inl h.1))
      · exact .inr (.inr (.inr h))
    have mv : Mv (avOf env os av₀) s.heap (avOf env (os.filter fun b => decide (b ∉ as)) av₀) h' := fun d o _ hd e => ⟨fun hm => hd (sub d hm), hs d o (fun h => hd (St.os_mem (hoa d h))) e⟩
    have hn₀ := hn
    rw [List.nodup_append] at hn
    obtain ⟨hn1, hn2, hn3⟩ := hn
    rw [List.nodup_append] at hn2
    refine ⟨os.filter fun b => decide (b ∉ as), fun a ha => (List.mem_filter.mp ha).1, X.ok, X.base, fun d o ed => hs d o (fun h => ?_) (X.keep d o ed), ⟨l ++ ([] ++ r), .join (lt_of_at e) (.move mv (fun p hp W => f _ _) (fun d hd o e => hs d o (fun h => hn3 d hd d (by simp [h]) rfl) e) p) .no (.move mv (fun p hp W => f _ _) (fun d hd o e => hs d o (fun h => hn2.2.2 d h d hd rfl) e) r'), fun a ha => List.mem_filter.mpr ⟨ho a (by simp at ha ⊢; rcases ha with ha | ha <;> simp [ha]), by
        simp only [List.nil_append, List.mem_append] at ha
        refine decide_eq_true fun h => ?_
        rcases ha with ha | ha
        · exact hn3 a ha a (by simp [h]) rfl
        · exact hn2.2.2 a h a ha rfl⟩, by rw [List.nil_append]; exact nodup_mid hn₀⟩,
      ⟨m, n.at' fun o e => hs _ o hL e⟩, fun p hp => ?_, X.inj, fun d hd => X.fresh d ?_, X.old, fun d hd => ?_, fun d hd => X.ap d (List.mem_filter.mp hd).1, by rw [map_set e]; exact X.names⟩
    · have := X.fresh d (.tail _ (List.mem_append_right _ (hoa d h)))
      rw [this] at ed; cases ed
    · obtain ⟨v, o, e, dd⟩ := X.cells p hp
      exact ⟨v, o, hs _ o (hC p hp) e, dd⟩
    · simp only [List.mem_cons, List.mem_append, List.mem_filter] at hd ⊢
      rcases hd with h | h | h
      · exact .inl h
      · exact .inr (.inl h)
      · exact .inr (.inr h.1)
    · obtain ⟨h1, h2⟩ := List.mem_filter.mp hd
      obtain ⟨o, e⟩ := X.osA d h1; exact ⟨o, hs d o (of_decide_eq_true h2) e⟩

theorem listiter_no_len : typeLookup (.type "list_iterator") "__len__" = pure none := by rw [typeLookup_type, builtinLookup_eq_fast]; kernel_rfl
theorem listiter_hint : typeLookup (.type "list_iterator") "__length_hint__" = pure (some (.builtin "list_iterator.__length_hint__")) := by rw [typeLookup_type, builtinLookup_eq_fast]; kernel_rfl
theorem hint_listiter {A : Around} {E : Value → Shared → Prop} {I : Addr} {Q : Bool → Shared → Prop} (hT : s.TypeIs (.ref I) "list_iterator") (h : Q false s) : wpAny (model prog w) A (Builtin.List.listLengthHint (.ref I)) Q E s := by
  unfold Builtin.List.listLengthHint
  refine wpAny_bind (wpAny_specialOf hT listiter_no_len ?_)
  show wpAny _ A (specialOf (Value.ref I) (Str.ofString "__length_hint__") >>= _) _ _ _
  refine wpAny_bind (wpAny_specialOf hT listiter_hint ?_)
  generalize hid : ("list_iterator.__length_hint__" : String) = id0
  wp_delta
  rw [show splitId id0 = some ("list_iterator", "__length_hint__") from by subst hid; decide +kernel]
  subst hid
  refine wpAny_bind (wpAny_isInstance (T := "list_iterator") (b := true) hT (by rw [isSubtype_type]; kernel_rfl) ?_)
  refine wpAny_ite_split (fun hab => absurd hab (by decide)) (fun _ => ?_)
  refine wpAny_ite_split (fun _ => ?_) (fun hab => absurd (by decide +kernel) hab)
  refine wpAny_ite_split (fun hab => absurd hab (by decide)) (fun _ => ?_)
  exact wpAny_pure h
end
end Mine
end
section
open PySem PySem.W PyProof.Rows
set_option linter.unusedVariables false
namespace Mine
section
variable {env : Env} {B : Heap} {F : Fp} {av₀ av : List Addr} {ρ ρ' : Vs} {os : List Addr} {s : Shared} {prog : Program} {w : World} {k : Nat}
variable {C T0 fi fc fg ft fa pN pV : Addr} {K : Frag} {cN cV : Array Nat}
theorem Walks.from {A : Around} (hh : A.handled = none) (I ax : Addr) (hne : ax ≠ I) (items : Array Value) (n0 : Nat) (h0 : n0 ≤ items.size) :
    Walks prog w A I [I, ax] [I] (items.size - n0) (fun i v => items[n0 + i]? = some v) (fun i h => h.IsListIter I ax (n0 + i) ∧ h.IsList ax items) where
  sub := (Walks.list (prog := prog) (w := w) hh I ax hne items).sub
  frame := fun i h h' st hk => (Walks.list (prog := prog) (w := w) hh I ax hne items).frame (n0 + i) h h' st hk
  item := fun i s Q E hi st hq => (Walks.list (prog := prog) (w := w) hh I ax hne items).item (n0 + i) s Q E (by omega) st hq
  done := fun s Q E st hq => (Walks.list (prog := prog) (w := w) hh I ax hne items).done s Q E (by rw [Nat.add_sub_cancel' h0] at st; exact st) hq
  self := fun i s Q E st hq => (Walks.list (prog := prog) (w := w) hh I ax hne items).self (n0 + i) s Q E st hq
theorem extend_listiter {A : Around} {R : Result → Shared → Prop} {I ax : Addr} {items : Array Value} {n0 : Nat} (hh : A.handled = none) (hit : s.heap.IsListIter I ax n0) (hax : s.heap.IsList ax items) (h0 : n0 ≤ items.size) (hn : items.size - n0 ≤ 16777216) (S : Addr) (res : Value) (c₀ : Nat)
    (hS : s.heap.get? S = some { cls := .type "list", data := .seq #[] c₀ }) (hSI : S ≠ I) (hSx : S ≠ ax) (hne : ax ≠ I)
    (hR : ∀ h' tk acc' c', (∀ b o, b ≠ S → b ≠ I → s.heap.get? b = some o → h'.get? b = some o) → h'.get? S = some { cls := .type "list", dict := none, data := .seq acc' c', slots := #[] } →
      ItemsOf (fun i v => items[n0 + i]? = some v) acc' (items.size - n0) → R (.ok (.ret res)) { s with heap := h', toks := tk }) :
    wpAny (model prog w) A.in1 (Builtin.List.listExtendWith (.ref S) (.ref I) res)
      (fun fin s' => match fin with | .done f => R (.ok f) s' | .again c' => c'.quiet = true ∧ codeAny (model prog w) A c' R s') (fun e s' => R (.error e) s') s := by
  have hT : s.TypeIs (.ref I) "list_iterator" := let ⟨o, a, b, _⟩ := hit; ⟨o, a, b⟩
  have hSf : S ∉ [I, ax] := by simp [hSI, hSx]
  have W := (Walks.from (prog := prog) (w := w) (A := A.in1) hh I ax hne items n0 h0).toS
  unfold Builtin.List.listExtendWith
  refine wpAny_bind (wpAny_typeOf (T := "list_iterator") hT ?_)
  have h1 : Builtin.List.listSameRef (.ref S) (.ref I) = false := by simp [Builtin.List.listSameRef, hSI]
  have h2 : (Value.type "list_iterator" == Value.type "list") = false := by decide
  have h3 : (Value.type "list_iterator" == Value.type "tuple") = false := by decide
  simp only [h1, h2, h3, Bool.or_false, Bool.false_eq_true, if_false]
  refine wpAny_bind (W.self 0 _ _ _ ⟨by rw [Nat.add_zero]; exact hit, hax⟩ ?_)
  refine wpAny_bind (wpAny_holding (hint_listiter hT ?_))
  refine wpAny_ite_split (fun hab => absurd hab (by decide +kernel)) (fun _ => ?_)
  refine wpAny_pure ⟨plainId_quiet F.plain_extend_loop _, codeAny_extend_loopS W (by rw [sizeLine_eq]; omega) S hSf res (items.size - n0) 0 _ #[] c₀ rfl (Nat.zero_le _) ⟨by rw [Nat.add_zero]; exact hit, hax⟩ hS (ItemsOf.nil _) fun s' acc' c' hm hS' hacc => ?_⟩
  rw [Moved.eq_with hm]
  refine hR s'.heap s'.toks acc' c' (fun b o hb hb' e => hm.heap b o (fun hmem => ?_) e) hS' hacc
  simp only [List.mem_cons, List.not_mem_nil, or_false] at hmem
  rcases hmem with h | h
  · exact hb h
  · exact hb' h
theorem init_listiter {A : Around} {R : Result → Shared → Prop} {I ax : Addr} {items : Array Value} {n0 : Nat} (hh : A.handled = none) (hit : s.heap.IsListIter I ax n0) (hax : s.heap.IsList ax items) (h0 : n0 ≤ items.size) (hn : items.size - n0 ≤ 16777216) (S : Addr)
    (hS : s.heap.get? S = some { cls := .type "list", data := .seq #[] }) (hSI : S ≠ I) (hSx : S ≠ ax) (hne : ax ≠ I)
    (hR : ∀ h' tk acc' c', (∀ b o, b ≠ S → b ≠ I → s.heap.get? b = some o → h'.get? b = some o) → h'.get? S = some { cls := .type "list", dict := none, data := .seq acc' c', slots := #[] } →
      ItemsOf (fun i v => items[n0 + i]? = some v) acc' (items.size - n0) → R (.ok (.ret .none)) { s with heap := h', toks := tk }) :
    wpAny (model prog w) A.in1 (Builtin.«list.__init__» ⟨[.ref S, .ref I], []⟩)
      (fun fin s' => match fin with | .done f => R (.ok f) s' | .again c' => c'.quiet = true ∧ codeAny (model prog w) A c' R s') (fun e s' => R (.error e) s') s := by
  show wpAny _ _ (do let old ← Builtin.List.listItems (.ref S); Builtin.List.listUpdate (.ref S) (fun _ => #[]); letGo old.toList.reverse; Builtin.List.listExtendWith (.ref S) (.ref I) .none) _ _ s
  refine wpAny_bind ?_
  unfold Builtin.List.listItems
  refine wpAny_bind (wpAny_seqItems hS rfl (wpAny_pure ?_))
  show wpAny _ _ (updateSeq S (fun _ => #[]) >>= fun _ => letGo (#[] : Array Value).toList.reverse >>= fun _ => Builtin.List.listExtendWith (.ref S) (.ref I) .none) _ _ s
  refine wpAny_bind (wpAny_updateSeq hS rfl ?_)
  have hS₂ := Heap.get?_update_self (Obj.mapSeq (fun _ => (#[] : Array Value))) hS rfl
  have oth : ∀ b o, b ≠ S → s.heap.get? b = some o → (s.heap.update S (Obj.mapSeq (fun _ => (#[] : Array Value)))).get? b = some o :=
    fun b o hb e => (Heap.get?_update_other _ _ (Ne.symm hb)).trans e
  refine wpAny_bind (wpAny_letGo ?_)
  refine extend_listiter hh (hit.at fun o e => oth I o (Ne.symm hSI) e) (hax.at fun o e => oth ax o (Ne.symm hSx) e) h0 hn S .none _ hS₂ hSI hSx hne fun h' tk acc' c' hk hS' hacc => ?_
  exact hR h' tk acc' c' (fun b o hb hb' e => hk b o hb hb' (oth b o hb e)) hS' hacc
theorem call_list_iter {A : Around} {E : Value → Shared → Prop} {Q : Value → Shared → Prop} {I ax : Addr} {items : Array Value} {n0 : Nat} (hh : A.handled = none) (hit : s.heap.IsListIter I ax n0) (hax : s.heap.IsList ax items) (h0 : n0 ≤ items.size) (hn : items.size - n0 ≤ 16777216) (hne : ax ≠ I)
    (hQ : ∀ h' tk acc' c', (∀ b o, b ≠ I → s.heap.get? b = some o → h'.get? b = some o) → h'.get? s.heap.objs.size = some (lobj acc' c') → ItemsOf (fun i v => items[n0 + i]? = some v) acc' (items.size - n0) → Q (.ref s.heap.objs.size) { s with heap := h', toks := tk }) :
    wpAny (model prog w) A (call (.type "list") [.ref I]) Q E s := by
  have hIs : ∃ o, s.heap.get? I = some o := let ⟨o, a, _⟩ := hit; ⟨o, a⟩
  have hxs : ∃ o, s.heap.get? ax = some o := let ⟨o, a, _⟩ := hax; ⟨o, a⟩
  have hSI : s.heap.objs.size ≠ I := fun e => by obtain ⟨o, q⟩ := hIs; rw [← e, next_none] at q; cases q
  have hSx : s.heap.objs.size ≠ ax := fun e => by obtain ⟨o, q⟩ := hxs; rw [← e, next_none] at q; cases q
  refine callType_codes (Q₁ := fun obj s₁ => obj = .ref s.heap.objs.size ∧ s₁ = { s with heap := s.heap.push { cls := .type "list", data := .seq #[] } }) F.called_list (F.typeCall_list_1 _) F.entry_list_init
    (code_list_new _ ⟨rfl, rfl⟩) fun obj s₁ h₁ => ?_
  obtain ⟨rfl, rfl⟩ := h₁
  have hS : (s.heap.push { cls := .type "list", data := .seq #[] }).get? s.heap.objs.size = some { cls := .type "list", data := .seq #[] } := Heap.get?_push_size _ rfl
  refine ⟨⟨_, hS, rfl⟩, F.args_list_init_2 _ _, init_listiter (prog := prog) (w := w) (A := A.in1) (s := { s with heap := s.heap.push { cls := .type "list", data := .seq #[] } }) hh (hit.at fun o e => Heap.get?_push_of_some _ e) (hax.at fun o e => Heap.get?_push_of_some _ e) h0 hn _ hS hSI hSx hne fun h' tk acc' c' hk hS' hacc => ?_⟩
  exact ⟨rfl, hQ h' tk acc' c' (fun b o hb e => hk b o (fun q => by rw [q, next_none] at e; cases e) hb (Heap.get?_push_of_some _ e)) hS' hacc⟩
theorem VRs.of_from {h : Heap} {rest : List PyData} {items acc : Array Value} {n0 : Nat} (hv : VRs av h rest (items.toList.drop n0)) (hi : ItemsOf (fun i v => items[n0 + i]? = some v) acc (items.size - n0)) : VRs av h rest acc.toList := by
  obtain ⟨hs, hi⟩ := hi
  have : acc.toList = items.toList.drop n0 := by
    apply List.ext_getElem?
    intro j
    rw [List.getElem?_drop, toList_at, toList_at]
    rcases Nat.lt_or_ge j acc.size with hj | hj
    · rw [Array.getElem?_eq_getElem hj, hi j _ (Array.getElem?_eq_getElem hj)]
    · rw [Array.getElem?_eq_none hj, Array.getElem?_eq_none (by omega)]
  rw [this]; exact hv
theorem P1.orTape {x y : Str} {rest ds2 : List PyData} {t1 t2 e : Expr} {b1 : List Stmt} {px py lpos cpos bpos pos : Pos} (i : Nat) (hi : ρ[i]? = some (x, .o (.itr rest))) (h1 : PT prog w k env B ρ t1 false) (h2 : PT prog w k env B ρ t2 false)
    (gl : BI B y (.type "list")) (hky : env.kindOf y = some .globalImplicit) (he : PE prog w k env B (ρ.set i (x, .no)) e (.list ds2)) (hc : CmpR prog w k .NotEq (.list rest) (.list ds2) false) (hlen : rest.length ≤ 100) (hpos : 0 < rest.length) (h : ρ.set i (x, .no) = ρ' := by rfl)
    (hdx : (x == ("__debug__" : Str)) = false := by decide) (hdy : (y == ("__debug__" : Str)) = false := by decide) (hm : behindInMarks .NotEq e = false := by with_unfolding_all rfl) :
    P1 prog w k env B ρ (.If (.BoolOp .Or [t1, t2, .Compare (.Call (.Name y py) [.Name x px] [] lpos) [.NotEq] [e] cpos] bpos) b1 [] pos) (.nx ρ') := by
  subst h
  constructor
  intro A F av₀ os s hA X
  refine wpAny_If (wpAny_isTrue_BoolOp (wpAny_allTrue_Or_cons (wpAny_mono (h1.st hA X) (fun b s₁ p => ?_) fun _ _ e => e)))
  obtain ⟨rfl, k₁⟩ := p
  have X₁ := X.keeps k₁
  show wpAny _ _ (allTrue _ _ _) _ _ _
  refine wpAny_allTrue_Or_cons (wpAny_mono (h2.st hA X₁) (fun b s₂ p => ?_) fun _ _ e => e)
  obtain ⟨rfl, k₂⟩ := p
  have X₂ := X₁.keeps k₂
  show wpAny _ _ (allTrue _ _ _) _ _ _
  obtain ⟨V, as, hx, ho, has, fin⟩ := X₂.lose hi
  cases ho with
  | @itr I l _ vs n i₀ hl hit hlo hvs =>
  have hI : I ∈ avOf env os av₀ := St.os_mem (has I (.head _))
  have hne : l ≠ I := fun e => hl (e ▸ hI)
  have hB : ∀ b o, B.get? b = some o → s₂.heap.get? b = some o := fun b o e => X₂.keep b o (X₂.base b o e)
  have hlen' := hvs.length
  rw [List.length_drop, Array.length_toList] at hlen'
  refine wpAny_allTrue_Or_cons (wpAny_isTrue_Compare1 (Call_ (wpAny_NameB X₂.ok hky gl hB (PyProof.Rows.callWith_type1 (args_cons (wpAny_NameHas X₂.ok.kind hx (args_nil ?_) hdx) (star_one rfl)) (star_one rfl)) hdy) call_name) hm)
  refine call_list_iter hA.hh hit (isList_of hlo) (by omega) (by omega) hne fun h' tk acc' c' hk hS hacc => ?_
  obtain ⟨os', hos, X₃⟩ := fin h' tk (fun b o hb e => hk b o (by simpa using hb) e)
  · have hsub : ∀ a, a ∈ avOf env os' av₀ → a ∈ avOf env os av₀ := fun a ha => by
      rcases av_md ha with h | h
      · rcases List.mem_cons.mp h with h | h
        · rw [h]; exact St.locals_mem
        · rcases List.mem_append.mp h with h | h
          · simp [avOf, h]
          · exact St.os_mem (hos a h)
      · simp [avOf, h]
    have hSn : s₂.heap.objs.size ∉ avOf env os av₀ := not_alive X₂.avA (next_none _)
    have hv : VR (avOf env os av₀) h' (.list rest) (.ref s₂.heap.objs.size) := by
      refine .list hSn hS (VRs.of_from ?_ hacc)
      exact hvs.mv fun a o hsq ha e => ⟨ha, hk a o (by rintro rfl; exact ha hI) e⟩
    refine wpAny_mono (he.st hA X₃) (fun W s₄ p => ?_) fun _ _ e => e
    refine wpAny_mono (hc.out A (avOf env os' av₀) s₄ _ W hA ((hv.sub hsub).keeps (kp p.2)) p.1) (fun Y s₅ q => ?_) fun _ _ e => e
    obtain ⟨rfl, k₅⟩ := q
    refine wpAny_truthy_bool ?_
    show wpAny _ _ (allTrue _ _ _) _ _ _
    refine wpAny_allTrue_Or_nil ?_
    refine wpAny_execs_nil ⟨?_, rfl, _, (X₃.keeps p.2).keeps k₅⟩
    exact up_trans (up_kp k₁) (up_trans (up_kp k₂) (up_trans ⟨h', tk, rfl⟩ (up_trans (up_kp p.2) (up_kp k₅))))
end
end Mine
end
section
open PySem PySem.W PyProof.Rows
set_option linter.unusedVariables false
namespace Mine
section
variable {env : Env} {B : Heap} {F : Fp} {av₀ av : List Addr} {ρ ρ' : Vs} {os : List Addr} {s : Shared} {prog : Program} {w : World} {k : Nat}
variable {C T0 fi fc fg ft fa pN pV : Addr} {K : Frag} {cN cV : Array Nat}
theorem HO.apart {h : Heap} {T d l : Addr} {vs : Array Value} (O : HO h C T d l) (hl : h.PlainList l vs) : T ≠ l ∧ d ≠ l := by
  obtain ⟨n, e⟩ := hl
  obtain ⟨en, m, _, _, ed⟩ := O.d
  refine ⟨fun q => ?_, fun q => ?_⟩
  · have := O.t; rw [q, e] at this; cases this
  · rw [q, e] at ed
    have h1 := congrArg (fun o : Option Obj => o.map (·.data)) ed
    cases h1
theorem P1.addH (i j : Nat) {x y : Str} {nm tx : Str} {its : List (Str × Str)} {gs : List PyData} {px py apos bpos bcpos cpos pos : Pos} {e1 e2 : Expr} (H : HC B C K T0 fi fc fg ft fa pN pV cN cV)
    (hi : ρ[i]? = some (x, .o (.hdr C its))) (hj0 : ρ[j]? = some (y, .o (.lst gs))) (hj : (ρ.set i (x, .o (.hdr C (its ++ [(nm, tx)]))))[j]? = some (y, .o (.lst gs))) (he1 : PE prog w (k + 2) env B ρ e1 (.str nm)) (he2 : PE prog w (k + 2) env B ρ e2 (.str tx))
    (hx : sNone cN nm = true) (hy : sNone cV tx = true) (hjt : Txt.join "; " [tx] = tx) (hjo : JoinOk "; " [tx] = true) (hlen : its.length ≤ 1000) (hlen' : gs.length ≤ 1000)
    (h : (ρ.set i (x, .o (.hdr C (its ++ [(nm, tx)])))).set j (y, .o (.lst (gs ++ [.none]))) = ρ' := by rfl)
    (hs1 : isStar e1 = false := by rfl) (hs2 : isStar e2 = false := by rfl) (hline : (apos.endLine == cpos.line) = true := by rfl) (hline2 : (bpos.endLine == bcpos.line) = true := by rfl) (hdx : (x == ("__debug__" : Str)) = false := by decide) (hdy : (y == ("__debug__" : Str)) = false := by decide) (hint : interactive env = false := by rfl) :
    P1 prog w (k + 2) env B ρ (.Expr (.Call (.Attribute (.Name y py) "append" apos) [.Call (.Attribute (.Name x px) "add_header" bpos) [e1, e2] [] bcpos] [] cpos) pos) (.nx ρ') := by
  subst h
  constructor
  intro A F av₀ os s hA X
  obtain ⟨g, Vs, hg, hgl, _, hgm, _⟩ := X.own hj0
  have hB : ∀ b o, B.get? b = some o → s.heap.get? b = some o := fun b o e => X.keep b o (X.base b o e)
  refine wpAny_Expr (wpAny_Call_method rfl (few_one rfl) hline PySem.F.plainAttrs_list PySem.F.slot_list_append PySem.F.type_list_append (wpAny_NameHas X.ok.kind hg ⟨hgl.isList.typeIs, fun b hb => ?_, ?_⟩ hdy)) hint rfl
  · cases hb; obtain ⟨n, e⟩ := hgl; exact ⟨_, e, rfl⟩
  · rw [back_one rfl]
    refine Calls.callWith_builtin rfl (Calls.evalArgs_plain (Calls.spliced_cons ?_))
    obtain ⟨VT, as, hT, ho, has, _⟩ := X.mutK hi
    obtain ⟨T, d, l, ts, rfl, rfl, O, hl, hits⟩ := ho.hdr_inv
    obtain ⟨o₁, r, _⟩ := X.R
    refine Call_meth rfl (by rw [back_two hs1 hs2]; rfl) hline2 (wpAny_NameHas X.ok.kind hT ?_ hdx)
    intro pl
    refine meth_get H H.ma hB O (by decide) ?_
    refine callWith_K (h₀ := B) H.inB H.ma.keep (wpAny_mono ((PAs.cons he1 (.cons he2 .nil hs2) hs1).out A _ _ s bcpos hA r) (fun vs s₁ z => ?_) fun _ _ e => e) (star_eq hs1) (by rw [back_one hs2]; rfl)
    obtain ⟨V1, V2, rfl, z1, z2⟩ := z.1.two
    obtain ⟨t1, rfl⟩ := z1.str_inv
    obtain ⟨t2, rfl⟩ := z2.str_inv
    have X₁ := X.keeps z.2
    have hB₁ : ∀ b o, B.get? b = some o → s₁.heap.get? b = some o := fun b o e => X₁.keep b o (X₁.base b o e)
    refine ⟨H.inB.keeps hB₁, ?_⟩
    obtain ⟨VT', as', hT', ho', has', fin⟩ := X₁.mutK hi
    obtain ⟨T', d', l', ts', rfl, rfl, O', hl', hits'⟩ := ho'.hdr_inv
    have eT := Has.fn (hT.keeps (kp z.2)) hT'
    cases eT
    obtain ⟨hTl, hdl⟩ := O'.apart hl'
    have hlos : l' ∈ os := has' l' (by simp)
    have hBl : B.get? l' = none := by
      cases e : B.get? l' with
      | none => rfl
      | some o =>
        have := X₁.base l' o e
        rw [X₁.fresh l' (.tail _ (List.mem_append_right _ hlos))] at this; cases this
    refine wpAny_mono (add_call H O' hl' hits' hlen hTl hdl (St.os_mem hlos) hBl hx hy hjt hjo (hA.mono (by omega)) hB₁ X₁.avA) (fun V s₂ q => ?_) fun _ _ e => e
    obtain ⟨rfl, ⟨h', t', rfl⟩, kept, ts'', hl'', hits''⟩ := q
    have X₂ := fin h' t' (.hdr C (its ++ [(nm, tx)])) (fun b o hb e => kept b o (fun q => hb (by simp [q])) e) (OwR.hdr_of ⟨kept _ _ hTl O'.t, let ⟨e, n, a, b, c⟩ := O'.d; ⟨e, n, a, b, kept _ _ hdl c⟩⟩ hl'' hits'')
    refine Calls.spliced_nil ?_
    obtain ⟨g', Vs', hg', hgl', hgy', hgm', fin'⟩ := X₂.own hj
    have hap := X₁.ap l' hlos
    have eg := Has.fn ((hg.keeps (kp z.2)).kept kept hap.1 hap.2) hg'
    cases eg
    obtain ⟨hl₁, hy₁, fin₁⟩ := fin' _ (kp_refl _)
    refine wpAny_list_append_plain (s := { s₁ with heap := h', toks := t' }) hl₁ (fun h₃ hl₃ hs₃ => ?_) (by rw [List.size_toArray, hgy'.length]; exact Nat.le_trans hlen' (by decide))
    obtain ⟨u, X₃⟩ := fin₁ h₃ (gs ++ [.none]) (Vs' ++ [.none]) hs₃ (by rw [← List.push_toArray]; exact hl₃) (hy₁.append (.cons .none .nil))
    exact ⟨up_trans (up_kp z.2) (up_trans ⟨h', t', rfl⟩ u), rfl, os, X₃⟩
end
end Mine
end
section
open PySem PySem.W PyProof.Rows
set_option linter.unusedVariables false
set_option linter.unusedSimpArgs false
namespace Mine
section
variable {env : Env} {B : Heap} {ρ ρ' : Vs} {prog : Program} {w : World} {k j : Nat}
theorem CallR.mono {f : Value} {ds : List PyData} {d : PyData} (h : CallR prog w j B f ds d) (hjk : j ≤ k := by decide) : CallR prog w k B f ds d := ⟨fun A av s Vs hA hB hal y => h.out A av s Vs (hA.mono hjk) hB hal y⟩
theorem pick_take {α : Type} : ∀ (l : List α) (m : Nat), (List.range m).filterMap (l[·]?) = l.take m
  | [], m => by simp
  | x :: l, 0 => rfl
  | x :: l, m + 1 => by
    have ih := pick_take l m
    rw [List.range_succ_eq_map, List.filterMap_cons, List.filterMap_map]
    simp only [Function.comp_def, List.getElem?_cons_zero, List.getElem?_cons_succ, Nat.succ_eq_add_one, ih, List.take_succ_cons]
theorem sl_take {α : Type} (l : List α) (n : Nat) : sl l none (some (n : Int)) = l.take n := by
  have : sl l none (some (n : Int)) = (List.range (min n l.length)).filterMap (l[·]?) := by
    unfold sl sliceBounds sliceRange
    have h : (if 0 < min n l.length then ((min n l.length : Nat) : Int) else 0).toNat = min n l.length := by split <;> omega
    simp [h]
    congr 2
    split <;> omega
  rw [this, pick_take]
  rw [List.take_eq_take_iff]; simp
/-- the statements of law -/
def lst (i : Nat) : Stmt := match (dBody 25)[i]? with | some s => s | none => .Pass ⟨0, 0, 0, 0⟩
theorem lst_all : dBody 25 = (List.range 23).map lst := by rfl
def wsOf (cs : List Int) : List Nat := (cs.take 5).map fun c => (c.fmod 6).toNat
def bsOf (cs : List Int) : List Nat := (cs.take 5).map fun c => ((c.fdiv 6).fmod 3).toNat
def ysOf (cs : List Int) : List Nat := ((cs.drop 5).take 4).map fun c => (lawSupply c).toNat
end
end Mine
end
section
open PySem PySem.W PyProof.Rows
set_option linter.unusedVariables false
set_option linter.unusedSimpArgs false
namespace Mine
/-- what law's frame holds -/
structure LSt where
  script : Sl := .no
  cells : Sl := .no
  wants : Sl := .no
  behind : Sl := .no
  supplies : Sl := .no
  k : Sl := .no
  lines : Sl := .no
  tape : Sl := .no
  table : Sl := .no
  laid : Sl := .no
  gave : Sl := .no
  turn : Sl := .no
  supply : Sl := .no
  given : Sl := .no
  letter : Sl := .no
  name : Sl := .no
  books : Sl := .no
  off : Sl := .no
  lead : Sl := .no
  bare : Sl := .no
  lacks : Sl := .no
  words : Sl := .no
  takers : Sl := .no
  spare : Sl := .no
  text : Sl := .no
  apart : Sl := .no
def LSt.vs (s : LSt) : Vs := [("script", s.script), ("cells", s.cells), ("wants", s.wants), ("behind", s.behind), ("supplies", s.supplies), ("k", s.k), ("lines", s.lines), ("tape", s.tape), ("table", s.table), ("laid", s.laid), ("gave", s.gave), ("turn", s.turn), ("supply", s.supply), ("given", s.given), ("letter", s.letter), ("name", s.name), ("books", s.books), ("off", s.off), ("lead", s.lead), ("bare", s.bare), ("lacks", s.lacks), ("words", s.words), ("takers", s.takers), ("spare", s.spare), ("text", s.text), ("apart", s.apart)]
abbrev LE (L f : Addr) (cd : Value) : Env := envOfC "law" (dScope 25) L f cd
structure LawG (B : Heap) (C T0 fi fc fg ft fa pN pV : Addr) (K : Frag) (cN cV : Array Nat) (f3 f4 f6 f11 f12 f20 f21 f22 f23 f24 : Addr) : Prop where
  hc : HC B C K T0 fi fc fg ft fa pN pV cN cV
  cells : FnAt B "_law_cells" 20 f20
  supply : FnAt B "_law_supply" 21 f21
  octets : FnAt B "_law_octets" 22 f22
  round : RoundG B f23 f3 f4
  least : FnAt B "_law_least" 24 f24
  varint : FnAt B "_parse_varint" 6 f6
  lev : LevG B f12 f11
  range : BI B "range" (.type "range")
  iter : BI B "iter" (.builtin "iter")
  next : BI B "next" (.builtin "next")
  list : BI B "list" (.type "list")
  sum : BI B "sum" (.builtin "sum")
  sorted : BI B "sorted" (.builtin "sorted")
section
variable {B : Heap} {ρ ρ' : Vs} {prog : Program} {w : World} {k : Nat} {L f : Addr} {cd : Value}
variable {C T0 fi fc fg ft fa pN pV : Addr} {K : Frag} {cN cV : Array Nat} {f3 f4 f6 f11 f12 f20 f21 f22 f23 f24 : Addr}
def lastOf (cs : List Int) : Int := cs.getD 9 0
abbrev natL (ns : List Nat) : PyData := .list (ns.map natI)
abbrev intL (ns : List Int) : PyData := .list (ns.map .int)
abbrev strL (ns : List Str) : PyData := .list (ns.map .str)
set_option maxRecDepth 100000 in
theorem law0 (G : LawG B C T0 fi fc fg ft fa pN pV K cN cV f3 f4 f6 f11 f12 f20 f21 f22 f23 f24) (xs : List Int) (hx : xs.length ≤ 1000) :
    P1 prog w 6 (LE L f cd) B (LSt.vs { script := .v (intL xs) }) (lst 0) (.nx (LSt.vs { script := .v (intL xs), cells := .v (intL (cellsAt xs xs.length)) })) := by
  refine S1.set 1 (PE.callF G.cells rfl (.cons (PE.var 0 rfl) .nil) (CallR.mono (lawCells_ok G.cells G.round.enum xs (by omega)))) rfl (.inl rfl)
theorem fmodNat (c : Int) {n : Int} (h : 0 < n) : ((c.fmod n).toNat : Int) = c.fmod n := Int.toNat_of_nonneg (Int.fmod_nonneg_of_pos _ h)
theorem lawSupply_nn (c : Int) : 0 ≤ lawSupply c := by
  unfold lawSupply
  split
  · exact Int.fmod_nonneg_of_pos _ (by decide)
  · exact Int.fmod_nonneg_of_pos _ (by decide)
theorem sl_mid {α : Type} (l : List α) (hl : l.length = 10) : sl l (some 5) (some 9) = (l.drop 5).take 4 := by
  match l, hl with
  | [_, _, _, _, _, _, _, _, _, _], _ => rfl
set_option maxRecDepth 100000 in
theorem law1 (G : LawG B C T0 fi fc fg ft fa pN pV K cN cV f3 f4 f6 f11 f12 f20 f21 f22 f23 f24) (cs : List Int) (hc : cs.length = 10) (s : Sl) :
    P1 prog w 6 (LE L f cd) B (LSt.vs { script := s, cells := .v (intL cs) }) (lst 1) (.nx (LSt.vs { script := s, cells := .v (intL cs), wants := .v (natL (wsOf cs)) })) := by
  refine S1.set 2 (compE (xs := (cs.take 5).map .int) (own := fun _ => []) (ρ₀ := [("cell", .no)]) (ρi := fun j => [("cell", .v (.int ((cs.take 5).getD j 0)))]) (p := fun _ => true) (f := fun j => .int (((cs.take 5).getD j 0).fmod 6))
    ⟨rfl, rfl, by decide +kernel, PI.c (PI.list (PE.cast (PE.slL (PE.var 1 rfl) PPt.nil (PPt.int PE.int) ?_) (congrArg PyData.list ((sl_take _ 5).trans List.map_take.symm))) ?_ .name), own0, fun C av h os H => cap_no cap_nil, fun C j d hd => ?_, fun _ _ _ _ => .nil, fun C j d hd _ => PE.bin (PE.var 0 rfl) PE.int (BinR.mod (by decide))⟩ ?_) rfl (.inr ⟨rfl, _, rfl⟩)
  · rw [List.length_map, hc]; decide
  · rw [List.length_map, List.length_take, hc]; decide
  · obtain ⟨rfl, _⟩ := at_int hd
    exact C2.name 0 rfl
  · rw [List.length_map, coll_map (g := fun c : Int => PyData.int (c.fmod 6)), wsOf, List.map_map]
    refine List.map_congr_left fun c _ => ?_
    exact congrArg PyData.int (fmodNat c (by decide)).symm
set_option maxRecDepth 100000 in
theorem law2 (G : LawG B C T0 fi fc fg ft fa pN pV K cN cV f3 f4 f6 f11 f12 f20 f21 f22 f23 f24) (cs : List Int) (hc : cs.length = 10) (s s2 : Sl) :
    P1 prog w 6 (LE L f cd) B (LSt.vs { script := s, cells := .v (intL cs), wants := s2 }) (lst 2) (.nx (LSt.vs { script := s, cells := .v (intL cs), wants := s2, behind := .v (natL (bsOf cs)) })) := by
  refine S1.set 3 (compE (xs := (cs.take 5).map .int) (own := fun _ => []) (ρ₀ := [("cell", .no)]) (ρi := fun j => [("cell", .v (.int ((cs.take 5).getD j 0)))]) (p := fun _ => true) (f := fun j => .int ((((cs.take 5).getD j 0).fdiv 6).fmod 3))
    ⟨rfl, rfl, by decide +kernel, PI.c (PI.list (PE.cast (PE.slL (PE.var 1 rfl) PPt.nil (PPt.int PE.int) ?_) (congrArg PyData.list ((sl_take _ 5).trans List.map_take.symm))) ?_ .name), own0, fun C av h os H => cap_no cap_nil, fun C j d hd => ?_, fun _ _ _ _ => .nil, fun C j d hd _ => PE.bin (PE.bin (PE.var 0 rfl) PE.int (BinR.fdiv (by decide) (by decide))) PE.int (BinR.mod (by decide))⟩ ?_) rfl (.inr ⟨rfl, _, rfl⟩)
  · rw [List.length_map, hc]; decide
  · rw [List.length_map, List.length_take, hc]; decide
  · obtain ⟨rfl, _⟩ := at_int hd
    exact C2.name 0 rfl
  · rw [List.length_map, coll_map (g := fun c : Int => PyData.int ((c.fdiv 6).fmod 3)), bsOf, List.map_map]
    refine List.map_congr_left fun c _ => ?_
    exact congrArg PyData.int (fmodNat (c.fdiv 6) (by decide)).symm
set_option maxRecDepth 100000 in
theorem law3 (G : LawG B C T0 fi fc fg ft fa pN pV K cN cV f3 f4 f6 f11 f12 f20 f21 f22 f23 f24) (cs : List Int) (hc : cs.length = 10) (s s2 s3 : Sl) :
    P1 prog w 6 (LE L f cd) B (LSt.vs { script := s, cells := .v (intL cs), wants := s2, behind := s3 }) (lst 3) (.nx (LSt.vs { script := s, cells := .v (intL cs), wants := s2, behind := s3, supplies := .v (natL (ysOf cs)) })) := by
  refine S1.comp (xs := ((cs.drop 5).take 4).map .int) (own := fun _ => []) (ρ₀ := [("cell", .no)]) (ρi := fun j => [("cell", .v (.int (((cs.drop 5).take 4).getD j 0)))]) (p := fun _ => true) (f := fun j => .int (lawSupply (((cs.drop 5).take 4).getD j 0))) 4
    ⟨rfl, rfl, by decide +kernel, PI.c (PI.list (PE.cast (PE.slL (PE.var 1 rfl) (PPt.int PE.int) (PPt.int PE.int) ?_) (congrArg PyData.list ?_)) ?_ .name), own0, fun C av h os H => cap_no cap_nil, fun C j d hd => ?_, fun _ _ _ _ => .nil, fun C j d hd _ => PE.callF G.supply rfl (.cons (PE.var 0 rfl) .nil) (CallR.mono (lawSupply_ok G.supply _))⟩ rfl (.inl rfl) ?_
  · rw [List.length_map, hc]; decide
  · rw [sl_map, sl_mid _ hc]
  · rw [List.length_map, List.length_take, List.length_drop, hc]; decide
  · obtain ⟨rfl, _⟩ := at_int hd
    exact C2.name 0 rfl
  · rw [List.length_map, coll_map (g := fun c : Int => PyData.int (lawSupply c)), ysOf, List.map_map]
    refine List.map_congr_left fun c _ => ?_
    exact congrArg PyData.int (Int.toNat_of_nonneg (lawSupply_nn c)).symm
theorem ln_make : ∀ w : Nat, w < 6 → ∀ b : Nat, b < 3 → ∀ k : Nat, k < 5 → (Txt.mul " " (w : Int) ++ Txt.item "abcde" (k : Int) ++ Txt.mul " " (b : Int) = ln w (97 + k) b) ∧ (Txt.mul " " (w : Int)).length + (Txt.item "abcde" (k : Int)).length ≤ 16 ∧ (Txt.mul " " (w : Int) ++ Txt.item "abcde" (k : Int)).length + (Txt.mul " " (b : Int)).length ≤ 16 := by decide +kernel
theorem sz16 {n : Nat} (h : n ≤ 16) : n ≤ sizeLine := Nat.le_trans h (by decide)
theorem natAt {ns : List Nat} {j : Nat} (h : j < ns.length) : (ns.map natI)[j]? = some (.int (ns.getD j 0 : Nat)) := by
  rw [List.getElem?_map, List.getElem?_eq_getElem h]
  simp [List.getD, List.getElem?_eq_getElem h]
theorem small63 {j : Nat} (h : j < 1000000) : (j : Int) < 2 ^ 63 := by omega
theorem mulOk_blank {n : Int} (h : n ≤ 100) (h' : -100 ≤ n) : MulOk " " n := by
  refine ⟨?_, fun h1 h2 => ?_, fun h1 h2 => ?_⟩
  · rw [Bool.or_eq_false_iff]
    constructor <;> (apply decide_eq_false; omega)
  · have : ((Str.ofString " ").length : Int) = 1 := rfl
    have h3 : (1 : Int) ≤ (2 ^ 63 - 1) / n := by
      rw [Int.le_ediv_iff_mul_le (by omega)]; omega
    rw [this]; omega
  · unfold Builtin.Str.tooLong
    have : (Str.ofString " ").length = 1 := rfl
    rw [this]
    apply decide_eq_false
    rw [sizeLine_eq]; omega
set_option maxRecDepth 100000 in
theorem law4 (G : LawG B C T0 fi fc fg ft fa pN pV K cN cV f3 f4 f6 f11 f12 f20 f21 f22 f23 f24) (ws bs : List Nat) (hw : ws.length = 5) (hb : bs.length = 5) (hw' : ∀ k < 5, ws.getD k 0 < 6) (hb' : ∀ k < 5, bs.getD k 0 < 3) (s s1 s4 : Sl) :
    P1 prog w 6 (LE L f cd) B (LSt.vs { script := s, cells := s1, wants := .v (natL ws), behind := .v (natL bs), supplies := s4 }) (lst 4) (.nx (LSt.vs { script := s, cells := s1, wants := .v (natL ws), behind := .v (natL bs), supplies := s4, lines := .v (strL (lines ws bs)) })) := by
  refine S1.comp (xs := rng 0 5) (own := fun _ => []) (ρ₀ := [("k", .no), ("behind", .v (natL bs)), ("wants", .v (natL ws))]) (ρi := fun j => [("k", .v (.int j)), ("behind", .v (natL bs)), ("wants", .v (natL ws))]) (p := fun _ => true) (f := fun j => .str (lnOf ws bs j)) 6
    ⟨rfl, rfl, by decide +kernel, PI.c (PI.range1 G.range rfl PE.int (by decide) (by decide) rfl (by decide)), own0, fun C av h os H => cap_no (cap_v 3 H rfl rfl rfl rfl (cap_v 2 H rfl rfl rfl rfl cap_nil)), fun C j d hd => ?_, fun _ _ _ _ => .nil, fun C j d hd _ => ?_⟩ rfl (.inl rfl) ?_
  · obtain ⟨rfl, _⟩ := rng_at0 hd
    exact C2.name 0 rfl
  · obtain ⟨rfl, hj⟩ := rng_at0 hd
    obtain ⟨e, e1, e2⟩ := ln_make _ (hw' j hj) _ (hb' j hj) j hj
    have ix := fun (ns : List Nat) (h : ns.length = 5) => (IxR.list (prog := prog) (w := w) (k := 6) (ds := ns.map natI) (i := (j : Int)) (d := .int (ns.getD j 0 : Nat)) (by omega) (small63 (by omega)) (natAt (by omega)))
    obtain ⟨i1, i2⟩ := abc_item j hj
    exact PE.cast (PE.bin (PE.bin (PE.bin PE.str (PE.sub (PE.var 2 rfl) (PE.var 0 rfl) (ix ws hw)) (BinR.mulS (mulOk_blank (by have := hw' j hj; omega) (by omega)))) (PE.sub PE.str (PE.var 0 rfl) (IxR.str (fits (by omega) (by omega)) i2 rfl)) (BinR.addS (sz16 e1)))
      (PE.bin PE.str (PE.sub (PE.var 1 rfl) (PE.var 0 rfl) (ix bs hb)) (BinR.mulS (mulOk_blank (by have := hb' j hj; omega) (by omega)))) (BinR.addS (sz16 e2))) (congrArg PyData.str e)
  · rw [rng_len, coll_all, lines, List.map_map]; rfl
def tapeOf (m : Int) (ys : List Nat) : List Int := octs (m.fmod 16) (flat ys) ++ [m.fmod 256]
set_option maxRecDepth 100000 in
theorem law5 (G : LawG B C T0 fi fc fg ft fa pN pV K cN cV f3 f4 f6 f11 f12 f20 f21 f22 f23 f24) (cs : List Int) (hc : cs.length = 10) (ys : List Nat) (hy : ys.length = 4) (hy' : ∀ y ∈ ys, y < 262144) (s s2 s3 s6 : Sl) :
    P1 prog w 6 (LE L f cd) B (LSt.vs { script := s, cells := .v (intL cs), wants := s2, behind := s3, supplies := .v (natL ys), lines := s6 }) (lst 5) (.nx (LSt.vs { script := s, cells := .v (intL cs), wants := s2, behind := s3, supplies := .v (natL ys), lines := s6, tape := .o (.itr ((tapeOf (lastOf cs) ys).map .int)) })) := by
  have h9 : (cs.map PyData.int)[9]? = some (.int (lastOf cs)) := map_int_at (by omega)
  refine S1.own 7 (PN.iter G.iter rfl (PE.cast (PE.bin (PE.callF G.octets rfl (.cons (PE.var 4 rfl) (.cons (PE.bin (PE.sub (PE.var 1 rfl) PE.int (IxR.list (by decide) (by decide) h9)) PE.int (BinR.mod (by decide))) .nil)) (CallR.mono (octets_ok G.octets G.round.enum ys _ hy' (by omega))))
    (PE.list (.cons (PE.bin (PE.sub (PE.var 1 rfl) PE.int (IxR.list (by decide) (by decide) h9)) PE.int (BinR.mod (by decide))) .nil)) (BinR.addL ?_)) ?_)) rfl (.inl rfl)
  · have := flat_len ys
    simp [octs]; omega
  · simp [tapeOf]
set_option maxRecDepth 100000 in
theorem law6 (G : LawG B C T0 fi fc fg ft fa pN pV K cN cV f3 f4 f6 f11 f12 f20 f21 f22 f23 f24) (s s1 s2 s3 s4 s6 s7 : Sl) :
    P1 prog w 6 (LE L f cd) B (LSt.vs { script := s, cells := s1, wants := s2, behind := s3, supplies := s4, lines := s6, tape := s7 }) (lst 6) (.nx (LSt.vs { script := s, cells := s1, wants := s2, behind := s3, supplies := s4, lines := s6, tape := s7, table := .o (.hdr C []) })) := by
  exact P1.headers (k := 4) 8 G.hc rfl rfl (.inr ⟨rfl, _, rfl⟩)
set_option maxRecDepth 100000 in
theorem law7 (s s1 s2 s3 s4 s6 s7 s8 : Sl) :
    P1 prog w 6 (LE L f cd) B (LSt.vs { script := s, cells := s1, wants := s2, behind := s3, supplies := s4, lines := s6, tape := s7, table := s8 }) (lst 7) (.nx (LSt.vs { script := s, cells := s1, wants := s2, behind := s3, supplies := s4, lines := s6, tape := s7, table := s8, laid := .o (.lst []) })) := by
  exact S1.own 9 (PN.list PAs.nil) rfl (.inr ⟨rfl, _, rfl⟩)
set_option maxRecDepth 100000 in
theorem law8 (s s1 s2 s3 s4 s6 s7 s8 s9 : Sl) :
    P1 prog w 6 (LE L f cd) B (LSt.vs { script := s, cells := s1, wants := s2, behind := s3, supplies := s4, lines := s6, tape := s7, table := s8, laid := s9 }) (lst 8) (.nx (LSt.vs { script := s, cells := s1, wants := s2, behind := s3, supplies := s4, lines := s6, tape := s7, table := s8, laid := s9, gave := .o (.lst []) })) := by
  exact S1.own 10 (PN.list PAs.nil) rfl (.inl rfl)
end
end Mine
end
section
open PySem PySem.W PyProof.Rows
set_option linter.unusedVariables false
set_option linter.unusedSimpArgs false
namespace Mine
/-- a text of one sign -/
abbrev sg (c : Nat) : Str := ⟨#[c]⟩
def wsAt (ws ys : List Nat) : Nat → List Nat
  | 0 => ws
  | i + 1 => nextW (wsAt ws ys i) (ys.getD i 0)
def takersAt (ws ys : List Nat) (i : Nat) : List Nat := (List.range 5).filter (takes (wsAt ws ys i) (ys.getD i 0))
def giver (i : Nat) : Str := Txt.item "ywzx" (i : Int)
def nameOf (m : Int) (i k : Nat) : Str := if ((i : Int) + m).fmod 2 = 0 then sg (97 + k) else sg (65 + k)
abbrev hdrOf (m : Int) (i : Nat) (k : Nat) : Str × Str := (nameOf m i k, giver i)
def hdrs (m : Int) (ws ys : List Nat) : Nat → List (Str × Str)
  | 0 => []
  | i + 1 => hdrs m ws ys i ++ (takersAt ws ys i).map (hdrOf m i)
def tapeRest (m : Int) (ys : List Nat) (i : Nat) : List Int := (tapeOf m ys).drop (flat (ys.take i)).length
structure VFact (m : Int) (ys : List Nat) (i mi : Nat) : Prop where
  lt : mi < (tapeRest m ys i).length
  goes : ∀ j, j < mi → goesOn (tapeRest m ys i) 0 j = true
  stops : goesOn (tapeRest m ys i) 0 mi = false
  small : ∀ j, j ≤ mi → (vr (tapeRest m ys i) 0 j).natAbs < 2 ^ 64
  val : vr (tapeRest m ys i) 0 mi = (ys.getD i 0 : Nat)
  rest : (tapeRest m ys i).drop (mi + 1) = tapeRest m ys (i + 1)
theorem after_lines (ws bs : List Nat) (s : Nat) : afterOf ws bs s 5 = lines (nextW ws s) bs := by
  unfold afterOf lines
  refine List.map_congr_left fun k hk => ?_
  have hk5 : k < 5 := List.mem_range.mp hk
  unfold lnOf nextW
  rw [List.getD_eq_getElem?_getD (l := List.map _ _), List.getElem?_map, List.getElem?_range hk5]
  show _ = ln (if takes ws s k = true then _ else _) _ _
  split <;> rfl
theorem nextW_lt (ws : List Nat) (s : Nat) (h : ∀ k < 5, ws.getD k 0 < 6) : ∀ k < 5, (nextW ws s).getD k 0 < 6 := by
  intro k hk
  unfold nextW
  rw [List.getD_eq_getElem?_getD, List.getElem?_map, List.getElem?_range hk]
  show (if takes ws s k = true then _ else _) < 6
  have := h k hk
  split <;> omega
theorem wsAt_lt (ws ys : List Nat) (h : ∀ k < 5, ws.getD k 0 < 6) : ∀ i, ∀ k < 5, (wsAt ws ys i).getD k 0 < 6
  | 0 => h
  | i + 1 => nextW_lt _ _ (wsAt_lt ws ys h i)
theorem takersAt_lt (ws ys : List Nat) (i : Nat) : ∀ k ∈ takersAt ws ys i, k < 5 := fun k hk => List.mem_range.mp (List.mem_filter.mp hk).1
theorem takersAt_len (ws ys : List Nat) (i : Nat) : (takersAt ws ys i).length ≤ 5 := Nat.le_trans (List.length_filter_le _ _) (by simp)
theorem hdrs_len (m : Int) (ws ys : List Nat) : ∀ i, (hdrs m ws ys i).length ≤ 5 * i
  | 0 => by simp [hdrs]
  | i + 1 => by
    have := hdrs_len m ws ys i
    have := takersAt_len ws ys i
    rw [hdrs, List.length_append, List.length_map]; omega
theorem upper_sg : ∀ k : Nat, k < 5 → Txt.upper (sg (97 + k)) = sg (65 + k) := by decide +kernel
theorem giver_at : ∀ i : Nat, i < 4 → (Txt.charAt "ywzx" (i : Int)).isSome = true ∧ (giver i).length = 1 ∧ Txt.join "; " [giver i] = giver i ∧ JoinOk "; " [giver i] = true := by decide +kernel
section
variable {B : Heap} {ρ ρ' : Vs} {prog : Program} {w : World} {k : Nat} {L f : Addr} {cd : Value}
variable {C T0 fi fc fg ft fa pN pV : Addr} {K : Frag} {cN cV : Array Nat} {f3 f4 f6 f11 f12 f20 f21 f22 f23 f24 : Addr}
structure SignOk (cN cV : Array Nat) : Prop where
  low : ∀ k < 5, sNone cN (sg (97 + k)) = true
  up : ∀ k < 5, sNone cN (sg (65 + k)) = true
  giv : ∀ i < 4, sNone cV (giver i) = true
/-- the state behind i turns -/
def turnSt (C : Addr) (s : Sl) (cs : List Int) (s2 s3 : Sl) (ws bs ys : List Nat) (m : Int) (i : Nat) : LSt :=
  { script := s, cells := .v (intL cs), wants := s2, behind := s3, supplies := .v (natL ys), lines := .v (strL (lines (wsAt ws ys i) bs)), tape := .o (.itr ((tapeRest m ys i).map .int)), table := .o (.hdr C (hdrs m ws ys i)), laid := .o (.lst ((hdrs m ws ys i).map tupD)), gave := .o (.lst (List.replicate (hdrs m ws ys i).length .none)) }
set_option maxRecDepth 100000 in
set_option maxHeartbeats 1000000 in
theorem law9 (G : LawG B C T0 fi fc fg ft fa pN pV K cN cV f3 f4 f6 f11 f12 f20 f21 f22 f23 f24) (Z : SignOk cN cV) (cs : List Int) (hc : cs.length = 10) (ws bs ys : List Nat) (hw' : ∀ k < 5, ws.getD k 0 < 6) (hb' : ∀ k < 5, bs.getD k 0 < 3) (hy : ys.length = 4)
    (hV : ∀ i < 4, ∃ mi, VFact (lastOf cs) ys i mi) (s s2 s3 : Sl) :
    P1 prog w 6 (LE L f cd) B (turnSt C s cs s2 s3 ws bs ys (lastOf cs) 0).vs (lst 9) (.nx (turnSt C s cs s2 s3 ws bs ys (lastOf cs) 4).vs) := by
  have h9 : (cs.map PyData.int)[9]? = some (.int (lastOf cs)) := map_int_at (by omega)
  refine P1.for (xs := rng 0 4) (fun i => (turnSt C s cs s2 s3 ws bs ys (lastOf cs) i).vs) (PI.range1 G.range rfl PE.int (by decide) (by decide) rfl (by decide)) fun i d hd => ?_
  obtain ⟨rfl, hi⟩ := rng_at0 hd
  obtain ⟨mi, V⟩ := hV i hi
  obtain ⟨g1, g2, g3, g4⟩ := giver_at i hi
  have hz := Z.giv i hi
  generalize hm : lastOf cs = m at V h9
  have hlen := hdrs_len m ws ys i
  have hlt := takersAt_lt ws ys i
  have hll := takersAt_len ws ys i
  have hwA := wsAt_lt ws ys hw' i
  have iy : IxR prog w 6 (.list (ys.map natI)) (.int (i : Int)) (.int (ys.getD i 0 : Nat)) := IxR.list (by omega) (small63 (by omega)) (natAt (by omega))
  let tk := takersAt ws ys i
  let hd : Nat → List (Str × Str) := fun j => hdrs m ws ys i ++ (tk.take j).map (hdrOf m i)
  let A1 : LSt := { script := s, cells := .v (intL cs), wants := s2, behind := s3, supplies := .v (natL ys), lines := .v (strL (lines (wsAt ws ys i) bs)), tape := .o (.itr ((tapeRest m ys (i + 1)).map .int)), table := .o (.hdr C (hdrs m ws ys i)), laid := .o (.lst ((hdrs m ws ys i).map tupD)), gave := .o (.lst (List.replicate (hdrs m ws ys i).length .none)), turn := .v (.int i), supply := .v (.int (ys.getD i 0 : Nat)) }
  let A2 : LSt := { A1 with given := .v (strL (tk.map fun k => sg (97 + k))), lines := .v (strL (lines (wsAt ws ys (i + 1)) bs)) }
  let inn : Nat → LSt := fun j => { A2 with table := .o (.hdr C (hd j)), laid := .o (.lst ((hd j).map tupD)), gave := .o (.lst (List.replicate (hd j).length .none)) }
  have e0 : A2.vs = (inn 0).vs := by
    have : hd 0 = hdrs m ws ys i := by simp [hd]
    simp only [inn, this]; rfl
  have hhd : ∀ j, (hd j).length ≤ 40 := fun j => by
    have : ((tk.take j).map (hdrOf m i)).length ≤ 5 := by rw [List.length_map]; exact Nat.le_trans (List.length_take_le' ..) hll
    simp only [hd, List.length_append]; omega
  have hsucc : ∀ j, j < tk.length → hd (j + 1) = hd j ++ [hdrOf m i (tk.getD j 0)] := fun j hj => by
    simp only [hd]
    rw [List.take_add_one, List.getElem?_eq_getElem hj, List.map_append, ← List.append_assoc]
    simp [List.getD, List.getElem?_eq_getElem hj]
  refine ⟨_, T1.name 11 rfl (.inr ⟨rfl, _, rfl⟩), PS.post (ρ₁ := (inn tk.length).vs) (PS.cons (ρ₁ := A1.vs) (P1.varint (k := 5) 7 12 G.varint G.next rfl rfl rfl (.inl rfl) V.lt V.goes V.stops V.small (by rw [V.val, V.rest]; rfl))
    (PS.cons (ρ₁ := A1.vs) (P1.skip (b := false || (false || false)) (PT.all (PTs.or (PT.cmp (PE.callT G.round.type rfl (PE.var 12 rfl)) (PE.tyInt G.round.int rfl) CmpR.isNotTy) fun _ => PTs.or (PT.cast (PT.cmp (PE.var 12 rfl) (PE.sub (PE.var 4 rfl) (PE.var 11 rfl) iy) CmpR.neI) (by simp)) fun _ => PTs.or_nil)) rfl)
    (PS.cons (ρ₁ := A2.vs) (P1.setPair 13 6 (PE.cast (PE.callF G.round.me rfl (.cons (PE.var 6 rfl) (.cons (PE.var 12 rfl) .nil)) (CallR.mono (round_ok G.round (wsAt ws ys i) bs (ys.getD i 0) hwA hb'))) ?_) rfl (.inl rfl) rfl (.inl rfl))
    (PS.cast (ρ' := (inn 0).vs) (PS.cons (P1.for (xs := (tk.map fun k => sg (97 + k)).map .str) (fun j => (inn j).vs) (PI.list (PE.var 13 rfl) ?_ .name) fun j d hdt => ?_) ?_) e0)))) ?_⟩
  · rw [after_lines]; rfl
  · rw [List.length_map, List.length_map]; exact Nat.le_trans hll (by decide)
  · rw [List.map_map] at hdt
    obtain ⟨rfl, hj⟩ := map_at 0 hdt
    have hk5 : tk.getD j 0 < 5 := hlt _ (by rw [List.getD_eq_getElem?_getD, List.getElem?_eq_getElem hj]; exact List.getElem_mem hj)
    have hsj := hsucc j hj
    generalize hkk : tk.getD j 0 = kk at hk5 hsj
    have hix : ([.str (sg (97 + kk)), .str (Txt.upper (sg (97 + kk)))] : List PyData)[(((i : Int) + m).fmod 2).toNat]? = some (.str (nameOf m i kk)) := by
      have h0 := Int.fmod_nonneg_of_pos ((i : Int) + m) (show (0 : Int) < 2 by decide)
      have h1 := Int.fmod_lt_of_pos ((i : Int) + m) (show (0 : Int) < 2 by decide)
      unfold nameOf
      rw [upper_sg kk hk5]
      generalize ((i : Int) + m).fmod 2 = q at h0 h1
      have : q = 0 ∨ q = 1 := by omega
      rcases this with rfl | rfl <;> rfl
    have hq0 := Int.fmod_nonneg_of_pos ((i : Int) + m) (show (0 : Int) < 2 by decide)
    have hq1 := Int.fmod_lt_of_pos ((i : Int) + m) (show (0 : Int) < 2 by decide)
    have hxk : sNone cN (nameOf m i kk) = true := by
      unfold nameOf
      split
      · exact Z.low kk hk5
      · exact Z.up kk hk5
    refine ⟨_, T1.name 14 rfl (.inl rfl), PS.post (ρ₁ := ({ inn (j + 1) with letter := .v (.str (sg (97 + kk))), name := .v (.str (nameOf m i kk)) } : LSt).vs) (PS.cons (ρ₁ := ({ inn j with letter := .v (.str (sg (97 + kk))), name := .v (.str (nameOf m i kk)) } : LSt).vs) (S1.set 15 (PE.sub (PE.tuple (.cons (PE.var 14 rfl) (.cons (PE.meth0 (PE.var 14 rfl) (Mth0.upper ?_)) .nil))) (PE.bin (PE.bin (PE.var 11 rfl) (PE.sub (PE.var 1 rfl) PE.int (IxR.list (by decide) (by decide) h9)) BinR.add) PE.int (BinR.mod (by decide))) (IxR.tuple hq0 (by omega) hix)) rfl (.inl rfl))
      (PS.cons (ρ₁ := ({ inn j with laid := .o (.lst ((hd (j + 1)).map tupD)), letter := .v (.str (sg (97 + kk))), name := .v (.str (nameOf m i kk)) } : LSt).vs) (S1.append 9 rfl (PE.tuple (.cons (PE.var 15 rfl) (.cons (PE.sub PE.str (PE.var 11 rfl) (IxR.str (fits (by omega) (by omega)) g1 rfl)) .nil))) ?_ ?_)
      (PS.cons (P1.addH (k := 4) 8 10 G.hc rfl rfl rfl (PE.var 15 rfl) (PE.sub PE.str (PE.var 11 rfl) (IxR.str (fits (by omega) (by omega)) g1 rfl)) hxk hz g3 g4 ?_ ?_ ?_) PS.nil))) ?_⟩
    · rw [upper_sg kk hk5]; exact Nat.le_of_ble_eq_true rfl
    · rw [List.length_map]; have := hhd j; omega
    · have hm2 : (hd j ++ [hdrOf m i kk]).map tupD = (hd j).map tupD ++ [tupD (hdrOf m i kk)] := List.map_append
      rw [hsj, hm2]; rfl
    · have := hhd j; omega
    · rw [List.length_replicate]; have := hhd j; omega
    · simp only [inn]
      have hrep : List.replicate (hd j ++ [hdrOf m i kk]).length PyData.none = List.replicate (hd j).length .none ++ [.none] := by
        rw [List.length_append (as := hd j)]; exact List.replicate_succ'
      rw [hsj, hrep]; rfl
    · exact .same (.same (.same (.same (.same (.same (.same (.same (.same (.same (.same (.same (.same (.same (.drop (.drop (Le.refl _))))))))))))))))
  · rw [List.length_map, List.length_map]; exact PS.nil
  · have : hd tk.length = hdrs m ws ys (i + 1) := by simp only [hd, List.take_length]; rfl
    simp only [inn, this]
    exact .same (.same (.same (.same (.same (.same (.same (.same (.same (.same (.same (.drop (.drop (.drop (Le.refl _))))))))))))))
end
end Mine
end
section
open PySem PySem.W PyProof.Rows
set_option linter.unusedVariables false
set_option linter.unusedSimpArgs false
namespace Mine
theorem shaped_list (ds : List PyData) (n : Nat) (hn : n ≤ 20) (h : ∀ d ∈ ds, PyData.canLay0 d = true ∧ d.depth ≤ n) : SeqAt.shaped (.list ds) = true := by
  unfold SeqAt.shaped
  rw [Bool.and_eq_true]
  constructor
  · show PyData.canLayAll0 ds = true
    induction ds with
    | nil => rfl
    | cons d ds ih => rw [PyData.canLayAll0, (h d (.head _)).1, ih fun d hd => h d (.tail _ hd)]; rfl
  · have : PyData.depthAll ds ≤ n := by
      induction ds with
      | nil => simp [PyData.depthAll]
      | cons d ds ih =>
        have h1 := (h d (.head _)).2
        have h2 := ih fun d hd => h d (.tail _ hd)
        rw [PyData.depthAll]; omega
    simp [PyData.depth]; omega
theorem shaped_nones (n : Nat) : SeqAt.shaped (.list (List.replicate n .none)) = true := shaped_list _ 1 (by decide) fun d hd => by
  obtain rfl := (List.mem_replicate.mp hd).2
  exact ⟨rfl, by decide⟩
/-- a text that may be laid -/
abbrev okS (x : Str) : Prop := PyData.canLay0 (.str x) = true
theorem shaped_tups (its : List (Str × Str)) (h : ∀ p ∈ its, okS p.1 ∧ okS p.2) : SeqAt.shaped (.list (its.map tupD)) = true := shaped_list _ 3 (by decide) fun d hd => by
  obtain ⟨p, hp, rfl⟩ := List.mem_map.mp hd
  refine ⟨?_, by simp [PyData.depth, PyData.depthAll]⟩
  rw [PyData.canLay0, PyData.canLayAll0, PyData.canLayAll0, (h p hp).1, (h p hp).2]; rfl
theorem shaped_strs (l : List Str) (h : ∀ x ∈ l, okS x) : SeqAt.shaped (strL l) = true := shaped_list _ 1 (by decide) fun d hd => by
  obtain ⟨p, hp, rfl⟩ := List.mem_map.mp hd
  exact ⟨h p hp, by simp [PyData.depth]⟩
theorem canLay_strs (l : List Str) (h : ∀ x ∈ l, okS x) : PyData.canLayAll0 (l.map .str) = true := by
  induction l with
  | nil => rfl
  | cons x l ih => rw [List.map_cons, PyData.canLayAll0, ih fun y hy => h y (.tail _ hy), h x (.head _)]; rfl
theorem depth_strs (l : List Str) : PyData.depthAll (l.map .str) ≤ 1 := by
  induction l with
  | nil => simp [PyData.depthAll]
  | cons x l ih => rw [List.map_cons, PyData.depthAll]; simp [PyData.depth]; omega
theorem shaped_books (n : Nat) (g : Nat → List Str) (h : ∀ j, ∀ x ∈ g j, okS x) : SeqAt.shaped (.list ((List.range n).map fun j => strL (g j))) = true := shaped_list _ 3 (by decide) fun d hd => by
  obtain ⟨j, _, rfl⟩ := List.mem_map.mp hd
  refine ⟨canLay_strs _ (h j), ?_⟩
  have := depth_strs (g j)
  simp [PyData.depth]; omega
section
variable {env E cenv : Env} {B : Heap} {ρ ρ' : Vs} {prog : Program} {w : World} {k : Nat} {L f : Addr} {cd : Value} {av : List Addr} {h : Heap} {os : List Addr} {r : Vs} {x g : Str}
variable {C T0 fi fc fg ft fa pN pV : Addr} {K : Frag} {cN cV : Array Nat} {f3 f4 f6 f11 f12 f20 f21 f22 f23 f24 : Addr}
theorem cap_k (i : Nat) {ds : List PyData} {Ws : List Value} (H : Hold E av h ρ os) (e : ρ[i]? = some (x, .k ds Ws)) (t : Hold cenv av h r []) : Hold cenv av h ((g, .k ds Ws) :: r) [] := .cons (as := []) (os := []) (.k (H.kn e)) t
set_option maxRecDepth 100000 in
theorem law10 (G : LawG B C T0 fi fc fg ft fa pN pV K cN cV f3 f4 f6 f11 f12 f20 f21 f22 f23 f24) (cs : List Int) (hc : cs.length = 10) (its : List (Str × Str)) (hl : its.length ≤ 20) (ho : ∀ p ∈ its, okS p.1 ∧ okS p.2) (s s2 s3 s4 s6 : Sl) :
    P1 prog w 6 (LE L f cd) B (LSt.vs { script := s, cells := .v (intL cs), wants := s2, behind := s3, supplies := s4, lines := s6, tape := .o (.itr ([(lastOf cs).fmod 256].map .int)), table := .o (.hdr C its), laid := .v (.list (its.map tupD)), gave := .v (.list (List.replicate its.length .none)) }) (lst 10)
      (.nx (LSt.vs { script := s, cells := .v (intL cs), wants := s2, behind := s3, supplies := s4, lines := s6, table := .o (.hdr C its), laid := .v (.list (its.map tupD)), gave := .v (.list (List.replicate its.length .none)) })) := by
  have h9 : (cs.map PyData.int)[9]? = some (.int (lastOf cs)) := map_int_at (by omega)
  refine P1.orTape (ds2 := [.int ((lastOf cs).fmod 256)]) 7 rfl (PT.cmp (PE.var 10 rfl) (PE.bin (PE.list (.cons PE.nn .nil)) (PE.cast (PE.callB G.round.len rfl (.cons (PE.var 9 rfl) .nil) (CallR.lenL ?_)) ?_) (BinR.mulL ?_)) (ne_self (shaped_nones _)))
    (PT.hdr (i := 8) rfl fun B' T d l ts O => PT.cmp (PE.items (k := 5) 9 0 G.hc O rfl rfl ?_) (PE.var 10 rfl) (ne_self (shaped_tups its ho))) G.list rfl (PE.list (.cons (PE.bin (PE.sub (PE.var 1 rfl) PE.int (IxR.list (by decide) (by decide) h9)) PE.int (BinR.mod (by decide))) .nil)) (ne_self (shaped_ints _)) (by simp) (by simp)
  · rw [List.length_map]; omega
  · rw [List.length_map]
  · omega
  · omega
def bookOf (its : List (Str × Str)) (j : Nat) : List Str := (its.filter (lowEq (sg (97 + j)))).map (·.2)
def booksD (its : List (Str × Str)) : PyData := .list ((List.range 5).map fun j => strL (bookOf its j))
end
end Mine
end
section
open PySem PySem.W PyProof.Rows
set_option linter.unusedVariables false
set_option linter.unusedSimpArgs false
namespace Mine
section
variable {prog : Program} {w : World} {k : Nat} {env cenv : Env} {H B : Heap} {ρ ρ' ρ₀ : Vs} {md av : List Addr} {D : Addr} {acc : List PyData} {s : Shared} {nm : List Str}
/-- a comprehension's frame and list under way; H is what stood before -/
structure AccSt (cenv : Env) (H : Heap) (md : List Addr) (D : Addr) (av : List Addr) (ρ : Vs) (acc : List PyData) (s : Shared) : Prop where
  base : ∀ b o, H.get? b = some o → s.heap.get? b = some o
  cs : CS cenv md s.heap
  lst : ∃ Ys : List Value, s.heap.PlainList D Ys.toArray ∧ VRs av s.heap acc Ys
  hold : Hold cenv av s.heap ρ []
  alive : ∀ a ∈ av, ∃ o, s.heap.get? a = some o
structure AccFx (cenv : Env) (H B : Heap) (md : List Addr) (D : Addr) (av : List Addr) (nm : List Str) : Prop where
  ok : EnvOk cenv
  loc : cenv.locals ∈ md
  mdav : ∀ a ∈ md, a ∈ av
  Dav : D ∈ av
  Dmd : D ∉ md
  BH : ∀ b o, B.get? b = some o → H.get? b = some o
  hmd : ∀ b o, H.get? b = some o → b ∉ md ∧ b ≠ D
  cl : ∀ x c, x ∈ nm → cenv.cells.lookup x = some c → c ∈ md ∨ ∃ o, H.get? c = some o
theorem AccSt.R (X : AccSt cenv H md D av ρ acc s) (x : AccFx cenv H B md D av nm) : R cenv B ρ [] av s := ⟨x.ok, fun b o e => X.base b o (x.BH b o e), X.hold, X.alive⟩
theorem AccSt.keeps {s' : Shared} (X : AccSt cenv H md D av ρ acc s) (kk : Keeps s s') : AccSt cenv H md D av ρ acc s' where
  base := fun b o e => kp kk b o (X.base b o e)
  cs := ⟨let ⟨m, q⟩ := X.cs.ns; ⟨m, q.keeps (kp kk)⟩, fun c hc hne => let ⟨v, q⟩ := X.cs.cells c hc hne; ⟨v, q.keeps (kp kk)⟩⟩
  lst := let ⟨Ys, h, y⟩ := X.lst; ⟨Ys, h.at fun o e => kp kk _ o e, y.keeps (kp kk)⟩
  hold := X.hold.keeps (kp kk)
  alive := fun a ha => let ⟨o, e⟩ := X.alive a ha; ⟨o, kp kk a o e⟩
theorem AccSt.le (X : AccSt cenv H md D av ρ acc s) (h : Le ρ ρ') : AccSt cenv H md D av ρ' acc s :=
  { X with hold := let ⟨o₂, Z, sub⟩ := X.hold.le h; by rw [List.sublist_nil.mp sub] at Z; exact Z }
theorem AccSt.step {s' : Shared} {wr : List Addr} (X : AccSt cenv H md D av ρ acc s) (x : AccFx cenv H B md D av nm) (hnm : ∀ p ∈ ρ, p.1 ∈ nm) (kb' : Kb wr s s') (hw : ∀ b ∈ wr, b ∉ av) (hB : ∀ b ∈ wr, H.get? b = none) (hsh : ∀ b ∈ wr, ∀ o, s.heap.get? b = some o → ¬ Sq o) : AccSt cenv H md D av ρ acc s' := by
  have kb4 := kb kb'
  have hav : ∀ a ∈ av, a ∉ wr := fun a ha h => hw a h ha
  have mv : Mv av s.heap av s'.heap := fun a o hs ha e => ⟨ha, kb4 a o (fun h => hsh a h o e hs) e⟩
  refine ⟨fun b o e => kb4 b o (fun h => by rw [hB b h] at e; cases e) (X.base b o e), ⟨let ⟨m, q⟩ := X.cs.ns; ⟨m, q.at' fun o e => kb4 _ o (hav _ (x.mdav _ x.loc)) e⟩, fun c hc hne => let ⟨v, o, e, d⟩ := X.cs.cells c hc hne; ⟨v, o, kb4 _ o (hav _ (x.mdav c hc)) e, d⟩⟩,
    let ⟨Ys, h, y⟩ := X.lst; ⟨Ys, h.at fun o e => kb4 D o (hav _ x.Dav) e, y.mv mv⟩, ?_, fun a ha => let ⟨o, e⟩ := X.alive a ha; ⟨o, kb4 a o (hav a ha) e⟩⟩
  have hc : ∀ p ∈ ρ, ∀ c, cenv.cells.lookup p.1 = some c → c ∉ wr := fun p hp c hl hcw => by
    rcases x.cl p.1 c (hnm p hp) hl with h | ⟨o, e⟩
    · exact hav c (x.mdav c h) hcw
    · rw [hB c hcw] at e; cases e
  refine X.hold.move mv (fun p hp W q => ?_) (fun a ha => by cases ha)
  cases q with
  | loc a b c => exact .loc a (b.at' fun o e => kb4 _ o (hav _ (x.mdav _ x.loc)) e) c
  | cell a b c => obtain ⟨o, e, d⟩ := c; exact .cell a b ⟨o, kb4 _ o (hc p hp _ b) e, d⟩
  | free a f b c => obtain ⟨o, e, d⟩ := c; exact .free a f b ⟨o, kb4 _ o (hc p hp _ b) e, d⟩
/-- what one turn adds -/
structure Em (prog : Program) (w : World) (k : Nat) (cenv : Env) (H : Heap) (md : List Addr) (D : Addr) (av : List Addr) (emit : Sem Fin → Sem Fin) (ρ : Vs) (zs : List PyData) : Prop where
  out : ∀ A acc s kc Q E, OkA k A → acc.length + zs.length ≤ 16777216 → AccSt cenv H md D av ρ acc s → (∀ s', Up s s' → (∀ b o, b ∉ md → b ≠ D → s.heap.get? b = some o → s'.heap.get? b = some o) → AccSt cenv H md D av ρ (acc ++ zs) s' → wpAny (model prog w) A kc Q E s') → wpAny (model prog w) A (emit kc) Q E s
theorem Em.one {elt : Expr} {d : PyData} (x : AccFx cenv H B md D av nm) (he : PE prog w k cenv B ρ elt d) : Em prog w k cenv H md D av (fun kc => (do let _ ← call (.builtin "list.append") [.ref D, ← eval elt cenv]) >>= fun _ => kc) ρ [d] := by
  constructor
  intro A acc s kc Q E hA hlen X hk
  refine wpAny_bind (wpAny_bind (wpAny_mono (he.out A [] av s hA (X.R x)) (fun V s₁ p => ?_) fun _ _ e => e.elim))
  have X₁ := X.keeps p.2
  obtain ⟨Ys, hl, hy⟩ := X₁.lst
  rw [List.length_singleton] at hlen
  refine wpAny_bind (wpAny_list_append_plain hl (fun h' hl' hs => wpAny_pure ?_) (by rw [List.size_toArray, hy.length]; exact Nat.le_trans (Nat.le_succ _) hlen))
  have mv : Mv av s₁.heap av h' := fun a o hsq ha e => ⟨ha, (hs.2 a (by rintro rfl; exact ha x.Dav)).trans e⟩
  have hL : cenv.locals ≠ D := fun e => x.Dmd (e ▸ x.loc)
  refine hk _ (up_trans (up_kp p.2) ⟨h', s₁.toks, rfl⟩) (fun b o hb hbD e => (hs.2 b hbD).trans (kp p.2 b o e)) ⟨fun b o e => (hs.2 b (x.hmd b o e).2).trans (X₁.base b o e), ⟨let ⟨m, q⟩ := X₁.cs.ns; ⟨m, q.sameBut hs hL⟩, fun c hc hne => let ⟨v, q⟩ := X₁.cs.cells c hc hne; ⟨v, q.sameBut hs (fun e => x.Dmd (e ▸ hc))⟩⟩, ⟨Ys ++ [V], by rw [← List.push_toArray]; exact hl', (hy.append (.cons p.1 .nil)).mv mv⟩, ?_, fun a ha => ?_⟩
  · refine X₁.hold.move mv (fun q hq W z => ?_) (fun a ha => by cases ha)
    exact z.sameBut hs hL fun dd v hic hld => by
      rintro rfl
      exact cell_ne_list hic hl rfl
  · by_cases q : a = D
    · subst q; obtain ⟨n, e⟩ := hl'; exact ⟨_, e⟩
    · obtain ⟨o, e⟩ := X₁.alive a ha; exact ⟨o, (hs.2 a q).trans e⟩
/-- one turn of a generator of a list comprehension -/
abbrev turnForm (e : Expr) (depth : Nat) (it acc : Value) (cenv : Env) (gpos : Pos) (tgt : Expr) (ifs : List Expr) (emit : Sem Fin → Sem Fin) : Sem Fin :=
  standAt gpos >>= fun _ => pyNext it >>= fun r => match r with
    | none => pure (.done .next)
    | some v => letOwnedTupleGo tgt it v >>= fun _ => assign tgt cenv v >>= fun _ => tests ifs cenv >>= fun ok => if ok = true then emit (again (.compLoop e depth it acc cenv)) else again (.compLoop e depth it acc cenv)
theorem form1 (elt tgt iter : Expr) (ifs : List Expr) (scope : Scope) (pos : Pos) (it acc : Value) (cenv : Env) : compTurn (.ListComp elt [⟨tgt, iter, ifs, 0⟩] scope pos) 0 it acc cenv = turnForm (.ListComp elt [⟨tgt, iter, ifs, 0⟩] scope pos) 0 it acc cenv iter.pos tgt ifs (fun kc => (do let _ ← call (.builtin "list.append") [acc, ← eval elt cenv]) >>= fun _ => kc) := by
  rw [compTurn_list]; rfl
theorem form2b (elt tgt iter tgt2 iter2 : Expr) (ifs ifs2 : List Expr) (scope : Scope) (pos : Pos) (it acc : Value) (cenv : Env) : compTurn (.ListComp elt [⟨tgt, iter, ifs, 0⟩, ⟨tgt2, iter2, ifs2, 0⟩] scope pos) 1 it acc cenv = turnForm (.ListComp elt [⟨tgt, iter, ifs, 0⟩, ⟨tgt2, iter2, ifs2, 0⟩] scope pos) 1 it acc cenv iter2.pos tgt2 ifs2 (fun kc => (do let _ ← call (.builtin "list.append") [acc, ← eval elt cenv]) >>= fun _ => kc) := by rfl
theorem form2a (elt tgt iter tgt2 iter2 : Expr) (ifs ifs2 : List Expr) (scope : Scope) (pos : Pos) (it acc : Value) (cenv : Env) : compTurn (.ListComp elt [⟨tgt, iter, ifs, 0⟩, ⟨tgt2, iter2, ifs2, 0⟩] scope pos) 0 it acc cenv = turnForm (.ListComp elt [⟨tgt, iter, ifs, 0⟩, ⟨tgt2, iter2, ifs2, 0⟩] scope pos) 0 it acc cenv iter.pos tgt ifs
    (fun kc => eval iter2 cenv >>= fun x => standAt iter2.pos >>= fun _ => foldedSetIterable iter2 cenv x >>= fun x => holding [x] (pyIter x) >>= fun it2 => runOwn (.compStart (.ListComp elt [⟨tgt, iter, ifs, 0⟩, ⟨tgt2, iter2, ifs2, 0⟩] scope pos) 1 it2 acc cenv) cenv >>= fun _ => kc) := by rfl
def accAt (p : Nat → Bool) (zs : Nat → List PyData) (n : Nat) : List PyData := (List.range n).flatMap fun i => if p i = true then zs i else []
theorem accAt_succ (p : Nat → Bool) (zs : Nat → List PyData) (n : Nat) : accAt p zs (n + 1) = accAt p zs n ++ (if p n = true then zs n else []) := by
  unfold accAt
  rw [List.range_succ, List.flatMap_append, List.flatMap_cons, List.flatMap_nil, List.append_nil]
theorem acc_loop {A : Around} {R : Result → Shared → Prop} {e : Expr} {depth : Nat} {it : Value} {gpos : Pos} {tgt : Expr} {ifs : List Expr} {emit : Sem Fin → Sem Fin} {its xs : List PyData} {items : List Value} {fp wr : List Addr} {I : Nat → Heap → Prop} {ρi : Nat → Vs} {p : Nat → Bool} {zs : Nat → List PyData} (x : AccFx cenv H B md D av nm) (hA : OkA k A)
    (hc : (Code.compLoop e depth it (.ref D) cenv).quiet = true) (hden : ∀ s Q E, wpAny (model prog w) A (turnForm e depth it (.ref D) cenv gpos tgt ifs emit) Q (fun _ _ => False) s → wpAny (model prog w) (A.under (.compLoop e depth it (.ref D) cenv)) ((model prog w).den (.compLoop e depth it (.ref D) cenv)) Q E s)
    (S : Src prog w tgt its items xs it fp wr I) (h0 : I 0 s.heap) (X : AccSt cenv H md D av ρ₀ acc s) (hv : VRs av s.heap its items) (hwr : ∀ b ∈ wr, H.get? b = none) (hwa : ∀ b ∈ wr, b ∉ av) (hfp : ∀ b ∈ fp, b ∉ md ∧ b ≠ D)
    (hn0 : ∀ q ∈ ρ₀, q.1 ∈ nm) (htot : acc.length + (accAt p zs xs.length).length ≤ 16777216)
    (tg : ∀ i d, xs[i]? = some d → CTg prog w cenv md tgt d ρ₀ (ρi i)) (hle : ∀ i, i < xs.length → Le (ρi i) ρ₀) (ts : ∀ i d, xs[i]? = some d → PTst prog w k cenv B (ρi i) ifs (p i)) (em : ∀ i d, xs[i]? = some d → p i = true → Em prog w k cenv H md D av emit (ρi i) (zs i))
    (fin : ∀ s', Up s s' → (∀ b o, b ∉ wr → b ∉ md → b ≠ D → s.heap.get? b = some o → s'.heap.get? b = some o) → AccSt cenv H md D av ρ₀ (acc ++ accAt p zs xs.length) s' → R (.ok .next) s') :
    codeAny (model prog w) A (.compLoop e depth it (.ref D) cenv) R s := by
  refine codeAny_loop hc (fun n s' => ∃ i, n = xs.length - i ∧ i ≤ xs.length ∧ Up s s' ∧ (∀ b o, b ∉ wr → b ∉ md → b ≠ D → s.heap.get? b = some o → s'.heap.get? b = some o) ∧ I i s'.heap ∧ AccSt cenv H md D av ρ₀ (acc ++ accAt p zs i) s' ∧ VRs av s'.heap its items) ?_ xs.length
    ⟨0, rfl, Nat.zero_le _, up_refl s, fun _ _ _ _ _ e => e, h0, by rw [show accAt p zs 0 = [] from rfl, List.append_nil]; exact X, hv⟩
  rintro n s' ⟨i, rfl, hi, u, hk, hI, X', hv'⟩
  refine hden s' _ _ (wpAny_bind (wpAny_standAt ?_))
  rcases Nat.lt_or_ge i xs.length with hlt | hge
  · have hd := List.getElem?_eq_getElem hlt
    refine wpAny_bind (wpAny_mono (S.item A av s' i _ hA.hh hd hI hv' X'.alive hwa) (fun q s₃ z => ?_) fun _ _ e => e)
    obtain ⟨V, rfl, z⟩ := z
    refine wpAny_bind (wpAny_mono z (fun _ s₄ y => ?_) fun _ _ e => e)
    obtain ⟨hI', hV, hkb⟩ := y
    have kb4 := kb hkb
    have hsh := S.shape i _ hI
    have X4 := X'.step x hn0 hkb hwa hwr hsh
    have mv34 : Mv av s'.heap av s₄.heap := fun a o hs ha e => ⟨ha, kb4 a o (fun hw => hsh a hw o e hs) e⟩
    refine wpAny_bind (wpAny_mono ((tg i _ hd).out A av s₄ V hA.hh X4.cs x.mdav X4.hold hV) (fun _ s₅ q => ?_) fun _ _ e => e)
    obtain ⟨u5, hk45, cs5, H5⟩ := q
    have mv45 : Mv av s₄.heap av s₅.heap := fun a o hs ha e => ⟨ha, hk45 a o (fun hm => ha (x.mdav a hm)) e⟩
    have X5 : AccSt cenv H md D av (ρi i) (acc ++ accAt p zs i) s₅ := ⟨fun b o e => hk45 b o (x.hmd b o e).1 (X4.base b o e), cs5, let ⟨Ys, hl, hy⟩ := X4.lst; ⟨Ys, hl.at fun o e => hk45 D o x.Dmd e, hy.mv mv45⟩, H5, fun a ha => by
      by_cases hm : a ∈ md
      · by_cases hac : a = cenv.locals
        · subst hac; obtain ⟨m, q⟩ := cs5.ns; exact Ns.alive q
        · obtain ⟨v, q⟩ := cs5.cells a hm hac; exact IsCell.alive q
      · obtain ⟨o, e⟩ := X4.alive a ha; exact ⟨o, hk45 a o hm e⟩⟩
    refine wpAny_bind (wpAny_mono ((ts i _ hd).out A [] av s₅ hA (X5.R x)) (fun b s₆ q => ?_) fun _ _ e => e)
    obtain ⟨rfl, k6⟩ := q
    have X6 := X5.keeps k6
    have hk6 : ∀ b o, b ∉ wr → b ∉ md → b ≠ D → s'.heap.get? b = some o → s₆.heap.get? b = some o := fun b o h1 h2 h3 e => kp k6 b o (hk45 b o h2 (kb4 b o h1 e))
    have hI6 : I (i + 1) s₆.heap := S.frame _ _ _ hI' fun b hb o e => kp k6 b o (hk45 b o (hfp b hb).1 e)
    have hv6 : VRs av s₆.heap its items := ((hv'.mv mv34).mv mv45).keeps (kp k6)
    have u6 := up_trans u (up_trans (kb_up hkb) (up_trans u5 (up_kp k6)))
    by_cases hp : p i = true
    · rw [if_pos hp]
      have hlz : (acc ++ accAt p zs i).length + (zs i).length ≤ 16777216 := by
        have h1 := accAt_succ p zs i
        rw [if_pos hp] at h1
        have h2 : (accAt p zs (i + 1)).length ≤ (accAt p zs xs.length).length := by
          have key : ∀ a b, a ≤ b → (accAt p zs a).length ≤ (accAt p zs b).length := by
            intro a b hab
            induction hab with
            | refl => exact Nat.le_refl _
            | step _ ih => rw [accAt_succ, List.length_append]; omega
          exact key _ _ hlt
        rw [h1, List.length_append] at h2
        rw [List.length_append]; omega
      refine (em i _ hd hp).out A _ s₆ _ _ _ hA hlz X6 fun s₇ u7 hk7 X7 => ?_
      refine wpAny_pure ⟨rfl, xs.length - (i + 1), by omega, i + 1, rfl, hlt, up_trans u6 u7, fun b o h1 h2 h3 e => hk7 b o h2 h3 (hk6 b o h1 h2 h3 (hk b o h1 h2 h3 e)), S.frame _ _ _ hI6 fun b hb o e => hk7 b o (hfp b hb).1 (hfp b hb).2 e, ?_, ?_⟩
      · rw [accAt_succ, if_pos hp, ← List.append_assoc]; exact X7.le (hle i hlt)
      · exact hv6.mv fun a o hs ha e => ⟨ha, hk7 a o (fun hm => ha (x.mdav a hm)) (fun hd => ha (hd ▸ x.Dav)) e⟩
    · rw [if_neg hp]
      refine wpAny_pure ⟨rfl, xs.length - (i + 1), by omega, i + 1, rfl, hlt, u6, fun b o h1 h2 h3 e => hk6 b o h1 h2 h3 (hk b o h1 h2 h3 e), hI6, ?_, hv6⟩
      rw [accAt_succ, if_neg hp, List.append_nil]; exact X6.le (hle i hlt)
  · have : i = xs.length := Nat.le_antisymm hi hge
    subst this
    refine wpAny_bind (wpAny_mono (S.done A s' hA.hh hI) (fun q s₃ z => ?_) fun _ _ e => e)
    obtain ⟨rfl, hkb⟩ := z
    exact wpAny_pure (fin s₃ (up_trans u (kb_up hkb)) (fun b o h1 h2 h3 e => kb hkb b o h1 (hk b o h1 h2 h3 e)) (X'.step x hn0 hkb hwa hwr (S.shape _ _ hI)))
end
end Mine
end
section
open PySem PySem.W PyProof.Rows
set_option linter.unusedVariables false
set_option linter.unusedSimpArgs false
namespace Mine
section
variable {prog : Program} {w : World} {k : Nat} {env cenv : Env} {H B : Heap} {ρ ρ' ρ₀ : Vs} {md av : List Addr} {D : Addr} {acc : List PyData} {s : Shared} {nm : List Str}
/-- a list comprehension with whatever generators behind the first, own cells too -/
structure CompG (prog : Program) (w : World) (k : Nat) (env : Env) (B : Heap) (ρ : Vs) (tgt iter : Expr) (ifs : List Expr) (scope : Scope) (cl : List (Str × Addr)) (own : Nat → List Addr) (xs : List PyData) (ρ₀ : Vs) (ρi : Nat → Vs) (p : Nat → Bool) : Prop where
  clos : closureFor scope env = pure cl
  kind : scope.kind = .function
  names : ∀ y ∈ scope.names, y.2 = .local → scope.names.lookup y.1 = some .local
  src : PIc prog w k env B ρ tgt iter xs
  own_ok : ∀ C, ∀ c ∈ own C, C < c ∧ ∀ h : Heap, h.objs.size = C + 1 → ∃ v, (pushCells h scope.names).IsCell c v
  cap : ∀ C av h os, Hold env av h ρ os → Hold (cEnv scope cl C env) av h ρ₀ []
  nms : ∀ C x, x ∈ ρ₀.map (·.1) → (cEnv scope cl C env).cells.lookup x = none ∨ (∃ c ∈ own C, (cEnv scope cl C env).cells.lookup x = some c) ∨ ((cEnv scope cl C env).kindOf x ≠ some .local ∧ ∃ (i : Nat) (d : PyData), ρ₀[i]? = some (x, Sl.v d))
  tg : ∀ C, (∀ x c, (cEnv scope cl C env).kindOf x ≠ some .local → (∃ (i : Nat) (d : PyData), ρ₀[i]? = some (x, Sl.v d)) → (cEnv scope cl C env).cells.lookup x = some c → c ∉ own C) → ∀ i d, xs[i]? = some d → CTg prog w (cEnv scope cl C env) (C :: own C) tgt d ρ₀ (ρi i)
  le : ∀ i, i < xs.length → Le (ρi i) ρ₀
  ts : ∀ C i d, xs[i]? = some d → PTst prog w k (cEnv scope cl C env) B (ρi i) ifs (p i)
theorem compG_block {elt tgt iter : Expr} {ifs : List Expr} {rest : List Comprehension} {scope : Scope} {cl : List (Str × Addr)} {own : Nat → List Addr} {xs : List PyData} {ρi : Nat → Vs} {p : Nat → Bool} {zs : Nat → List PyData} {emit : Nat → Addr → Sem Fin → Sem Fin} {pos : Pos} (K : CompG prog w k env B ρ tgt iter ifs scope cl own xs ρ₀ ρi p)
    (hform : ∀ C D it, compTurn (.ListComp elt (⟨tgt, iter, ifs, 0⟩ :: rest) scope pos) 0 it (.ref D) (cEnv scope cl C env) = turnForm (.ListComp elt (⟨tgt, iter, ifs, 0⟩ :: rest) scope pos) 0 it (.ref D) (cEnv scope cl C env) iter.pos tgt ifs (emit C D))
    (em : ∀ C D H av, AccFx (cEnv scope cl C env) H B (C :: own C) D av (ρ₀.map (·.1)) → ∀ i d, xs[i]? = some d → p i = true → Em prog w k (cEnv scope cl C env) H (C :: own C) D av (emit C D) (ρi i) (zs i))
    (htot : (accAt p zs xs.length).length ≤ 16777216)
    {A : Around} {os av : List Addr} {s₂ : Shared} {it : Value} {its : List PyData} {items : List Value} {fp wr : List Addr} {I : Nat → Heap → Prop} {RR : Value → Addr → Result → Shared → Prop} (hA : OkA k A) (r : R env B ρ os av s) (k₂ : Keeps s s₂)
    (S : Src prog w tgt its items xs it fp wr I) (h0 : I 0 s₂.heap) (hv : VRs av s₂.heap its items) (hwr : ∀ b ∈ wr, s.heap.get? b = none) (hlen : xs.length ≤ 16777216)
    (hRR : ∀ D C h' tk m' Ys, s₂.heap.get? D = none → s₂.heap.get? C = none → D ≠ C → h'.Ns C m' → h'.PlainList D Ys.toArray → VRs av h' (accAt p zs xs.length) Ys → (∀ b o, b ∉ wr → s₂.heap.get? b = some o → h'.get? b = some o) → RR (.ref D) C (.ok .next) { s₂ with heap := h', toks := tk }) :
    wpAny (model prog w) A (newList []) (fun acc s₃ => wpAny (model prog w) A (newFunctionEnv scope env.globals cl [] env.qual none .none (some env)) (fun cenv s₄ =>
      codeAny (model prog w) A (.compStart (.ListComp elt (⟨tgt, iter, ifs, 0⟩ :: rest) scope pos) 0 it acc { cenv with scope := relabel scope env }) (RR acc cenv.locals) s₄) No s₃) No s₂ := by
  refine wpAny_newObj_type (newEnv_comp ?_)
  generalize hH : s₂.heap.push { cls := .type "list", dict := none, data := .seq ([] : List Value).toArray } = H2
  have hC : H2.objs.size = s₂.heap.objs.size + 1 := by rw [← hH, Heap.size_push]
  generalize hD : s₂.heap.objs.size = D at hC ⊢
  generalize hCC : H2.objs.size = C at hC ⊢
  have fresh : ∀ a, D ≤ a → s₂.heap.get? a = none := fun a ha => by
    cases e : s₂.heap.get? a with
    | none => rfl
    | some o' => exact absurd (Heap.lt_size e) (by rw [hD]; exact Nat.not_lt.mpr ha)
  have hDC : D ≠ C := by rw [hC]; exact Nat.ne_of_lt (Nat.lt_succ_self _)
  have hownC : ∀ c ∈ own C, C < c := fun c hc => (K.own_ok C c hc).1
  generalize hH3 : pushCells (H2.push { cls := .type "dict", data := .dict #[] }) scope.names = H3
  have old : ∀ b o, s₂.heap.get? b = some o → H3.get? b = some o := fun b o e => by
    rw [← hH3, ← hH]; exact pushCells_keeps _ _ _ _ (Heap.get?_push_of_some _ (Heap.get?_push_of_some _ e))
  have hacc : H3.PlainList D #[] := ⟨0, by rw [← hH3, ← hH, ← hD]; exact pushCells_keeps _ _ _ _ (Heap.get?_push_of_some _ (Heap.get?_push_size _ rfl))⟩
  have hns : H3.Ns C (fun _ => none) := by
    rw [← hH3, ← hCC]; exact (Heap.Ns.new H2 (.type "dict")).keeps (pushCells_keeps _ _)
  let md := C :: own C
  let av' := md ++ (D :: av)
  have hmd : ∀ a ∈ md, s₂.heap.get? a = none ∧ a ≠ D := fun a ha => by
    rcases List.mem_cons.mp ha with rfl | ha
    · exact ⟨fresh _ (by rw [hC]; exact Nat.le_succ _), Ne.symm hDC⟩
    · have := hownC a ha
      rw [hC] at this
      exact ⟨fresh _ (by omega), by omega⟩
  have hmds : ∀ a ∈ md, s.heap.get? a = none := fun a ha => kp_none k₂ (hmd a ha).1
  have hDs : s.heap.get? D = none := kp_none k₂ (fresh _ (Nat.le_refl _))
  have hcs : CS (cEnv scope cl C env) md H3 := ⟨⟨_, hns⟩, fun c hc hne => by
    rcases List.mem_cons.mp hc with rfl | hc
    · exact absurd rfl hne
    · rw [← hH3]; exact (K.own_ok C c hc).2 _ (by rw [Heap.size_push, hCC])⟩
  have hst₁ : I 0 H3 := S.frame _ _ _ h0 fun b _ o e => old b o e
  have hav2 : ∀ a ∈ av', a ∈ av ∨ s₂.heap.get? a = none := fun a ha => by
    rcases List.mem_append.mp ha with h | h
    · exact .inr (hmd a h).1
    · rcases List.mem_cons.mp h with rfl | h
      · exact .inr (fresh _ (Nat.le_refl _))
      · exact .inl h
  have hwr2 : ∀ b ∈ wr, b ∉ av' := fun b hb hm => by
    obtain ⟨o, e⟩ := S.alive 0 _ h0 b (S.sub b hb)
    rcases hav2 b hm with h | h
    · obtain ⟨o', e'⟩ := r.alive b h
      rw [hwr b hb] at e'; cases e'
    · rw [e] at h; cases h
  have mv3 : Mv av s₂.heap av' H3 := fun a o hs ha e => ⟨fun hm => (hav2 a hm).elim ha fun q => (by rw [e] at q; cases q), old a o e⟩
  have hold0 : Hold (cEnv scope cl C env) av s.heap ρ₀ [] := K.cap C av s.heap os r.hold
  have hold3 : Hold (cEnv scope cl C env) av' H3 ρ₀ [] := by
    refine K.cap C av' H3 os (r.hold.move (fun a o hs ha e => ⟨fun hm => (hav2 a hm).elim ha fun q => (by rw [kp k₂ a o e] at q; cases q), old a o (kp k₂ a o e)⟩) (fun p _ W q => q.keeps fun b o e => old b o (kp k₂ b o e)) fun a _ o e => old a o (kp k₂ a o e))
  have hal : ∀ x c, (cEnv scope cl C env).kindOf x ≠ some .local → (∃ (i : Nat) (d : PyData), ρ₀[i]? = some (x, Sl.v d)) → (cEnv scope cl C env).cells.lookup x = some c → ∃ o, s.heap.get? c = some o := fun x c hk ⟨i, d, hi⟩ hl => by
    obtain ⟨V, hV, _⟩ := hold0.at hi
    cases hV with
    | loc a _ _ => exact absurd a hk
    | cell a b c => rw [hl] at b; cases b; exact IsCell.alive c
    | free a _ b c => rw [hl] at b; cases b; exact IsCell.alive c
  have X0 : AccSt (cEnv scope cl C env) s.heap md D av' ρ₀ [] { s₂ with heap := H3 } := ⟨fun b o e => old b o (kp k₂ b o e), hcs, ⟨[], hacc, .nil⟩, hold3, fun a ha => by
    rcases List.mem_append.mp ha with h | h
    · by_cases hac : a = C
      · subst hac; exact Ns.alive hns
      · obtain ⟨v, q⟩ := hcs.cells a h hac; exact IsCell.alive q
    · rcases List.mem_cons.mp h with rfl | h
      · obtain ⟨n, e⟩ := hacc; exact ⟨_, e⟩
      · obtain ⟨o, e⟩ := r.alive a h; exact ⟨o, old a o (kp k₂ a o e)⟩⟩
  have fx : AccFx (cEnv scope cl C env) s.heap B md D av' (ρ₀.map (·.1)) := ⟨⟨K.kind, r.ok.glob, r.ok.blt⟩, .head _, fun a ha => List.mem_append_left _ ha, List.mem_append_right _ (.head _), fun h => (hmd D h).2 rfl, r.base, fun b o e => ⟨fun h => (by rw [hmds b h] at e; cases e), fun h => (by rw [h, hDs] at e; cases e)⟩, fun x c hx hl => by
    rcases K.nms C x hx with h | ⟨c', hc', h⟩ | ⟨hk, hi⟩
    · rw [h] at hl; cases hl
    · rw [h] at hl; cases hl; exact .inl (.tail _ hc')
    · exact .inr (hal x c hk hi hl)⟩
  have tg := K.tg C fun x c hk hi hl hm => by
    obtain ⟨o, e⟩ := hal x c hk hi hl
    rw [hmds c (.tail _ hm)] at e; cases e
  have loop : codeAny (model prog w) A (.compLoop (.ListComp elt (⟨tgt, iter, ifs, 0⟩ :: rest) scope pos) 0 it (.ref D) (cEnv scope cl C env)) (RR (.ref D) C) { s₂ with heap := H3 } := by
    refine acc_loop (gpos := iter.pos) (tgt := tgt) (ifs := ifs) (emit := emit C D) (ρi := ρi) (p := p) (zs := zs) fx hA rfl (fun s Q E h => ?_) S hst₁ X0 (hv.mv mv3) hwr hwr2 (fun b hb => ?_) (fun q hq => List.mem_map_of_mem (f := (·.1)) hq) (by rw [List.length_nil]; omega) tg K.le (K.ts C) (em C D _ _ fx) fun s' u hk X' => ?_
    · show wpAny _ A ((compTurn (.ListComp elt (⟨tgt, iter, ifs, 0⟩ :: rest) scope pos) 0 it (.ref D) (cEnv scope cl C env)).onRaise (fun x => do noteFrame x (cEnv scope cl C env); theTreesLotGoes x)) _ _ s
      refine wpAny_noted ?_
      rw [hform]
      exact wpAny_mono h (fun _ _ q => q) fun _ _ e => e.elim
    · obtain ⟨o, e⟩ := S.alive 0 _ h0 b hb
      exact ⟨fun hm => (by rw [(hmd b hm).1] at e; cases e), fun hd => (by rw [hd, fresh _ (Nat.le_refl _)] at e; cases e)⟩
    · obtain ⟨m, hn⟩ := X'.cs.ns
      obtain ⟨Ys, hl, hy⟩ := X'.lst
      rw [List.nil_append] at hy
      have eCL : (cEnv scope cl C env).locals = C := rfl
      rw [eCL] at hn
      obtain ⟨h3, t3, rfl⟩ := u
      refine hRR D C h3 t3 m Ys (fresh _ (Nat.le_refl _)) (hmd C (.head _)).1 hDC hn hl (hy.sub fun a ha => List.mem_append_right _ (.tail _ ha)) fun b o hb e => ?_
      exact hk b o hb (fun hm => by rw [(hmd b hm).1] at e; cases e) (fun hd => by rw [hd, fresh _ (Nat.le_refl _)] at e; cases e) (old b o e)
  exact codeAny_compStart_list loop (wpAny_mono (S.self A _ 0 hA.hh hst₁) (fun V s' q => by obtain ⟨rfl, rfl⟩ := q; exact loop) fun _ _ e => e.elim)
theorem PE.compG {elt tgt iter : Expr} {ifs : List Expr} {rest : List Comprehension} {scope : Scope} {cl : List (Str × Addr)} {own : Nat → List Addr} {xs : List PyData} {ρi : Nat → Vs} {p : Nat → Bool} {zs : Nat → List PyData} {emit : Nat → Addr → Sem Fin → Sem Fin} {pos : Pos} (K : CompG prog w k env B ρ tgt iter ifs scope cl own xs ρ₀ ρi p)
    (hform : ∀ C D it, compTurn (.ListComp elt (⟨tgt, iter, ifs, 0⟩ :: rest) scope pos) 0 it (.ref D) (cEnv scope cl C env) = turnForm (.ListComp elt (⟨tgt, iter, ifs, 0⟩ :: rest) scope pos) 0 it (.ref D) (cEnv scope cl C env) iter.pos tgt ifs (emit C D))
    (em : ∀ C D H av, AccFx (cEnv scope cl C env) H B (C :: own C) D av (ρ₀.map (·.1)) → ∀ i d, xs[i]? = some d → p i = true → Em prog w k (cEnv scope cl C env) H (C :: own C) D av (emit C D) (ρi i) (zs i))
    (htot : (accAt p zs xs.length).length ≤ 16777216) (hs : ∀ x, foldedSetIterable iter env x = pure x := by intro _; rfl) : PE prog w k env B ρ (.ListComp elt (⟨tgt, iter, ifs, 0⟩ :: rest) scope pos) (.list (accAt p zs xs.length)) := by
  constructor
  intro A os av s hA r
  rw [eval_ListComp]
  refine wpAny_comprehension_free (use := none) rfl hs K.clos K.kind K.names (wpAny_mono (K.src.out A os av s hA r) (fun xv s₁ h₁ => wpAny_mono h₁ (fun it s₂ h₂ => ?_) fun _ _ e => e) fun _ _ e => e)
  obtain ⟨k₂, its, items, fp, wr, I, S, h0, hv, hwr, hlen⟩ := h₂
  refine compG_block (RR := fun acc C => compPost (model prog w) A No none (fun V s' => VR av s'.heap (.list (accAt p zs xs.length)) V ∧ Keeps s s') acc C) K hform em htot hA r k₂ S h0 hv hwr hlen ?_
  intro D C h' tk m' Ys hD hC hDC hn hl hY hk
  have hDav : D ∉ av := fun hm => by obtain ⟨o, e⟩ := r.alive D hm; rw [kp k₂ D o e] at hD; cases hD
  have hCav : C ∉ av := fun hm => by obtain ⟨o, e⟩ := r.alive C hm; rw [kp k₂ C o e] at hC; cases hC
  refine ⟨m', hn, fun h'' hs'' => ⟨.listP hDav (hl.extBut hs''.extBut hDC) ?_, ?_⟩⟩
  · refine hY.mv fun a o hsq ha e => ⟨ha, (hs''.2 a ?_).trans e⟩
    rintro rfl
    obtain ⟨o', es, ep, e', d', _⟩ := hn
    rw [e] at e'; cases e'
    obtain ⟨vs, n, h4 | h4⟩ := hsq <;> rw [h4] at d' <;> cases d'
  · obtain ⟨h₂, t₂, rfl, kk₂⟩ := k₂
    refine ⟨h'', tk, rfl, fun b o e => (hs''.2 b ?_).trans (hk b o (fun hw => by rw [hwr b hw] at e; cases e) (kk₂ b o e))⟩
    rintro rfl
    rw [kk₂ _ o e] at hC; cases hC
theorem P1.setCompG (i : Nat) {x : Str} {sl : Sl} {px : Pos} {elt tgt iter : Expr} {ifs : List Expr} {rest : List Comprehension} {scope : Scope} {cl : List (Str × Addr)} {own : Nat → List Addr} {xs : List PyData} {ρi : Nat → Vs} {p : Nat → Bool} {zs : Nat → List PyData} {emit : Nat → Addr → Sem Fin → Sem Fin} {pos spos : Pos} (K : CompG prog w k env B ρ tgt iter ifs scope cl own xs ρ₀ ρi p)
    (hform : ∀ C D it, compTurn (.ListComp elt (⟨tgt, iter, ifs, 0⟩ :: rest) scope pos) 0 it (.ref D) (cEnv scope cl C env) = turnForm (.ListComp elt (⟨tgt, iter, ifs, 0⟩ :: rest) scope pos) 0 it (.ref D) (cEnv scope cl C env) iter.pos tgt ifs (emit C D))
    (em : ∀ C D H av, AccFx (cEnv scope cl C env) H B (C :: own C) D av (ρ₀.map (·.1)) → ∀ i d, xs[i]? = some d → p i = true → Em prog w k (cEnv scope cl C env) H (C :: own C) D av (emit C D) (ρi i) (zs i))
    (htot : (accAt p zs xs.length).length ≤ 16777216) (hi : ρ[i]? = some (x, sl)) (hk : Stor env x) {out : List PyData} (ho : accAt p zs xs.length = out) (h : ρ.set i (x, .v (.list out)) = ρ' := by rfl)
    (hsw : swapsWith (.ListComp elt (⟨tgt, iter, ifs, 0⟩ :: rest) scope pos) (some (.Name x px)) spos.line env = pure true := by rfl) (hfa : firstAsync (⟨tgt, iter, ifs, 0⟩ :: rest) = false := by rfl) (hs : ∀ x, foldedSetIterable iter env x = pure x := by intro _; rfl) :
    P1 prog w k env B ρ (.Assign [.Name x px] (.ListComp elt (⟨tgt, iter, ifs, 0⟩ :: rest) scope pos) spos) (.nx ρ') := by
  subst h ho
  constructor
  intro A F av₀ os s hA X
  obtain ⟨o₁, r, ho₁⟩ := X.R
  rw [exec_Assign_Name_used _ _ _ _ hsw]
  refine wpAny_bind (wpAny_standAt (wpAny_bind ?_))
  show wpAny _ A (do let _ ← comprehension (.ListComp elt (⟨tgt, iter, ifs, 0⟩ :: rest) scope pos) scope env _ (newList []) false (eval iter env) (some (assign (.Name x px) env))) _ _ s
  refine wpAny_bind (wpAny_mono (wpAny_comprehension_free (use := some (assign (.Name x px) env)) (Q := fun _ s' => Up s s' ∧ ∃ os', St env B F av₀ (ρ.set i (x, .v (.list (accAt p zs xs.length)))) os' s') rfl hs K.clos K.kind K.names
    (wpAny_mono (K.src.out A _ _ s hA r) (fun xv s₁ h₁ => wpAny_mono h₁ (fun it s₂ h₂ => ?_) fun _ _ e => e) fun _ _ e => e)) (fun _ s' hq => wpAny_pure (wpAny_pure ⟨hq.1, rfl, hq.2⟩)) fun _ _ e => e)
  obtain ⟨k₂, its, items, fp, wr, I, S, h0, hv, hwr, hlen⟩ := h₂
  refine compG_block (RR := fun acc C => compPost (model prog w) A No (some (assign (.Name x px) env)) (fun _ s' => Up s s' ∧ ∃ os', St env B F av₀ (ρ.set i (x, .v (.list (accAt p zs xs.length)))) os' s') acc C) K hform em htot hA r k₂ S h0 hv hwr hlen ?_
  intro D C h' tk m' Ys hD hC hDC hn hl hY hk'
  have hsC : s.heap.get? C = none := kp_none k₂ hC
  have hDav : D ∉ avOf env os av₀ := fun hm => by obtain ⟨o, e⟩ := r.alive D hm; rw [kp k₂ D o e] at hD; cases hD
  have hCav : C ∉ avOf env os av₀ := fun hm => by obtain ⟨o, e⟩ := r.alive C hm; rw [kp k₂ C o e] at hC; cases hC
  have kk : Keeps s { s₂ with heap := h', toks := tk } := by
    obtain ⟨h₂, t₂, rfl, kk₂⟩ := k₂
    exact ⟨h', tk, rfl, fun b o e => hk' b o (fun hw => by rw [hwr b hw] at e; cases e) (kk₂ b o e)⟩
  refine wpAny_mono (wpAny_assign_Name ((X.keeps kk).putV' hi hk (.listP hDav hl hY))) (fun _ s₃ q => ?_) fun _ _ e => e
  obtain ⟨u, X₃, pr⟩ := q
  have hn3 : s₃.heap.Ns C m' := hn.at' fun o e => pr C o hCav e
  refine ⟨m', hn3, fun h'' hs'' => ?_⟩
  obtain ⟨h3, t3, rfl⟩ := up_trans (up_kp kk) u
  refine ⟨⟨h'', t3, rfl⟩, os, X₃.junk hs'' hCav (X.F_none hsC) fun o e hsq => ?_⟩
  obtain ⟨o', es, ep, e', d', _⟩ := hn3
  rw [e] at e'; cases e'
  obtain ⟨vs, n, h4 | h4⟩ := hsq <;> rw [h4] at d' <;> cases d'
end
end Mine
end
section
open PySem PySem.W PyProof.Rows
set_option linter.unusedVariables false
set_option linter.unusedSimpArgs false
namespace Mine
section
variable {prog : Program} {w : World} {k : Nat} {env cenv : Env} {H B : Heap} {ρ ρ' ρ₀ : Vs} {md av : List Addr} {D : Addr} {acc : List PyData} {s : Shared} {nm : List Str}
theorem compStart2 {A : Around} {R : Result → Shared → Prop} {elt : Expr} {g1 : Comprehension} {target iter : Expr} {ifs : List Expr} {scope : Scope} {pos : Pos} {it acc : Value} {env : Env}
    (h0 : codeAny (model prog w) A (.compLoop (.ListComp elt [g1, ⟨target, iter, ifs, 0⟩] scope pos) 1 it acc env) R s)
    (h : wpAny (model prog w) A (pyIter it) (fun it' s' => codeAny (model prog w) A (.compLoop (.ListComp elt [g1, ⟨target, iter, ifs, 0⟩] scope pos) 1 it' acc env) R s') (fun _ _ => False) s) :
    codeAny (model prog w) A (.compStart (.ListComp elt [g1, ⟨target, iter, ifs, 0⟩] scope pos) 1 it acc env) R s := by
  refine codeAny_of_tree ?_
  show wpAny _ _ ((compStart (.ListComp elt [g1, ⟨target, iter, ifs, 0⟩] scope pos) 1 it acc env).onRaise (fun x => do noteFrame x env; standAt theWindowsPlace)) _ _ s
  refine wpAny_notedAt ?_
  unfold compStart
  show wpAny _ _ (ask >>= _) _ _ s
  refine wpAny_bind (wpAny_askSetting (wpAny_ite ?_))
  split
  · first
      | exact wpAny_bind (wpAny_pure (wpAny_pure (And.intro rfl h0)))
      | exact wpAny_pure (And.intro rfl h0)
  · first
      | exact wpAny_bind (wpAny_rule (wpAny_bind (wpAny_standAt (wpAny_bind (wpAny_mono h (fun it' s' h' => wpAny_pure (And.intro rfl h')) fun _ _ x => x.elim)))))
      | (refine wpAny_bind (wpAny_rule ?_); show wpAny _ _ (standAt iter.pos >>= _) _ _ s; exact wpAny_bind (wpAny_standAt (wpAny_bind (wpAny_mono h (fun it' s' h' => wpAny_pure (And.intro rfl h')) fun _ _ x => x.elim))))
theorem Em.inner {elt tgt iter tgt2 iter2 : Expr} {ifs : List Expr} {scope : Scope} {pos : Pos} {xs : List PyData} {ρj : Nat → Vs} {f : Nat → PyData} (x : AccFx cenv H B md D av nm) (hnm : ∀ q ∈ ρ, q.1 ∈ nm) (src : PI prog w k cenv B ρ tgt2 iter2 xs)
    (tg : ∀ j d, xs[j]? = some d → CTg prog w cenv md tgt2 d ρ (ρj j)) (le : ∀ j, j < xs.length → Le (ρj j) ρ) (el : ∀ j d, xs[j]? = some d → PE prog w k cenv B (ρj j) elt (f j)) (hs : ∀ x, foldedSetIterable iter2 cenv x = pure x := by intro _; rfl) :
    Em prog w k cenv H md D av (fun kc => eval iter2 cenv >>= fun x => standAt iter2.pos >>= fun _ => foldedSetIterable iter2 cenv x >>= fun x => holding [x] (pyIter x) >>= fun it2 => runOwn (.compStart (.ListComp elt [⟨tgt, iter, ifs, 0⟩, ⟨tgt2, iter2, [], 0⟩] scope pos) 1 it2 (.ref D) cenv) cenv >>= fun _ => kc) ρ (accAt (fun _ => true) (fun j => [f j]) xs.length) := by
  constructor
  intro A acc s kc Q E hA hlen X hk
  refine wpAny_bind (wpAny_mono (src.out A [] av s hA (X.R x)) (fun xv s₁ h₁ => ?_) fun _ _ e => e.elim)
  refine wpAny_bind (wpAny_standAt (wpAny_bind (wpAny_of_eq (hs xv) (wpAny_bind (wpAny_holding (wpAny_mono h₁ (fun it s₂ h₂ => ?_) fun _ _ e => e.elim))))))
  obtain ⟨k₂, its, items, fp, wr, I, S, h0, hv, hwr, hlen2, hfp⟩ := h₂
  have X₂ := X.keeps k₂
  have hwH : ∀ b ∈ wr, H.get? b = none := fun b hb => by
    cases e : H.get? b with
    | none => rfl
    | some o => have := X.base b o e; rw [hwr b hb] at this; cases this
  have hwa : ∀ b ∈ wr, b ∉ av := fun b hb hm => by obtain ⟨o, e⟩ := X.alive b hm; rw [hwr b hb] at e; cases e
  have loop : codeAny (model prog w) A (.compLoop (.ListComp elt [⟨tgt, iter, ifs, 0⟩, ⟨tgt2, iter2, [], 0⟩] scope pos) 1 it (.ref D) cenv) (fun r s' => match r with | .ok f => wpAny (model prog w) A kc Q E s' | .error e => cameBackBy (model prog w) A cenv E e s') s₂ := by
    refine acc_loop (gpos := iter2.pos) (tgt := tgt2) (ifs := []) (emit := fun kc => (do let _ ← call (.builtin "list.append") [.ref D, ← eval elt cenv]) >>= fun _ => kc) (ρi := ρj) (p := fun _ => true) (zs := fun j => [f j]) x hA rfl (fun s Q E h => ?_) S h0 X₂ hv hwH hwa (fun b hb => ⟨fun hm => hfp b hb (x.mdav b hm), fun hd => hfp b hb (hd ▸ x.Dav)⟩) hnm (by omega) tg le (fun _ _ _ => .nil) (fun j d hd _ => Em.one x (el j d hd)) fun s' u hk' X' => ?_
    · show wpAny _ A ((compTurn (.ListComp elt [⟨tgt, iter, ifs, 0⟩, ⟨tgt2, iter2, [], 0⟩] scope pos) 1 it (.ref D) cenv).onRaise (fun x => do noteFrame x cenv; theTreesLotGoes x)) _ _ s
      refine wpAny_noted ?_
      rw [form2b]
      exact wpAny_mono h (fun _ _ q => q) fun _ _ e => e.elim
    · exact hk s' (up_trans (up_kp k₂) u) (fun b o h1 h2 e => hk' b o (fun hw => by rw [hwr b hw] at e; cases e) h1 h2 (kp k₂ b o e)) X'
  exact wpAny_bind (wpAny_runOwn (compStart2 loop (wpAny_mono (S.self A _ 0 hA.hh h0) (fun V s' q => by obtain ⟨rfl, rfl⟩ := q; exact loop) fun _ _ e => e)))
end
end Mine
end
section
open PySem PySem.W PyProof.Rows
set_option linter.unusedVariables false
set_option linter.unusedSimpArgs false
namespace Mine
theorem accAt_map (f : Nat → PyData) (n : Nat) : accAt (fun _ => true) (fun j => [f j]) n = (List.range n).map f := by
  unfold accAt
  simp only [if_true]
  induction n with
  | zero => rfl
  | succ n ih => rw [List.range_succ, List.flatMap_append, List.map_append, ih]; rfl
def nj (j : Nat) : Str := sg (if j % 2 = 0 then 97 + j else 65 + j)
theorem signs_aB : signs "aBcDe" = (List.range 5).map fun j => .str (nj j) := by rfl
theorem signs_ab : signs "abcde" = (List.range 5).map fun j => .str (sg (97 + j)) := by rfl
theorem nj_low : ∀ j : Nat, j < 5 → Txt.lower (nj j) = sg (97 + j) := by decide +kernel
theorem range_at {n j : Nat} {f : Nat → PyData} {d : PyData} (h : ((List.range n).map f)[j]? = some d) : d = f j ∧ j < n := by
  have hl := lt_of_at h
  rw [List.length_map, List.length_range] at hl
  rw [List.getElem?_map, List.getElem?_range hl] at h
  cases h; exact ⟨rfl, hl⟩
theorem sg_len (c : Nat) : (sg c).length ≤ 16777216 := Nat.le_of_ble_eq_true rfl
section
variable {env E cenv : Env} {B : Heap} {ρ ρ' : Vs} {prog : Program} {w : World} {k : Nat} {L f : Addr} {cd : Value} {av : List Addr} {h : Heap} {os : List Addr} {r : Vs} {x g : Str}
variable {C T0 fi fc fg ft fa pN pV : Addr} {K : Frag} {cN cV : Array Nat} {f3 f4 f6 f11 f12 f20 f21 f22 f23 f24 : Addr}
set_option maxRecDepth 100000 in
theorem law11 (G : LawG B C T0 fi fc fg ft fa pN pV K cN cV f3 f4 f6 f11 f12 f20 f21 f22 f23 f24) (Z : SignOk cN cV) (its : List (Str × Str)) (hl : its.length ≤ 20) (hlo : ∀ p ∈ its, (Txt.lower p.1).length ≤ 16777216) (s s1 s2 s3 s4 s6 s9 s10 : Sl) :
    P1 prog w 6 (LE L f cd) B (LSt.vs { script := s, cells := s1, wants := s2, behind := s3, supplies := s4, lines := s6, table := .o (.hdr C its), laid := s9, gave := s10 }) (lst 11)
      (.nx (LSt.vs { script := s, cells := s1, wants := s2, behind := s3, supplies := s4, lines := s6, table := .o (.hdr C its), laid := s9, gave := s10, books := .v (booksD its) })) := by
  refine S1.set 16 (PE.hdr (i := 8) rfl fun B' T d l ts O => compE (xs := signs "aBcDe") (own := fun _ => []) (ρ₀ := [("name", .no), ("table", .v (hnd T)), ("", .k (its.map tupD) (ts.map .ref))]) (ρi := fun j => [("name", .v (.str (nj j))), ("table", .v (hnd T)), ("", .k (its.map tupD) (ts.map .ref))])
    (p := fun _ => true) (f := fun j => .list ((its.filter (lowEq (Txt.lower (nj j)))).map fun p => .str p.2))
    ⟨rfl, rfl, by decide +kernel, PI.c (PI.str PE.str (by decide +kernel) (by decide +kernel)), own0, fun C av h os H => cap_no (cap_v 9 H rfl rfl rfl rfl (cap_k 0 H rfl cap_nil)), fun C j d hd => ?_, fun _ _ _ _ => .nil, fun C j d hd _ => ?_⟩ ?_) rfl (.inr ⟨rfl, _, rfl⟩)
  · rw [signs_aB] at hd
    obtain ⟨rfl, _⟩ := range_at hd
    exact C2.name 0 rfl
  · rw [signs_aB] at hd
    obtain ⟨rfl, hj⟩ := range_at hd
    exact PE.getall (k := 4) 1 2 G.hc O rfl rfl (by omega) (PE.var 0 rfl) (by rw [nj_low j hj]; exact Z.low j hj) (by rw [nj_low j hj]; exact sg_len _) hlo
  · rw [coll_all, signs_aB, List.length_map, List.length_range]
    refine List.map_congr_left fun j hj => ?_
    rw [nj_low j (List.mem_range.mp hj), bookOf, strL, List.map_map]; rfl
theorem lookup_own {y a b : Str} {c d : Addr} (h : ([(b, c), (a, d)] : List (Str × Addr)).lookup y = some c ∨ ([(a, d), (b, c)] : List (Str × Addr)).lookup y = some c) (hd : d ≠ c) : y = b := by
  have key : ∀ l : List (Str × Addr), (∀ p ∈ l, p = (a, d) ∨ p = (b, c)) → l.lookup y = some c → y = b := fun l hl h => by
    rcases hl _ (mem_of_lookup h) with e | e
    · cases e; exact absurd rfl hd
    · cases e; rfl
  rcases h with h | h
  · exact key _ (by simp) h
  · exact key _ (by simp) h
set_option maxRecDepth 100000 in
theorem law12 (G : LawG B C T0 fi fc fg ft fa pN pV K cN cV f3 f4 f6 f11 f12 f20 f21 f22 f23 f24) (its : List (Str × Str)) (hl : its.length ≤ 20) (hlo : ∀ p ∈ its, (Txt.lower p.1).length ≤ 16777216) (ho : ∀ p ∈ its, okS p.1 ∧ okS p.2) (s s1 s2 s3 s4 s6 s8 s10 : Sl) :
    P1 prog w 6 (LE L f cd) B (LSt.vs { script := s, cells := s1, wants := s2, behind := s3, supplies := s4, lines := s6, table := s8, laid := .v (.list (its.map tupD)), gave := s10, books := .v (booksD its) }) (lst 12)
      (.nx (LSt.vs { script := s, cells := s1, wants := s2, behind := s3, supplies := s4, lines := s6, table := s8, laid := .v (.list (its.map tupD)), gave := s10, books := .v (booksD its) })) := by
  have hbk : ∀ j, ∀ y ∈ bookOf its j, okS y := fun j y hy => by
    obtain ⟨p, hp, rfl⟩ := List.mem_map.mp hy
    exact (ho p (List.mem_filter.mp hp).1).2
  refine P1.skip (PT.cmp (PE.var 16 rfl) (PE.cast (PE.compG (xs := signs "abcde") (own := fun C => [C + 1]) (ρ₀ := [("letter", .no), ("laid", .v (.list (its.map tupD)))]) (ρi := fun j => [("letter", .v (.str (sg (97 + j)))), ("laid", .v (.list (its.map tupD)))]) (p := fun _ => true) (zs := fun j => [strL (bookOf its j)])
    ⟨rfl, rfl, by decide +kernel, PI.c (PI.str PE.str (by decide +kernel) (by decide +kernel)), fun C c hc => ?_, fun C av h os H => cap_no (cap_v 9 H rfl rfl rfl rfl cap_nil), fun C x hx => ?_, fun C hne j d hd => ?_, fun i _ => .drop (.same .nil), fun _ _ _ _ => .nil⟩ (fun C D it => form1 _ _ _ _ _ _ _ _ _) (fun C D H av fx j d hd _ => Em.one fx ?_) ?_) ?_) (ne_self (shaped_books 5 _ hbk))) rfl
  · simp only [List.mem_cons, List.not_mem_nil, or_false] at hc
    subst hc
    refine ⟨Nat.lt_succ_self C, fun h hh => ?_⟩
    rw [← hh]
    exact ⟨none, _, Heap.get?_push_size _ rfl, rfl⟩
  · simp only [List.map_cons, List.map_nil, List.mem_cons, List.not_mem_nil, or_false] at hx
    rcases hx with rfl | rfl
    · exact .inr (.inl ⟨C + 1, .head _, rfl⟩)
    · exact .inr (.inr ⟨fun h => (by cases (show some NameKind.cell = some .local from h)), 1, _, rfl⟩)
  · rw [signs_ab] at hd
    obtain ⟨rfl, _⟩ := range_at hd
    refine CTg.cell 0 (c := C + 1) rfl rfl rfl (by simp) (Nat.succ_ne_self C) (fun y hy => ?_) (nodup_of rfl) rfl
    have hl2 := hne "laid" _ (fun h => (by cases (show some NameKind.cell = some .local from h))) ⟨1, _, rfl⟩ rfl
    exact lookup_own (a := "laid") (d := L + 1 + 1 + 1 + 1) (by first | exact .inl hy | exact .inr hy) (fun e => hl2 (by rw [e]; exact .head _))
  · rw [signs_ab] at hd
    obtain ⟨rfl, hj⟩ := range_at hd
    refine compE (xs := its.map tupD) (own := fun _ => []) (ρ₀ := [("name", .no), ("giver", .no), ("letter", .v (.str (sg (97 + j))))]) (ρi := fun i => [("name", .v (.str (sx i its).1)), ("giver", .v (.str (sx i its).2)), ("letter", .v (.str (sg (97 + j))))]) (p := fun i => lowEq (sg (97 + j)) (sx i its)) (f := fun i => .str (sx i its).2)
      ⟨rfl, rfl, by decide +kernel, PI.c (PI.list (PE.var 1 rfl) ?_ (.inr ⟨_, _, _, rfl, fun d hd => ?_⟩)), own0, fun C av h os H => cap_no (cap_no (cap_v 0 H rfl rfl rfl rfl cap_nil)), fun C i d hd => ?_, fun C i d hd => ?_, fun C i d hd _ => PE.var 1 rfl⟩ ?_
    · rw [List.length_map]; omega
    · obtain ⟨p, _, rfl⟩ := List.mem_map.mp hd; exact ⟨_, rfl⟩
    · obtain ⟨rfl, _⟩ := map_at (⟨#[]⟩, ⟨#[]⟩) hd
      exact C2.pair 0 1 rfl rfl
    · obtain ⟨_, hi⟩ := map_at (⟨#[]⟩, ⟨#[]⟩) hd
      have hm : sx i its ∈ its := by unfold sx; rw [List.getD_eq_getElem?_getD, List.getElem?_eq_getElem hi]; exact List.getElem_mem hi
      exact .one (PT.cmp (PE.meth0 (PE.var 0 rfl) (Mth0.lower (hlo _ hm))) (PE.var 2 rfl) CmpR.eqS)
    · rw [List.length_map, bookOf, List.map_map]
      exact coll_list (lowEq (sg (97 + j))) (fun p => .str p.2) (⟨#[]⟩, ⟨#[]⟩) its
  · rw [signs_ab, List.length_map, List.length_range, accAt_map]; simp
  · rw [signs_ab, List.length_map, List.length_range, accAt_map]; rfl
end
end Mine
end
section
open PySem PySem.W PyProof.Rows
set_option linter.unusedVariables false
set_option linter.unusedSimpArgs false
namespace Mine
theorem okS_ln : ∀ w : Nat, w < 6 → ∀ b : Nat, b < 3 → ∀ k : Nat, k < 5 → okS (ln w (97 + k) b) := by decide +kernel
theorem bare_make : ∀ l : Nat, l < 6 → ∀ o : Nat, o < 9 → ∀ b : Nat, b < 3 → ∀ k : Nat, k < 5 →
    (Txt.mul " " ((l : Int) - (o : Int)) ++ Txt.item "abcde" (k : Int) ++ Txt.mul " " ((b : Int) - (if (0 : Int) > (o : Int) - (l : Int) then 0 else (o : Int) - (l : Int))) = strip l (97 + k) b o) ∧ (Txt.mul " " ((l : Int) - (o : Int))).length + (Txt.item "abcde" (k : Int)).length ≤ 16 ∧ (Txt.mul " " ((l : Int) - (o : Int)) ++ Txt.item "abcde" (k : Int)).length + (Txt.mul " " ((b : Int) - (if (0 : Int) > (o : Int) - (l : Int) then 0 else (o : Int) - (l : Int)))).length ≤ 16 := by decide +kernel
section
variable {env E cenv : Env} {B : Heap} {ρ ρ' : Vs} {prog : Program} {w : World} {k : Nat} {L f : Addr} {cd : Value} {av : List Addr} {h : Heap} {os : List Addr} {r : Vs} {x g : Str}
variable {C T0 fi fc fg ft fa pN pV : Addr} {K : Frag} {cN cV : Array Nat} {f3 f4 f6 f11 f12 f20 f21 f22 f23 f24 : Addr}
theorem ixNat {ns : List Nat} {j : Nat} (h : ns.length = 5) (hj : j < 5) : IxR prog w k (natL ns) (.int (j : Int)) (.int (ns.getD j 0 : Nat)) := IxR.list (by omega) (small63 (by omega)) (natAt (by omega))
theorem ixBook {its : List (Str × Str)} {j : Nat} (hj : j < 5) : IxR prog w k (booksD its) (.int (j : Int)) (strL (bookOf its j)) := by
  refine IxR.list (by omega) (small63 (by omega)) ?_
  show ((List.range 5).map fun j => strL (bookOf its j))[j]? = _
  rw [List.getElem?_map, List.getElem?_range hj]; rfl
theorem ixLine {ws bs : List Nat} {j : Nat} (hj : j < 5) : IxR prog w k (strL (lines ws bs)) (.int (j : Int)) (.str (lnOf ws bs j)) := by
  refine IxR.list (by omega) (small63 (by omega)) ?_
  show ((lines ws bs).map PyData.str)[j]? = _
  rw [lines, List.map_map, List.getElem?_map, List.getElem?_range hj]; rfl
set_option maxRecDepth 100000 in
theorem law13 (G : LawG B C T0 fi fc fg ft fa pN pV K cN cV f3 f4 f6 f11 f12 f20 f21 f22 f23 f24) (its : List (Str × Str)) (ws W bs : List Nat) (hw : ws.length = 5) (hb : bs.length = 5) (hW' : ∀ k < 5, W.getD k 0 < 6) (hb' : ∀ k < 5, bs.getD k 0 < 3) (hbk : ∀ k < 5, W.getD k 0 + (bookOf its k).length = ws.getD k 0) (hws : ∀ k < 5, ws.getD k 0 < 6) (s s1 s4 s8 s9 s10 : Sl) :
    P1 prog w 6 (LE L f cd) B (LSt.vs { script := s, cells := s1, wants := .v (natL ws), behind := .v (natL bs), supplies := s4, lines := .v (strL (lines W bs)), table := s8, laid := s9, gave := s10, books := .v (booksD its) }) (lst 13)
      (.nx (LSt.vs { script := s, cells := s1, wants := .v (natL ws), behind := .v (natL bs), supplies := s4, lines := .v (strL (lines W bs)), table := s8, laid := s9, gave := s10, books := .v (booksD its) })) := by
  have hok : ∀ y ∈ lines W bs, okS y := fun y hy => by
    obtain ⟨j, hj, rfl⟩ := List.mem_map.mp hy
    have hj' := List.mem_range.mp hj
    exact okS_ln _ (hW' j hj') _ (hb' j hj') j hj'
  refine P1.skip (PT.cmp (PE.var 6 rfl) (compE (xs := rng 0 5) (own := fun _ => []) (ρ₀ := [("k", .no), ("behind", .v (natL bs)), ("wants", .v (natL ws)), ("books", .v (booksD its))]) (ρi := fun j => [("k", .v (.int j)), ("behind", .v (natL bs)), ("wants", .v (natL ws)), ("books", .v (booksD its))]) (p := fun _ => true) (f := fun j => .str (lnOf W bs j)) (out := (lines W bs).map .str)
    ⟨rfl, rfl, by decide +kernel, PI.c (PI.range1 G.range rfl PE.int (by decide) (by decide) rfl (by decide)), own0, fun C av h os H => cap_no (cap_v 3 H rfl rfl rfl rfl (cap_v 2 H rfl rfl rfl rfl (cap_v 16 H rfl rfl rfl rfl cap_nil))), fun C j d hd => ?_, fun _ _ _ _ => .nil, fun C j d hd _ => ?_⟩ ?_) (ne_self (shaped_strs _ hok))) rfl
  · obtain ⟨rfl, _⟩ := rng_at0 hd
    exact C2.name 0 rfl
  · obtain ⟨rfl, hj⟩ := rng_at0 hd
    obtain ⟨e, e1, e2⟩ := ln_make _ (hW' j hj) _ (hb' j hj) j hj
    obtain ⟨i1, i2⟩ := abc_item j hj
    have hb2 := hbk j hj
    have hw2 := hws j hj
    have hw3 := hW' j hj
    have hb3 := hb' j hj
    exact PE.cast (PE.bin (PE.bin (PE.bin PE.str (PE.cast (b' := .int (W.getD j 0 : Nat)) (PE.bin (PE.sub (PE.var 2 rfl) (PE.var 0 rfl) (ixNat hw hj)) (PE.callB G.round.len rfl (.cons (PE.sub (PE.var 3 rfl) (PE.var 0 rfl) (ixBook hj)) .nil) (CallR.lenL (by rw [List.length_map]; omega))) BinR.sub) (congrArg PyData.int (by rw [List.length_map]; omega))) (BinR.mulS (mulOk_blank (by omega) (by omega)))) (PE.sub PE.str (PE.var 0 rfl) (IxR.str (fits (by omega) (by omega)) i2 rfl)) (BinR.addS (sz16 e1)))
      (PE.bin PE.str (PE.sub (PE.var 1 rfl) (PE.var 0 rfl) (ixNat hb hj)) (BinR.mulS (mulOk_blank (by omega) (by omega)))) (BinR.addS (sz16 e2))) (congrArg PyData.str e)
  · rw [rng_len, coll_all, lines, List.map_map]; rfl
def offOf (m : Int) : Nat := ((m.fdiv 4).fmod 9).toNat
theorem offOf_lt (m : Int) : offOf m < 9 := by
  have h0 := Int.fmod_nonneg_of_pos (m.fdiv 4) (show (0 : Int) < 9 by decide)
  have h1 := Int.fmod_lt_of_pos (m.fdiv 4) (show (0 : Int) < 9 by decide)
  unfold offOf; omega
set_option maxRecDepth 100000 in
theorem law14 (cs : List Int) (hc : cs.length = 10) (s s2 s3 s4 s6 s8 s9 s10 s16 : Sl) :
    P1 prog w 6 (LE L f cd) B (LSt.vs { script := s, cells := .v (intL cs), wants := s2, behind := s3, supplies := s4, lines := s6, table := s8, laid := s9, gave := s10, books := s16 }) (lst 14)
      (.nx (LSt.vs { script := s, cells := .v (intL cs), wants := s2, behind := s3, supplies := s4, lines := s6, table := s8, laid := s9, gave := s10, books := s16, off := .v (.int (offOf (lastOf cs) : Nat)) })) := by
  have h9 : (cs.map PyData.int)[9]? = some (.int (lastOf cs)) := map_int_at (by omega)
  refine S1.set 17 (PE.cast (PE.bin (PE.bin (PE.sub (PE.var 1 rfl) PE.int (IxR.list (by decide) (by decide) h9)) PE.int (BinR.fdiv (by decide) (by decide))) PE.int (BinR.mod (by decide))) (congrArg PyData.int (fmodNat _ (by decide)).symm)) rfl (.inl rfl)
set_option maxRecDepth 100000 in
theorem law15 (G : LawG B C T0 fi fc fg ft fa pN pV K cN cV f3 f4 f6 f11 f12 f20 f21 f22 f23 f24) (its : List (Str × Str)) (ws W bs : List Nat) (o : Nat) (ho : o < 9) (hw : ws.length = 5) (hb : bs.length = 5) (hW' : ∀ k < 5, W.getD k 0 < 6) (hb' : ∀ k < 5, bs.getD k 0 < 3) (hbk : ∀ k < 5, W.getD k 0 + (bookOf its k).length = ws.getD k 0) (hws : ∀ k < 5, ws.getD k 0 < 6) (s s1 s4 s8 s9 s10 : Sl) :
    P1 prog w 6 (LE L f cd) B (LSt.vs { script := s, cells := s1, wants := .v (natL ws), behind := .v (natL bs), supplies := s4, lines := .v (strL (lines W bs)), table := s8, laid := s9, gave := s10, books := .v (booksD its), off := .v (.int (o : Nat)) }) (lst 15)
      (.nx (LSt.vs { script := s, cells := s1, wants := .v (natL ws), behind := .v (natL bs), supplies := s4, lines := .v (strL (lines W bs)), table := s8, laid := s9, gave := s10, books := .v (booksD its), off := .v (.int (o : Nat)) })) := by
  let st : LSt := { script := s, cells := s1, wants := .v (natL ws), behind := .v (natL bs), supplies := s4, lines := .v (strL (lines W bs)), table := s8, laid := s9, gave := s10, books := .v (booksD its), off := .v (.int (o : Nat)) }
  refine P1.for (xs := rng 0 5) (fun _ => st.vs) (PI.range1 G.range rfl PE.int (by decide) (by decide) rfl (by decide)) fun i d hd => ?_
  obtain ⟨rfl, hj⟩ := rng_at0 hd
  obtain ⟨e, e1, e2⟩ := bare_make _ (hW' i hj) _ ho _ (hb' i hj) i hj
  obtain ⟨i1, i2⟩ := abc_item i hj
  have hb2 := hbk i hj
  have hw2 := hws i hj
  have hw3 := hW' i hj
  have hb3 := hb' i hj
  refine ⟨_, T1.name 5 rfl (.inl rfl), PS.post (ρ₁ := ({ st with k := .v (.int i), lead := .v (.int (W.getD i 0 : Nat)), bare := .v (.str (strip (W.getD i 0) (97 + i) (bs.getD i 0) o)) } : LSt).vs) (PS.cons (ρ₁ := ({ st with k := .v (.int i), lead := .v (.int (W.getD i 0 : Nat)) } : LSt).vs)
    (S1.set 18 (PE.cast (b' := .int (W.getD i 0 : Nat)) (PE.bin (PE.sub (PE.var 2 rfl) (PE.var 5 rfl) (ixNat hw hj)) (PE.callB G.round.len rfl (.cons (PE.sub (PE.var 16 rfl) (PE.var 5 rfl) (ixBook hj)) .nil) (CallR.lenL (by rw [List.length_map]; omega))) BinR.sub) (congrArg PyData.int (by rw [List.length_map]; omega))) rfl (.inl rfl))
    (PS.cons (S1.set 19 (PE.cast (PE.bin (PE.bin (PE.bin PE.str (PE.bin (PE.var 18 rfl) (PE.var 17 rfl) BinR.sub) (BinR.mulS (mulOk_blank (by omega) (by omega)))) (PE.sub PE.str (PE.var 5 rfl) (IxR.str (fits (by omega) (by omega)) i2 rfl)) (BinR.addS (sz16 e1)))
      (PE.bin PE.str (PE.bin (PE.sub (PE.var 3 rfl) (PE.var 5 rfl) (ixNat hb hj)) (PE.callB G.round.max rfl (.cons (PE.bin (PE.var 17 rfl) (PE.var 18 rfl) BinR.sub) (.cons PE.int .nil)) CallR.max2) BinR.sub) (BinR.mulS (mulOk_blank (by split <;> omega) (by split <;> omega)))) (BinR.addS (sz16 e2))) (congrArg PyData.str e)) rfl (.inl rfl))
    (PS.cons (P1.skip (PT.cmp (PE.callF G.round.strip rfl (.cons (PE.sub (PE.var 6 rfl) (PE.var 5 rfl) (ixLine hj)) (.cons (PE.var 17 rfl) .nil)) (CallR.mono (strip_ok G.round.strip G.round.len _ _ _ o (by omega) (by omega)))) (PE.var 19 rfl) CmpR.neS) (by simp)) PS.nil))) ?_⟩
  exact .same (.same (.same (.same (.same (.drop (.same (.same (.same (.same (.same (.same (.same (.same (.same (.same (.same (.same (.drop (.drop (Le.refl _))))))))))))))))))))
set_option maxRecDepth 100000 in
theorem law16 (s s1 s2 s3 s4 s6 s8 s9 s10 s16 s17 : Sl) :
    P1 prog w 6 (LE L f cd) B (LSt.vs { script := s, cells := s1, wants := s2, behind := s3, supplies := s4, lines := s6, table := s8, laid := s9, gave := s10, books := s16, off := s17 }) (lst 16)
      (.nx (LSt.vs { script := s, cells := s1, wants := s2, behind := s3, supplies := s4, lines := s6, table := s8, laid := s9, gave := s10, books := s16, off := s17, lacks := .o (.lst []) })) := by
  exact S1.own 20 (PN.list PAs.nil) rfl (.inl rfl)
set_option maxRecDepth 100000 in
theorem law17 (s s1 s2 s3 s4 s6 s8 s9 s10 s16 s17 s20 : Sl) :
    P1 prog w 6 (LE L f cd) B (LSt.vs { script := s, cells := s1, wants := s2, behind := s3, supplies := s4, lines := s6, table := s8, laid := s9, gave := s10, books := s16, off := s17, lacks := s20 }) (lst 17)
      (.nx (LSt.vs { script := s, cells := s1, wants := s2, behind := s3, supplies := s4, lines := s6, table := s8, laid := s9, gave := s10, books := s16, off := s17, lacks := s20, words := .o (.lst []) })) := by
  exact S1.own 21 (PN.list PAs.nil) rfl (.inr ⟨rfl, _, rfl⟩)
end
end Mine
end
section
open PySem PySem.W PyProof.Rows
set_option linter.unusedVariables false
set_option linter.unusedSimpArgs false
namespace Mine
def textOf (b : Nat → Bool) (sp : Str) : Str := Txt.join "" ((List.range 5).map fun k => if b k then sg (97 + k) else sp)
def wordOf (b : Nat → Bool) : Str := Txt.join "" ((List.range 5).map fun k => if b k then sg (65 + k) else sg (97 + k))
def inB (its : List (Str × Str)) (t j : Nat) : Bool := ((bookOf its j).map PyData.str).any fun y => PyData.eqv y (.str (giver t))
def spareOf (m : Int) (i : Nat) : Str := if ((i : Int) + m.fdiv 2).fmod 2 = 0 then "" else "x"
theorem joinOk5 (g : Nat → Str) (h : ∀ k, (g k).length ≤ 1) : JoinOk "" ((List.range 5).map g) = true := by
  unfold JoinOk Builtin.Str.tooLong
  rw [show (List.range 5).map g = [g 0, g 1, g 2, g 3, g 4] from rfl]
  have h0 := h 0; have h1 := h 1; have h2 := h 2; have h3 := h 3; have h4 := h 4
  have e : (Str.ofString "").length = 0 := rfl
  simp [e, sizeLine_eq]
  omega
theorem coll_filter (p : Nat → Bool) (n : Nat) : coll p (fun j => .int (j : Nat)) n = ((List.range n).filter p).map natI := by
  unfold coll
  induction n with
  | zero => rfl
  | succ n ih =>
    rw [List.range_succ, List.filterMap_append, List.filter_append, List.map_append, ih]
    congr 1
    by_cases h : p n = true <;> simp [h]
theorem any_nat (l : List Nat) (k : Nat) : ((l.map natI).any fun y => PyData.eqv y (.int (k : Nat))) = l.contains k := by
  induction l with
  | nil => rfl
  | cons a l ih =>
    rw [List.map_cons, List.any_cons, ih, List.contains_cons]
    congr 1
    show ((a : Int) == (k : Int)) = (k == a)
    by_cases h : a = k
    · subst h; simp
    · rw [beq_eq_false_iff_ne.mpr (Ne.symm h), beq_eq_false_iff_ne.mpr (by omega)]
theorem contains_filter (b : Nat → Bool) {k : Nat} (hk : k < 5) : ((List.range 5).filter b).contains k = b k := by
  rw [Bool.eq_iff_iff]
  simp [List.mem_filter, hk]
theorem shaped_str {x : Str} (h : okS x) : SeqAt.shaped (.str x) = true := by
  unfold SeqAt.shaped
  rw [h]; simp [PyData.depth]
theorem shaped_nats (l : List Nat) : SeqAt.shaped (natL l) = true := shaped_list _ 1 (by decide) fun d hd => by
  obtain ⟨p, hp, rfl⟩ := List.mem_map.mp hd
  exact ⟨rfl, by simp [PyData.depth]⟩
theorem up_item : ∀ j : Nat, j < 5 → Txt.item "ABCDE" (j : Int) = sg (65 + j) ∧ (Txt.charAt "ABCDE" (j : Int)).isSome = true := by decide +kernel
theorem okS_giver : ∀ i : Nat, i < 4 → okS (giver i) := by decide +kernel
section
variable {env E cenv : Env} {B : Heap} {ρ ρ' : Vs} {prog : Program} {w : World} {k : Nat} {L f : Addr} {cd : Value} {av : List Addr} {h : Heap} {os : List Addr} {r : Vs} {x g : Str}
variable {C T0 fi fc fg ft fa pN pV : Addr} {K : Frag} {cN cV : Array Nat} {f3 f4 f6 f11 f12 f20 f21 f22 f23 f24 : Addr}
theorem inTakers {l : List Nat} {j : Nat} (hj : j < 5) (b : Nat → Bool) : CmpR prog w k .In (.int (j : Nat)) (natL ((List.range 5).filter b)) (b j) := by
  have := @CmpR.inL prog w k (.int (j : Nat)) (((List.range 5).filter b).map natI) (by decide +revert) (shaped_nats _)
  rw [any_nat, contains_filter b hj] at this
  exact this
theorem spare_ix (m : Int) (i : Nat) : IxR prog w k (.tuple [.str "", .str "x"]) (.int (((i : Int) + m.fdiv 2).fmod 2)) (.str (spareOf m i)) := by
  have h0 := Int.fmod_nonneg_of_pos ((i : Int) + m.fdiv 2) (show (0 : Int) < 2 by decide)
  have h1 := Int.fmod_lt_of_pos ((i : Int) + m.fdiv 2) (show (0 : Int) < 2 by decide)
  refine IxR.tuple h0 (by omega) ?_
  unfold spareOf
  generalize ((i : Int) + m.fdiv 2).fmod 2 = q at h0 h1
  have : q = 0 ∨ q = 1 := by omega
  rcases this with rfl | rfl <;> rfl
theorem spare_len (m : Int) (i : Nat) : (spareOf m i).length ≤ 1 := by
  unfold spareOf
  split
  · exact Nat.le_of_ble_eq_true rfl
  · exact Nat.le_of_ble_eq_true rfl
set_option maxRecDepth 100000 in
set_option maxHeartbeats 1000000 in
theorem law18 (G : LawG B C T0 fi fc fg ft fa pN pV K cN cV f3 f4 f6 f11 f12 f20 f21 f22 f23 f24) (its : List (Str × Str)) (ho : ∀ p ∈ its, okS p.1 ∧ okS p.2) (cs : List Int) (hc : cs.length = 10) (lack : Nat → Int)
    (hL : ∀ t < 4, lev "abcde" (textOf (inB its t) (spareOf (lastOf cs) t)) 10 = some (lack t)) (htl : ∀ t < 4, (textOf (inB its t) (spareOf (lastOf cs) t)).length ≤ 1000) (s s2 s3 s4 s6 s8 s9 s10 s17 : Sl) :
    P1 prog w 6 (LE L f cd) B (LSt.vs { script := s, cells := .v (intL cs), wants := s2, behind := s3, supplies := s4, lines := s6, table := s8, laid := s9, gave := s10, books := .v (booksD its), off := s17, lacks := .o (.lst []), words := .o (.lst []) }) (lst 18)
      (.nx (LSt.vs { script := s, cells := .v (intL cs), wants := s2, behind := s3, supplies := s4, lines := s6, table := s8, laid := s9, gave := s10, books := .v (booksD its), off := s17, lacks := .o (.lst ((List.range 4).map fun t => .int (lack t))), words := .o (.lst ((List.range 4).map fun t => .str (wordOf (inB its t)))) })) := by
  have h9 : (cs.map PyData.int)[9]? = some (.int (lastOf cs)) := map_int_at (by omega)
  have hbk : ∀ j, ∀ y ∈ bookOf its j, okS y := fun j y hy => by
    obtain ⟨p, hp, rfl⟩ := List.mem_map.mp hy
    exact (ho p (List.mem_filter.mp hp).1).2
  let st : Nat → LSt := fun i => { script := s, cells := .v (intL cs), wants := s2, behind := s3, supplies := s4, lines := s6, table := s8, laid := s9, gave := s10, books := .v (booksD its), off := s17, lacks := .o (.lst ((List.range i).map fun t => .int (lack t))), words := .o (.lst ((List.range i).map fun t => .str (wordOf (inB its t)))) }
  refine P1.for (xs := rng 0 4) (fun i => (st i).vs) (PI.range1 G.range rfl PE.int (by decide) (by decide) rfl (by decide)) fun i d hd => ?_
  obtain ⟨rfl, hi⟩ := rng_at0 hd
  obtain ⟨g1, g2, g3, g4⟩ := giver_at i hi
  have hl := hL i hi
  have htl := htl i hi
  have hgo := okS_giver i hi
  generalize lastOf cs = m at h9 hl htl
  let b := inB its i
  let A1 : LSt := { st i with turn := .v (.int i), takers := .v (natL ((List.range 5).filter b)) }
  let A2 : LSt := { A1 with spare := .v (.str (spareOf m i)) }
  let A3 : LSt := { A2 with text := .v (.str (textOf b (spareOf m i))) }
  let A4 : LSt := { A3 with lacks := .o (.lst ((List.range (i + 1)).map fun t => .int (lack t))) }
  let A5 : LSt := { A4 with words := .o (.lst ((List.range (i + 1)).map fun t => .str (wordOf (inB its t)))) }
  refine ⟨_, T1.name 11 rfl (.inr ⟨rfl, _, rfl⟩), PS.post (ρ₁ := A5.vs) (PS.cons (ρ₁ := A1.vs)
    (S1.set 22 (compE (xs := rng 0 5) (own := fun _ => []) (ρ₀ := [("k", .no), ("turn", .v (.int i)), ("books", .v (booksD its))]) (ρi := fun j => [("k", .v (.int j)), ("turn", .v (.int i)), ("books", .v (booksD its))]) (p := b) (f := fun j => .int (j : Nat))
      ⟨rfl, rfl, by decide +kernel, PI.c (PI.range1 G.range rfl PE.int (by decide) (by decide) rfl (by decide)), own0, fun C av h os H => cap_no (cap_v 11 H rfl rfl rfl rfl (cap_v 16 H rfl rfl rfl rfl cap_nil)), fun C j d hd => ?_, fun C j d hd => ?_, fun C j d hd _ => PE.var 0 rfl⟩ ?_) rfl (.inr ⟨rfl, _, rfl⟩))
    (PS.cons (ρ₁ := A2.vs) (S1.set 23 (PE.sub (PE.tuple (.cons PE.str (.cons PE.str .nil))) (PE.bin (PE.bin (PE.var 11 rfl) (PE.bin (PE.sub (PE.var 1 rfl) PE.int (IxR.list (by decide) (by decide) h9)) PE.int (BinR.fdiv (by decide) (by decide))) BinR.add) PE.int (BinR.mod (by decide))) (spare_ix m i)) rfl (.inr ⟨rfl, _, rfl⟩))
    (PS.cons (ρ₁ := A3.vs) (S1.set 24 (PE.meth1 PE.str (compE (xs := rng 0 5) (own := fun _ => []) (ρ₀ := [("k", .no), ("spare", .v (.str (spareOf m i))), ("takers", .v (natL ((List.range 5).filter b)))]) (ρi := fun j => [("k", .v (.int j)), ("spare", .v (.str (spareOf m i))), ("takers", .v (natL ((List.range 5).filter b)))]) (p := fun _ => true) (f := fun j => .str (if b j then sg (97 + j) else spareOf m i)) (out := ((List.range 5).map fun k => if b k then sg (97 + k) else spareOf m i).map .str)
      ⟨rfl, rfl, by decide +kernel, PI.c (PI.range1 G.range rfl PE.int (by decide) (by decide) rfl (by decide)), own0, fun C av h os H => cap_no (cap_v 23 H rfl rfl rfl rfl (cap_v 22 H rfl rfl rfl rfl cap_nil)), fun C j d hd => ?_, fun _ _ _ _ => .nil, fun C j d hd _ => ?_⟩ ?_) (Mth1.join (joinOk5 _ ?_))) rfl (.inl rfl))
    (PS.cons (ρ₁ := A4.vs) (S1.append 20 rfl (PE.callF G.lev.me rfl (.cons PE.str (.cons (PE.var 24 rfl) (.cons PE.int .nil))) (CallR.mono (lev_ok G.lev "abcde" _ 10 _ (by decide) htl hl))) ?_ ?_)
    (PS.cons (ρ₁ := A5.vs) (S1.append 21 rfl (PE.meth1 PE.str (compE (xs := rng 0 5) (own := fun _ => []) (ρ₀ := [("k", .no), ("takers", .v (natL ((List.range 5).filter b)))]) (ρi := fun j => [("k", .v (.int j)), ("takers", .v (natL ((List.range 5).filter b)))]) (p := fun _ => true) (f := fun j => .str (if b j then sg (65 + j) else sg (97 + j))) (out := ((List.range 5).map fun k => if b k then sg (65 + k) else sg (97 + k)).map .str)
      ⟨rfl, rfl, by decide +kernel, PI.c (PI.range1 G.range rfl PE.int (by decide) (by decide) rfl (by decide)), own0, fun C av h os H => cap_no (cap_v 22 H rfl rfl rfl rfl cap_nil), fun C j d hd => ?_, fun _ _ _ _ => .nil, fun C j d hd _ => ?_⟩ ?_) (Mth1.join (joinOk5 _ ?_))) ?_ ?_) PS.nil))))) ?_⟩
  · obtain ⟨rfl, _⟩ := rng_at0 hd
    exact C2.name 0 rfl
  · obtain ⟨rfl, hj⟩ := rng_at0 hd
    exact .one (PT.cmp (PE.sub PE.str (PE.var 1 rfl) (IxR.str (fits (by omega) (by omega)) g1 rfl)) (PE.sub (PE.var 2 rfl) (PE.var 0 rfl) (ixBook hj)) (CmpR.inL (shaped_str hgo) (shaped_strs _ (hbk j))))
  · rw [rng_len]; exact coll_filter b 5
  · obtain ⟨rfl, _⟩ := rng_at0 hd
    exact C2.name 0 rfl
  · obtain ⟨rfl, hj⟩ := rng_at0 hd
    obtain ⟨i1, i2⟩ := abc_item j hj
    refine PE.ite (b := b j) (PT.cmp (PE.var 0 rfl) (PE.var 2 rfl) (inTakers (l := []) hj b)) (fun hb => ?_) (fun hb => ?_)
    · rw [hb]; exact PE.sub PE.str (PE.var 0 rfl) (IxR.str (fits (by omega) (by omega)) i2 i1)
    · rw [hb]; exact PE.var 1 rfl
  · rw [rng_len, coll_all, List.map_map]; rfl
  · intro k
    split
    · exact Nat.le_of_ble_eq_true rfl
    · exact spare_len m i
  · rw [List.length_map, List.length_range]; omega
  · show _ = ({ A3 with lacks := .o (.lst ((List.range (i + 1)).map fun t => .int (lack t))) } : LSt).vs
    rw [show (List.range (i + 1)).map (fun t => PyData.int (lack t)) = (List.range i).map (fun t => .int (lack t)) ++ [.int (lack i)] by rw [List.range_succ, List.map_append]; rfl]; rfl
  · obtain ⟨rfl, _⟩ := rng_at0 hd
    exact C2.name 0 rfl
  · obtain ⟨rfl, hj⟩ := rng_at0 hd
    obtain ⟨i1, i2⟩ := abc_item j hj
    obtain ⟨i3, i4⟩ := up_item j hj
    refine PE.ite (b := b j) (PT.cmp (PE.var 0 rfl) (PE.var 1 rfl) (inTakers (l := []) hj b)) (fun hb => ?_) (fun hb => ?_)
    · rw [hb]; exact PE.sub PE.str (PE.var 0 rfl) (IxR.str (fits (by omega) (by omega)) i4 i3)
    · rw [hb]; exact PE.sub PE.str (PE.var 0 rfl) (IxR.str (fits (by omega) (by omega)) i2 i1)
  · rw [rng_len, coll_all, List.map_map]; rfl
  · intro k
    split <;> exact Nat.le_of_ble_eq_true rfl
  · rw [List.length_map, List.length_range]; omega
  · show _ = ({ A4 with words := .o (.lst ((List.range (i + 1)).map fun t => .str (wordOf (inB its t)))) } : LSt).vs
    rw [show (List.range (i + 1)).map (fun t => PyData.str (wordOf (inB its t))) = (List.range i).map (fun t => .str (wordOf (inB its t))) ++ [.str (wordOf (inB its i))] by rw [List.range_succ, List.map_append]; rfl]; rfl
  · exact .same (.same (.same (.same (.same (.same (.same (.same (.same (.same (.same (.drop (.same (.same (.same (.same (.same (.same (.same (.same (.same (.same (.drop (.drop (.drop (Le.refl _)))))))))))))))))))))))))
end
end Mine
end
section
open PySem PySem.W PyProof.Rows
set_option linter.unusedVariables false
set_option linter.unusedSimpArgs false
namespace Mine
section
variable {env E cenv : Env} {B : Heap} {ρ ρ' : Vs} {prog : Program} {w : World} {k : Nat} {L f : Addr} {cd : Value} {av : List Addr} {h : Heap} {os : List Addr} {r : Vs} {x g : Str}
variable {C T0 fi fc fg ft fa pN pV : Addr} {K : Frag} {cN cV : Array Nat} {f3 f4 f6 f11 f12 f20 f21 f22 f23 f24 : Addr}
abbrev zl (l : List Nat) : List Int := l.map fun (n : Nat) => (n : Int)
theorem bits_small : ∀ n : Nat, n < 21 → Builtin.Int.intBits (n : Int) ≤ 64 := by decide +kernel
theorem natL_zl (l : List Nat) : natL l = intL (zl l) := by
  unfold natL intL zl; rw [List.map_map]; rfl
abbrev lackL (lack : Nat → Int) : List Int := (List.range 4).map lack
set_option maxRecDepth 100000 in
theorem law19 (G : LawG B C T0 fi fc fg ft fa pN pV K cN cV f3 f4 f6 f11 f12 f20 f21 f22 f23 f24) (ws ys : List Nat) (hw : ws.length = 5) (hy : ys.length = 4) (lack : Nat → Int) (rising : List Int) (hp : rising.Perm (zl ws)) (hsr : rising.Pairwise (· ≤ ·))
    (hle : ∀ t : Nat, 1 ≤ t → t ≤ 4 → 10 * (t : Int) - ((lackL lack).take t).sum = 2 * minOf (cutsOf rising (zl (ys.take t)) 6)) (s s1 s3 s6 s8 s9 s10 s16 s17 s21 : Sl) :
    P1 prog w 6 (LE L f cd) B (LSt.vs { script := s, cells := s1, wants := .v (natL ws), behind := s3, supplies := .v (natL ys), lines := s6, table := s8, laid := s9, gave := s10, books := s16, off := s17, lacks := .v (intL (lackL lack)), words := s21 }) (lst 19)
      (.nx (LSt.vs { script := s, cells := s1, wants := .v (natL ws), behind := s3, supplies := .v (natL ys), lines := s6, table := s8, laid := s9, gave := s10, books := s16, off := s17, lacks := .v (intL (lackL lack)), words := s21 })) := by
  let st : LSt := { script := s, cells := s1, wants := .v (natL ws), behind := s3, supplies := .v (natL ys), lines := s6, table := s8, laid := s9, gave := s10, books := s16, off := s17, lacks := .v (intL (lackL lack)), words := s21 }
  refine P1.for (xs := rng 1 4) (fun _ => st.vs) (PI.range2 G.range rfl PE.int PE.int (by decide) (by decide) (by decide) (by decide) rfl (by decide)) fun i d hd => ?_
  obtain ⟨rfl, hi⟩ := rng_at hd
  have e1 : (1 : Int) + (i : Int) = ((i + 1 : Nat) : Int) := by omega
  rw [e1]
  have hle := hle (i + 1) (by omega) (by omega)
  generalize i + 1 = t at hle
  refine ⟨_, T1.name 11 rfl (.inr ⟨rfl, _, rfl⟩), PS.post (ρ₁ := ({ st with turn := .v (.int (t : Nat)) } : LSt).vs) (PS.cons (P1.skip (PT.cmp (PE.bin (PE.bin PE.int (PE.var 11 rfl) (BinR.mul (IntMulOk.of_left (by decide)))) (PE.callB G.sum rfl (.cons (PE.cast (PE.slL (PE.var 20 rfl) PPt.nil (PPt.int (PE.var 11 rfl)) ?_) (congrArg PyData.list ((sl_take _ t).trans List.map_take.symm))) .nil) CallR.sum) BinR.sub)
    (PE.bin PE.int (PE.callF G.least rfl (.cons (PE.cast (PE.var 2 rfl) (natL_zl ws)) (.cons (PE.cast (b' := intL (zl (ys.take t))) (PE.slL (PE.var 4 rfl) PPt.nil (PPt.int (PE.var 11 rfl)) ?_) ?_) .nil)) (CallR.mono (lawLeast_ok G.least G.sum G.round.min G.sorted G.range (zl ws) (zl (ys.take t)) rising ?_ ?_ hp hsr))) (BinR.mul (IntMulOk.of_left (by decide)))) CmpR.neI) ?_) PS.nil) ?_⟩
  · simp [lackL]
  · rw [List.length_map, hy]; decide
  · rw [← natL_zl]; exact congrArg PyData.list ((sl_take _ t).trans List.map_take.symm)
  · simp [hw]
  · simp; omega
  · rw [hle]; simp
  · exact .same (.same (.same (.same (.same (.same (.same (.same (.same (.same (.same (.drop (Le.refl _))))))))))))
def apartL (dist : Nat → Nat → Int) : List Int := (List.range 4).flatMap fun i => (List.range i).map (dist i)
set_option maxRecDepth 100000 in
theorem law20 (G : LawG B C T0 fi fc fg ft fa pN pV K cN cV f3 f4 f6 f11 f12 f20 f21 f22 f23 f24) (W : Nat → Str) (dist : Nat → Nat → Int) (hW : ∀ t < 4, (W t).length ≤ 1000) (hA : ∀ i < 4, ∀ j < i, lev (W i) (W j) 5 = some (dist i j)) (s s1 s2 s3 s4 s6 s8 s9 s10 s16 s17 s20 : Sl) :
    P1 prog w 6 (LE L f cd) B (LSt.vs { script := s, cells := s1, wants := s2, behind := s3, supplies := s4, lines := s6, table := s8, laid := s9, gave := s10, books := s16, off := s17, lacks := s20, words := .v (.list ((List.range 4).map fun t => .str (W t))) }) (lst 20)
      (.nx (LSt.vs { script := s, cells := s1, wants := s2, behind := s3, supplies := s4, lines := s6, table := s8, laid := s9, gave := s10, books := s16, off := s17, lacks := s20, words := .v (.list ((List.range 4).map fun t => .str (W t))), apart := .v (intL (apartL dist)) })) := by
  have ix : ∀ {k : Nat} (t : Nat), t < 4 → IxR prog w k (.list ((List.range 4).map fun t => .str (W t))) (.int (t : Nat)) (.str (W t)) := fun t ht => IxR.list (by omega) (small63 (by omega)) (by
    show ((List.range 4).map fun t => PyData.str (W t))[t]? = _
    rw [List.getElem?_map, List.getElem?_range ht]; rfl)
  refine P1.setCompG (xs := rng 0 4) (own := fun _ => []) (ρ₀ := [("i", .no), ("j", .no), ("words", .v (.list ((List.range 4).map fun t => .str (W t))))]) (ρi := fun t => [("i", .v (.int (t : Nat))), ("j", .no), ("words", .v (.list ((List.range 4).map fun t => .str (W t))))]) (p := fun _ => true) (zs := fun t => accAt (fun _ => true) (fun j => [.int (dist t j)]) (rng 0 t).length) 25
    ⟨rfl, rfl, by decide +kernel, PI.c (PI.range1 G.range rfl PE.int (by decide) (by decide) rfl (by decide)), own0, fun C av h os H => cap_no (cap_no (cap_v 21 H rfl rfl rfl rfl cap_nil)), fun C x hx => ?_, fun C _ t d hd => ?_, fun t _ => .drop (.same (.same .nil)), fun _ _ _ _ => .nil⟩ (fun C D it => form2a _ _ _ _ _ _ _ _ _ _ _ _)
    (fun C D H av fx t d hd _ => Em.inner (ρj := fun j => [("i", .v (.int (t : Nat))), ("j", .v (.int (j : Nat))), ("words", .v (.list ((List.range 4).map fun t => .str (W t))))]) (xs := rng 0 t) fx (fun q hq => ?_) (PI.range1 G.range rfl (PE.var 0 rfl) (by omega) ?_ rfl ?_) (fun j d hd => ?_) (fun j _ => .same (.drop (.same .nil))) (fun j d' hd' => ?_)) ?_ rfl (.inl rfl) (by rfl)
  · simp only [List.map_cons, List.map_nil, List.mem_cons, List.not_mem_nil, or_false] at hx
    rcases hx with rfl | rfl | rfl
    · exact .inl rfl
    · exact .inl rfl
    · exact .inr (.inr ⟨fun h => (by cases (show some NameKind.cell = some .local from h)), 2, _, rfl⟩)
  · obtain ⟨rfl, _⟩ := rng_at0 hd
    exact C2.name 0 rfl
  · simp only [List.mem_cons, List.not_mem_nil, or_false] at hq
    rcases hq with rfl | rfl | rfl <;> simp
  · obtain ⟨_, ht⟩ := rng_at0 hd; omega
  · obtain ⟨_, ht⟩ := rng_at0 hd; omega
  · obtain ⟨rfl, _⟩ := rng_at0 hd
    exact C2.name 1 rfl
  · obtain ⟨_, ht⟩ := rng_at0 hd
    obtain ⟨_, hj⟩ := rng_at0 hd'
    exact PE.callF G.lev.me rfl (.cons (PE.sub (PE.var 2 rfl) (PE.var 0 rfl) (ix t ht)) (.cons (PE.sub (PE.var 2 rfl) (PE.var 1 rfl) (ix j (by omega))) (.cons PE.int .nil))) (CallR.mono (lev_ok G.lev _ _ 5 _ (hW t ht) (hW j (by omega)) (hA t ht j hj)))
  · exact Nat.le_of_ble_eq_true rfl
theorem law21 (G : LawG B C T0 fi fc fg ft fa pN pV K cN cV f3 f4 f6 f11 f12 f20 f21 f22 f23 f24) (a b : List Int) (ha : a.length = 4) (hb : b.length = 6) (s s1 s2 s3 s4 s6 s8 s9 s10 s16 s17 s21 : Sl) :
    P1 prog w 6 (LE L f cd) B (LSt.vs { script := s, cells := s1, wants := s2, behind := s3, supplies := s4, lines := s6, table := s8, laid := s9, gave := s10, books := s16, off := s17, lacks := .v (intL a), words := s21, apart := .v (intL b) }) (lst 21)
      (.nx (LSt.vs { script := s, cells := s1, wants := s2, behind := s3, supplies := s4, lines := s6, table := s8, laid := s9, gave := s10, books := s16, off := s17, lacks := .v (intL a), words := s21, apart := .v (intL b) })) := by
  refine P1.skip (PT.cmp (compE (xs := (a ++ b).map .int) (own := fun _ => []) (ρ₀ := [("told", .no)]) (ρi := fun j => [("told", .v (.int ((a ++ b).getD j 0)))]) (p := fun _ => true) (f := fun _ => tyI) (out := List.replicate 10 tyI)
    ⟨rfl, rfl, by decide +kernel, PI.c (PI.list (PE.cast (PE.bin (PE.var 20 rfl) (PE.var 25 rfl) (BinR.addL ?_)) (congrArg PyData.list List.map_append.symm)) ?_ .name), own0, fun C av h os H => cap_no cap_nil, fun C j d hd => ?_, fun _ _ _ _ => .nil, fun C j d hd _ => PE.callT G.round.type rfl (PE.var 0 rfl)⟩ ?_) (PE.bin (PE.list (.cons (PE.tyInt G.round.int rfl) .nil)) PE.int (BinR.mulL (n := 10) (by decide))) CmpR.neTy) rfl
  · rw [List.length_map, List.length_map]; omega
  · rw [List.length_map, List.length_append]; omega
  · obtain ⟨rfl, _⟩ := at_int hd
    exact C2.name 0 rfl
  · rw [List.length_map, List.length_append, ha, hb, coll_all]; rfl
set_option maxRecDepth 100000 in
theorem law22 (G : LawG B C T0 fi fc fg ft fa pN pV K cN cV f3 f4 f6 f11 f12 f20 f21 f22 f23 f24) (its : List (Str × Str)) (hl : its.length ≤ 20) (b : List Int) (hs : b.sum = ((List.range 5).map fun j => ((bookOf its j).length : Int) * (4 - ((bookOf its j).length : Int))).sum) (s s1 s2 s3 s4 s6 s8 s9 s10 s17 s20 s21 : Sl) :
    P1 prog w 6 (LE L f cd) B (LSt.vs { script := s, cells := s1, wants := s2, behind := s3, supplies := s4, lines := s6, table := s8, laid := s9, gave := s10, books := .v (booksD its), off := s17, lacks := s20, words := s21, apart := .v (intL b) }) (lst 22) (.rt (.bool true)) := by
  have hbl : ∀ j, (bookOf its j).length ≤ 20 := fun j => by
    unfold bookOf; rw [List.length_map]; exact Nat.le_trans (List.length_filter_le _ _) hl
  refine P1.ret (PE.cast (PE.cmp (PE.callB G.sum rfl (.cons (PE.var 25 rfl) .nil) CallR.sum) (PE.callB G.sum rfl (.cons (compE (xs := (List.range 5).map fun j => strL (bookOf its j)) (own := fun _ => []) (ρ₀ := [("book", .no)]) (ρi := fun j => [("book", .v (strL (bookOf its j)))]) (p := fun _ => true) (f := fun j => .int (((bookOf its j).length : Int) * (4 - ((bookOf its j).length : Int)))) (out := ((List.range 5).map fun j => ((bookOf its j).length : Int) * (4 - ((bookOf its j).length : Int))).map .int)
    ⟨rfl, rfl, by decide +kernel, PI.c (PI.list (PE.var 16 rfl) ?_ .name), own0, fun C av h os H => cap_no cap_nil, fun C j d hd => ?_, fun _ _ _ _ => .nil, fun C j d hd _ => ?_⟩ ?_) .nil) CallR.sum) CmpR.eqI) ?_)
  · simp
  · obtain ⟨rfl, _⟩ := range_at hd
    exact C2.name 0 rfl
  · have h20 := hbl j
    have hlen := CallR.lenL (prog := prog) (w := w) (k := 6) (B := B) (ds := (bookOf its j).map .str) (by rw [List.length_map]; omega)
    rw [List.length_map] at hlen
    exact PE.bin (PE.callB G.round.len rfl (.cons (PE.var 0 rfl) .nil) hlen) (PE.bin PE.int (PE.callB G.round.len rfl (.cons (PE.var 0 rfl) .nil) hlen) BinR.sub) (BinR.mul (IntMulOk.of_left (bits_small _ (by omega))))
  · rw [List.length_map, List.length_range, coll_all, List.map_map]; rfl
  · rw [hs]; simp
end
end Mine
end
section
open PySem PySem.W PyProof.Rows
set_option linter.unusedVariables false
set_option linter.unusedSimpArgs false
namespace Mine
/-- what law's answer rests on, with no program in sight -/
structure PF (m : Int) (ws ys : List Nat) (lack : Nat → Int) (dist : Nat → Nat → Int) (rising : List Int) : Prop where
  vf : ∀ i < 4, ∃ mi, VFact m ys i mi
  tape4 : tapeRest m ys 4 = [m.fmod 256]
  low : ∀ p ∈ hdrs m ws ys 4, (Txt.lower p.1).length ≤ 16777216
  oks : ∀ p ∈ hdrs m ws ys 4, okS p.1 ∧ okS p.2
  bk : ∀ k < 5, (wsAt ws ys 4).getD k 0 + (bookOf (hdrs m ws ys 4) k).length = ws.getD k 0
  lk : ∀ t < 4, lev "abcde" (textOf (inB (hdrs m ws ys 4) t) (spareOf m t)) 10 = some (lack t)
  tl : ∀ t < 4, (textOf (inB (hdrs m ws ys 4) t) (spareOf m t)).length ≤ 1000
  wl : ∀ t < 4, (wordOf (inB (hdrs m ws ys 4) t)).length ≤ 1000
  ds : ∀ i < 4, ∀ j < i, lev (wordOf (inB (hdrs m ws ys 4) i)) (wordOf (inB (hdrs m ws ys 4) j)) 5 = some (dist i j)
  perm : rising.Perm (zl ws)
  sorted : rising.Pairwise (· ≤ ·)
  least : ∀ t : Nat, 1 ≤ t → t ≤ 4 → 10 * (t : Int) - ((lackL lack).take t).sum = 2 * minOf (cutsOf rising (zl (ys.take t)) 6)
  sums : (apartL dist).sum = ((List.range 5).map fun j => ((bookOf (hdrs m ws ys 4) j).length : Int) * (4 - ((bookOf (hdrs m ws ys 4) j).length : Int))).sum
section
variable {B : Heap} {prog : Program} {w : World} {L f : Addr} {cd : Value}
variable {C T0 fi fc fg ft fa pN pV : Addr} {K : Frag} {cN cV : Array Nat} {f3 f4 f6 f11 f12 f20 f21 f22 f23 f24 : Addr}
theorem wsOf_len {cs : List Int} (hc : cs.length = 10) : (wsOf cs).length = 5 := by simp [wsOf, hc]
theorem bsOf_len {cs : List Int} (hc : cs.length = 10) : (bsOf cs).length = 5 := by simp [bsOf, hc]
theorem ysOf_len {cs : List Int} (hc : cs.length = 10) : (ysOf cs).length = 4 := by simp [ysOf, hc]
theorem wsOf_lt (cs : List Int) (k : Nat) : (wsOf cs).getD k 0 < 6 := by
  unfold wsOf
  rw [List.getD_eq_getElem?_getD, List.getElem?_map]
  cases (cs.take 5)[k]? with
  | none => simp
  | some c =>
    have h1 := Int.fmod_lt_of_pos c (show (0 : Int) < 6 by decide)
    have h0 := Int.fmod_nonneg_of_pos c (show (0 : Int) < 6 by decide)
    simp only [Option.map_some, Option.getD_some]; omega
theorem bsOf_lt (cs : List Int) (k : Nat) : (bsOf cs).getD k 0 < 3 := by
  unfold bsOf
  rw [List.getD_eq_getElem?_getD, List.getElem?_map]
  cases (cs.take 5)[k]? with
  | none => simp
  | some c =>
    have h1 := Int.fmod_lt_of_pos (c.fdiv 6) (show (0 : Int) < 3 by decide)
    have h0 := Int.fmod_nonneg_of_pos (c.fdiv 6) (show (0 : Int) < 3 by decide)
    simp only [Option.map_some, Option.getD_some]; omega
theorem ysOf_lt (cs : List Int) : ∀ y ∈ ysOf cs, y < 262144 := by
  intro y hy
  obtain ⟨c, _, rfl⟩ := List.mem_map.mp hy
  have h0 := lawSupply_nn c
  have h1 : lawSupply c < 262144 := by
    unfold lawSupply
    split
    · exact Int.fmod_lt_of_pos _ (by decide)
    · have := Int.fmod_lt_of_pos c (show (0 : Int) < 6 by decide); omega
  omega
set_option maxRecDepth 100000 in
theorem law_body (G : LawG B C T0 fi fc fg ft fa pN pV K cN cV f3 f4 f6 f11 f12 f20 f21 f22 f23 f24) (Z : SignOk cN cV) (xs : List Int) (hx : xs.length ≤ 63) {lack : Nat → Int} {dist : Nat → Nat → Int} {rising : List Int}
    (P : PF (lastOf (cellsAt xs xs.length)) (wsOf (cellsAt xs xs.length)) (ysOf (cellsAt xs xs.length)) lack dist rising) :
    PS prog w 6 (LE L f cd) B (LSt.vs { script := .v (intL xs) }) (dBody 25) (.rt (.bool true)) := by
  have hc : (cellsAt xs xs.length).length = 10 := cellsAt_len _ _
  rw [lst_all]
  refine PS.cons (law0 G xs (by omega)) ?_
  generalize cellsAt xs xs.length = cs at hc P ⊢
  have hw := wsOf_len hc
  have hb := bsOf_len hc
  have hy := ysOf_len hc
  have hw' : ∀ k < 5, (wsOf cs).getD k 0 < 6 := fun k _ => wsOf_lt cs k
  have hb' : ∀ k < 5, (bsOf cs).getD k 0 < 3 := fun k _ => bsOf_lt cs k
  have hW' := wsAt_lt (wsOf cs) (ysOf cs) hw' 4
  have hl : (hdrs (lastOf cs) (wsOf cs) (ysOf cs) 4).length ≤ 20 := hdrs_len _ _ _ 4
  refine PS.cons (law1 G cs hc _) (PS.cons (law2 G cs hc _ _) (PS.cons (law3 G cs hc _ _ _) (PS.cons (law4 G (wsOf cs) (bsOf cs) hw hb hw' hb' _ _ _) (PS.cons (law5 G cs hc (ysOf cs) hy (ysOf_lt cs) _ _ _ _) (PS.cons (law6 G _ _ _ _ _ _ _) (PS.cons (law7 _ _ _ _ _ _ _ _) (PS.cons (law8 _ _ _ _ _ _ _ _ _) ?_)))))))
  refine PS.cons (law9 G Z cs hc (wsOf cs) (bsOf cs) (ysOf cs) hw' hb' hy P.vf _ _ _) ?_
  refine PS.frz' (ρ' := LSt.vs { script := .v (intL xs), cells := .v (intL cs), wants := .v (natL (wsOf cs)), behind := .v (natL (bsOf cs)), supplies := .v (natL (ysOf cs)), lines := .v (strL (lines (wsAt (wsOf cs) (ysOf cs) 4) (bsOf cs))), tape := .o (.itr ((tapeRest (lastOf cs) (ysOf cs) 4).map .int)), table := .o (.hdr C (hdrs (lastOf cs) (wsOf cs) (ysOf cs) 4)), laid := .v (.list ((hdrs (lastOf cs) (wsOf cs) (ysOf cs) 4).map tupD)), gave := .o (.lst (List.replicate (hdrs (lastOf cs) (wsOf cs) (ysOf cs) 4).length .none)) }) 9 rfl ?_
  rw [P.tape4]
  have hlow := P.low
  have hok := P.oks
  have hbk := P.bk
  have hlk := P.lk
  have htl := P.tl
  have hwl := P.wl
  have hds := P.ds
  have hsum := P.sums
  generalize hdrs (lastOf cs) (wsOf cs) (ysOf cs) 4 = its at hl hlow hok hbk hlk htl hwl hds hsum
  generalize wsAt (wsOf cs) (ysOf cs) 4 = W at hW' hbk
  refine PS.frz' 10 rfl (PS.cons (law10 G cs hc its hl hok _ _ _ _ _) (PS.cons (law11 G Z its hl hlow _ _ _ _ _ _ _ _) (PS.cons (law12 G its hl hlow hok _ _ _ _ _ _ _ _) (PS.cons (law13 G its (wsOf cs) W (bsOf cs) hw hb hW' hb' hbk hw' _ _ _ _ _ _) (PS.cons (law14 cs hc _ _ _ _ _ _ _ _ _) (PS.cons (law15 G its (wsOf cs) W (bsOf cs) _ (offOf_lt _) hw hb hW' hb' hbk hw' _ _ _ _ _ _) (PS.cons (law16 _ _ _ _ _ _ _ _ _ _ _) (PS.cons (law17 _ _ _ _ _ _ _ _ _ _ _ _) ?_))))))))
  refine PS.cons (law18 G its hok cs hc lack hlk htl _ _ _ _ _ _ _ _ _) ?_
  refine PS.frz 20 (x := "lacks") rfl (PS.frz 21 (x := "words") rfl ?_)
  refine PS.cons (law19 G (wsOf cs) (ysOf cs) hw hy lack rising P.perm P.sorted P.least _ _ _ _ _ _ _ _ _ _) ?_
  refine PS.cons (law20 G (fun t => wordOf (inB its t)) dist hwl hds _ _ _ _ _ _ _ _ _ _ _ _) (PS.cons (law21 G (lackL lack) (apartL dist) (by simp [lackL]) rfl _ _ _ _ _ _ _ _ _ _ _ _) (PS.ret (law22 G its hl (apartL dist) hsum _ _ _ _ _ _ _ _ _ _ _ _)))
end
end Mine
end
section
open PySem PySem.W PyProof.Rows
set_option linter.unusedVariables false
set_option linter.unusedSimpArgs false
namespace Mine
section
variable {prog : Program} {w : World} {s₁ : Shared}
variable {C T0 fi fc fg ft fa pN pV : Addr} {K : Frag} {cN cV : Array Nat} {f3 f4 f6 f11 f12 f20 f21 f22 f23 f24 : Addr}
theorem caller_ok : OkA 7 callerA := ⟨rfl, by decide, by decide⟩
set_option maxRecDepth 100000 in
theorem law_run (G : LawG s₁.heap C T0 fi fc fg ft fa pN pV K cN cV f3 f4 f6 f11 f12 f20 f21 f22 f23 f24) (Z : SignOk cN cV) {fl : Addr} {o : Obj} {pm cd doc kV ct : Value} {an : Option Addr} (ho : s₁.heap.get? fl = some o) (hd : o.data = .func (fnOf "law" "law" (dArgs 25) (dBody 25) (dScope 25) .none kV doc pm an cd ct)) (hcd : s₁.heap.CodeRec cd "law")
    {l : Addr} {vs : Array Value} {n : Nat} (hl : s₁.heap.get? l = some (lobj vs n)) {xs : List Int} (hI : IntsAre vs.toList xs) (hx : xs.length ≤ 63)
    (hP : ∃ lack dist rising, PF (lastOf (cellsAt xs xs.length)) (wsOf (cellsAt xs xs.length)) (ysOf (cellsAt xs xs.length)) lack dist rising) :
    wpAny (model prog w) callerA (call (.ref fl) [.ref l]) (fun V s' => V = .bool true ∧ Keeps s₁ s') (fun _ _ => False) s₁ := by
  obtain ⟨lack, dist, rising, P⟩ := hP
  refine fn_enterG (k := 6) (ns := ["script"]) (rest := ["cells", "wants", "behind", "supplies", "k", "lines", "tape", "table", "laid", "gave", "turn", "supply", "given", "letter", "name", "books", "off", "lead", "bare", "lacks", "words", "takers", "spare", "text", "apart"]) (av := []) ho hd G.hc.lim hcd rfl rfl rfl rfl (kind_loc (scope := dScope 25) (by decide +kernel)) (by decide +kernel) (fun L => nodup_of (by rfl)) caller_ok (fun a ha => by cases ha) ?_ rfl rfl rfl
  refine wpAny_of_eq (a := ([("script", .ref l)] : List (Str × Value))) (by with_unfolding_all rfl) ⟨kp_refl s₁, [.ref l], [intL xs], rfl, rfl, .cons (.list (fun h => by cases h) hl (.of_ints hI)) .nil, fun L h₁ tk hL X => ?_⟩
  have Y := X s₁.heap fun _ _ e => e
  have Pb := law_body (prog := prog) (w := w) (L := L) (f := fl) (cd := cd) G Z xs hx P
  refine wpAny_mono (Pb.out _ _ [] [] _ caller_ok.deeper Y) (fun fl s' q => ?_) fun _ _ e => e
  obtain ⟨⟨h', t', rfl⟩, V, rfl, hv, hk⟩ := q
  exact ⟨hv.bool_inv, h', t', rfl, hk⟩

/-- the function object at f -/
def fnData (K : Frag) (f : Addr) : FuncData := match K.lookup f with
  | some ⟨_, _, .func fd, _⟩ => fd
  | _ => Calls.docDef "" ⟨[], [], none, [], [], none, []⟩ [] P0.main.scope .none .none .none
theorem fnData_at {h : Heap} {f : Addr} (X : K.In h) (h1 : fnIn K f = true) : ∃ o, h.get? f = some o ∧ o.data = .func (fnData K f) := by
  unfold fnIn at h1
  unfold fnData
  split at h1
  · rename_i e
    exact ⟨_, X _ _ e, by rw [e]⟩
  · cases h1
theorem fnAt_of {h : Heap} {f : Addr} {x : Str} {i : Nat} {mg : Str → Option Value} (X : K.In h) (Gm : h.Ns mainGlobals mg) (lim : h.NoLimit) (h0 : nsIn K mainGlobals x = some (some (.ref f))) (h1 : fnIn K f = true) (h2 : fnData K f = Calls.docDef x (dArgs i) (dBody i) (dScope i) (fnData K f).pyModule (fnData K f).code (fnData K f).doc) (h3 : codeIn K (fnData K f).code x = true) :
    FnAt h x i f := by
  obtain ⟨o, ho, hd⟩ := fnData_at X h1
  exact ⟨⟨mg, Gm, mg_of X Gm h0⟩, ⟨o, _, _, _, ho, by rw [hd]; exact congrArg Data.func h2, codeRec_of X h3⟩, lim⟩
theorem mtAt_of {h : Heap} {f C : Addr} {x q : Str} {i : Nat} {dV : Value} (X : K.In h) (a : findIn K (.ref C) x = some (some (.ref f))) (b : typeIn K (.ref f) = some (.type "function")) (c : keepIn K (.ref f) = true) (h1 : fnIn K f = true)
    (h2 : fnData K f = fnOf x q (mArgs i) (mBody i) (mScope i) dV (fnData K f).kwdefaults (fnData K f).doc (fnData K f).pyModule (fnData K f).annotations (fnData K f).code (fnData K f).closureTuple) (h3 : codeIn K (fnData K f).code q = true) : MtAt h K C x q i dV f := by
  obtain ⟨o, ho, hd⟩ := fnData_at X h1
  exact ⟨a, b, c, o, _, _, _, _, _, _, ho, by rw [hd]; exact congrArg Data.func h2, codeRec_of X h3⟩
def patOk (K : Frag) (p : Addr) (code : Array Nat) : Bool := match K.lookup p with
  | some ⟨.type c, none, .fields vs, _⟩ => c == "re.Pattern" && Builtin.Re.reRawNat (vs.getD 6 .none) == 0 && Builtin.Re.reRawNat (vs.getD 2 .none) == 0 && (match vs.getD 5 .none with
      | .ref t => (match K.lookup t with
          | some ⟨_, _, .seq items _, _⟩ => (items.map Builtin.Re.reRawOf).map (·.toNat) == code
          | _ => false)
      | _ => false)
  | _ => false
theorem patAt_of {h : Heap} {p : Addr} {code : Array Nat} (X : K.In h) (e : patOk K p code = true) : PatAt h p code := by
  unfold patOk at e
  split at e
  · rename_i c vs sl hp
    rw [Bool.and_eq_true, Bool.and_eq_true, Bool.and_eq_true] at e
    obtain ⟨⟨⟨e1, e2⟩, e3⟩, e4⟩ := e
    split at e4
    · rename_i t ht
      split at e4
      · rename_i items n _ hti
        exact ⟨_, vs, t, _, items, n, X _ _ hp, by rw [beq_iff_eq.mp e1], rfl, rfl, ht, beq_iff_eq.mp e2, beq_iff_eq.mp e3, X _ _ hti, rfl, beq_iff_eq.mp e4⟩
      · cases e4
    · cases e4
  · cases e
theorem bg_of {h : Heap} {x : Str} {V : Value} {mg : Str → Option Value} (X : K.In h) (Gm : h.Ns mainGlobals mg) (h0 : nsIn K mainGlobals x = some (some V)) : BG h x V := ⟨mg, Gm, mg_of X Gm h0⟩
theorem bi_of {h : Heap} {x : Str} {V : Value} {mg mb : Str → Option Value} (X : K.In h) (Gm : h.Ns mainGlobals mg) (Gb : h.Ns builtinsNs mb) (hb : ∀ x : Str, x ≠ "__name__" → mb x = bootBuiltins x) (h0 : nsIn K mainGlobals x = some none) (hn : x ≠ "__name__") (h1 : bootBuiltins x = some V) : BI h x V :=
  ⟨mg, mb, Gm, mg_none_of X Gm h0, Gb, (hb x hn).trans h1⟩
theorem ht_of {h : Heap} {T0 : Addr} (X : K.In h) {o : Obj} {n : Nat} (e : K.lookup T0 = some o) (e2 : o.data = .seq #[.none] n) : ∃ o n, h.get? T0 = some o ∧ o.data = .seq #[.none] n := ⟨_, _, X _ _ e, e2⟩
def cNc : Array Nat := #[14, 10, 4, 1, 1, 22, 0, 31, 16, 127, 0, 13, 7, 22, 0, 31, 16, 127, 0, 1]
def cVc : Array Nat := #[14, 14, 4, 1, 1, 9, 4294966783, 0, 0, 2147483648, 0, 0, 0, 0, 0, 13, 11, 9, 4294966783, 0, 0, 2147483648, 0, 0, 0, 0, 0, 1]
theorem sign_ok : SignOk cNc cVc := ⟨by decide +kernel, by decide +kernel, by decide +kernel⟩
end
end Mine
end
section
set_option linter.unusedVariables false
set_option linter.unusedSimpArgs false
namespace Mine
def allB : Nat → (Nat → Bool) → Bool
  | 0, _ => true
  | n + 1, f => f n && allB n f
def anyB : Nat → (Nat → Bool) → Bool
  | 0, _ => false
  | n + 1, f => f n || anyB n f
theorem allB_at {f : Nat → Bool} : ∀ {n k : Nat}, allB n f = true → k < n → f k = true
  | n + 1, k, h, hk => by
    rw [allB, Bool.and_eq_true] at h
    rcases Nat.lt_or_ge k n with q | q
    · exact allB_at h.2 q
    · have : k = n := by omega
      rw [this]; exact h.1
theorem anyB_ex {f : Nat → Bool} : ∀ {n : Nat}, anyB n f = true → ∃ k, k < n ∧ f k = true
  | n + 1, h => by
    rw [anyB, Bool.or_eq_true] at h
    rcases h with h | h
    · exact ⟨n, Nat.lt_succ_self n, h⟩
    · obtain ⟨k, hk, e⟩ := anyB_ex h
      exact ⟨k, Nat.lt_succ_of_lt hk, e⟩
def mn (x y : Nat) : Nat := bif Nat.ble x y then x else y
theorem mn_eq (x y : Nat) : mn x y = min x y := by
  unfold mn
  cases h : Nat.ble x y with
  | true => have := Nat.le_of_ble_eq_true h; simp only [cond_true]; omega
  | false =>
    have : ¬ x ≤ y := fun q => by rw [Nat.ble_eq_true_of_le q] at h; cases h
    simp only [cond_false]; omega
def P5 (a b c d e k : Nat) : Nat := (a - k) + (b - k) + (c - k) + (d - k) + (e - k)
def st1 (x x' t : Nat) : Nat := bif Nat.ble t x' then x else bif Nat.ble x t then x' else x + x' - t
theorem ble_f {x y : Nat} (h : y < x) : Nat.ble x y = false := by
  cases q : Nat.ble x y with
  | true => exact absurd (Nat.le_of_ble_eq_true q) (Nat.not_le_of_lt h)
  | false => rfl
theorem st1_eq {x x' t : Nat} (h : x' ≤ x) : st1 x x' t = x' + ((x - x') - min (x - x') (t - x')) := by
  unfold st1
  rcases Nat.lt_or_ge x' t with h1 | h1
  · rw [ble_f h1, cond_false]
    rcases Nat.lt_or_ge t x with h2 | h2
    · rw [ble_f h2, cond_false, Nat.min_eq_right (Nat.sub_le_sub_right (Nat.le_of_lt h2) _)]; omega
    · rw [Nat.ble_eq_true_of_le h2, cond_true, Nat.min_eq_left (Nat.sub_le_sub_right h2 _), Nat.sub_self]; rfl
  · rw [Nat.ble_eq_true_of_le h1, cond_true, Nat.sub_eq_zero_of_le h1, Nat.min_zero, Nat.sub_zero, Nat.add_sub_cancel' h]
theorem st1_cap {x x' y : Nat} (hy : 5 ≤ y) (h : x' ≤ x) (hx : x ≤ 5) : st1 x x' y = st1 x x' 5 := by
  rcases Nat.lt_or_eq_of_le hy with q | q
  · unfold st1
    rw [ble_f (Nat.lt_of_le_of_lt (Nat.le_trans h hx) q), cond_false, Nat.ble_eq_true_of_le (Nat.le_trans hx hy), cond_true, Nat.ble_eq_true_of_le hx, cond_true]
    cases e : Nat.ble 5 x' with
    | true => exact Nat.le_antisymm h (Nat.le_trans hx (Nat.le_of_ble_eq_true e))
    | false => rfl
  · rw [q]
def Ak (a b c d e y k : Nat) : Nat := P5 a b c d e k + mn y k
def Bk (a b c d e y k : Nat) : Nat := mn y a + P5 (st1 a b y) (st1 b c y) (st1 c d y) (st1 d e y) (st1 e 0 y) k
/-- at k the two cuts agree, or k lies between two at which the first is as good -/
def chk (a b c d e y k : Nat) : Bool := Nat.ble (Bk a b c d e y k) (Ak a b c d e y k) && (Nat.ble (Ak a b c d e y k) (Bk a b c d e y k) || anyB k (fun p => Nat.ble (Ak a b c d e y p) (Bk a b c d e y k)) || anyB k fun p => anyB (5 - k) fun q' => anyB 6 fun s => Nat.ble (Ak a b c d e y p) (Bk a b c d e y k + (k - p) * (s + 1)) && Nat.ble (Ak a b c d e y (k + 1 + q') + (q' + 1) * s) (Bk a b c d e y k))
set_option maxRecDepth 100000 in
theorem chk_all : (allB 6 fun a => allB (a + 1) fun b => allB (b + 1) fun c => allB (c + 1) fun d => allB (d + 1) fun e => allB 6 fun y => allB 6 fun k => chk a b c d e y k) = true := by decide +kernel
theorem chk_at {a b c d e y k : Nat} (ha : a ≤ 5) (hb : b ≤ a) (hc : c ≤ b) (hd : d ≤ c) (he : e ≤ d) (hy : y ≤ 5) (hk : k ≤ 5) : chk a b c d e y k = true :=
  allB_at (allB_at (allB_at (allB_at (allB_at (allB_at (allB_at chk_all (Nat.lt_succ_of_le ha)) (Nat.lt_succ_of_le hb)) (Nat.lt_succ_of_le hc)) (Nat.lt_succ_of_le hd)) (Nat.lt_succ_of_le he)) (Nat.lt_succ_of_le hy)) (Nat.lt_succ_of_le hk)
def minTo (X : Nat → Nat) : Nat → Nat
  | 0 => X 0
  | n + 1 => min (minTo X n) (X (n + 1))
theorem minTo_le (X : Nat → Nat) : ∀ {n k : Nat}, k ≤ n → minTo X n ≤ X k
  | 0, k, h => by rw [Nat.le_zero.mp h]; exact Nat.le_refl _
  | n + 1, k, h => by
    rcases Nat.lt_or_eq_of_le h with q | q
    · exact Nat.le_trans (Nat.min_le_left _ _) (minTo_le X (Nat.le_of_lt_succ q))
    · rw [q]; exact Nat.min_le_right _ _
theorem minTo_ex (X : Nat → Nat) : ∀ n, ∃ k, k ≤ n ∧ minTo X n = X k
  | 0 => ⟨0, Nat.le_refl _, rfl⟩
  | n + 1 => by
    obtain ⟨k, hk, e⟩ := minTo_ex X n
    rcases Nat.le_total (minTo X n) (X (n + 1)) with h | h
    · exact ⟨k, Nat.le_succ_of_le hk, (Nat.min_eq_left h).trans e⟩
    · exact ⟨n + 1, Nat.le_refl _, Nat.min_eq_right h⟩
theorem minTo_congr {X Y : Nat → Nat} : ∀ {n : Nat}, (∀ k, k ≤ n → X k = Y k) → minTo X n = minTo Y n
  | 0, h => h 0 (Nat.le_refl _)
  | n + 1, h => by rw [minTo, minTo, minTo_congr fun k hk => h k (Nat.le_succ_of_le hk), h (n + 1) (Nat.le_refl _)]
theorem minTo_add (c : Nat) (X : Nat → Nat) : ∀ n, minTo (fun k => c + X k) n = c + minTo X n
  | 0 => rfl
  | n + 1 => by rw [minTo, minTo, minTo_add c X n]; exact Nat.add_min_add_left _ _ _
def min6 (X : Nat → Nat) : Nat := minTo X 5
theorem min6_le (X : Nat → Nat) {k : Nat} (hk : k ≤ 5) : min6 X ≤ X k := minTo_le X hk
theorem min6_ex (X : Nat → Nat) : ∃ k, k ≤ 5 ∧ min6 X = X k := minTo_ex X 5
theorem min6_congr {X Y : Nat → Nat} (h : ∀ k, k ≤ 5 → X k = Y k) : min6 X = min6 Y := minTo_congr h
theorem min6_add (c : Nat) (X : Nat → Nat) : min6 (fun k => c + X k) = c + min6 X := minTo_add c X 5
/-- rises less and less -/
structure Conc (G : Nat → Nat) : Prop where
  c : ∀ k, G k + G (k + 2) ≤ 2 * G (k + 1)
  m : ∀ k, G k ≤ G (k + 1)
theorem Conc.mono {G : Nat → Nat} (h : Conc G) {p k : Nat} (hp : p ≤ k) : G p ≤ G k := by
  induction hp with
  | refl => exact Nat.le_refl _
  | step _ ih => exact Nat.le_trans ih (h.m _)
theorem Conc.down {G : Nat → Nat} (h : Conc G) {s : Nat} : ∀ (n p : Nat), G (p + n) + s < G (p + n + 1) → G p + (n + 1) * (s + 1) ≤ G (p + n + 1)
  | 0, p, q => by rw [Nat.zero_add, Nat.one_mul]; exact q
  | n + 1, p, q => by
    have c : G (p + n) + G (p + n + 1 + 1) ≤ 2 * G (p + n + 1) := h.c (p + n)
    have e : p + (n + 1) = p + n + 1 := rfl
    rw [e] at q ⊢
    have ih := Conc.down (s := s) h n p (by omega)
    rw [Nat.succ_mul (n + 1)]
    omega
theorem Conc.up {G : Nat → Nat} (h : Conc G) {s k : Nat} (q : G (k + 1) ≤ G k + s) : ∀ n, G (k + n + 1) ≤ G (k + n) + s ∧ G (k + n + 1) ≤ G k + (n + 1) * s
  | 0 => ⟨q, by rw [Nat.zero_add, Nat.one_mul]; exact q⟩
  | n + 1 => by
    obtain ⟨i1, i2⟩ := Conc.up h q n
    have c : G (k + n) + G (k + n + 1 + 1) ≤ 2 * G (k + n + 1) := h.c (k + n)
    have e : k + (n + 1) = k + n + 1 := rfl
    rw [e, Nat.succ_mul (n + 1)]
    constructor <;> omega
theorem Conc.step {G : Nat → Nat} (h : Conc G) {p k q : Nat} (hp : p < k) (hq : k < q) (hq5 : q ≤ 5) (s : Nat) : G p + (k - p) * (s + 1) ≤ G k ∨ G q ≤ G k + (q - k) * s := by
  obtain ⟨n, rfl⟩ := Nat.exists_eq_add_of_lt hp
  obtain ⟨n', rfl⟩ := Nat.exists_eq_add_of_lt hq
  rw [show p + n + 1 - p = n + 1 by omega, show p + n + 1 + n' + 1 - (p + n + 1) = n' + 1 by omega]
  rcases Nat.lt_or_ge (G (p + n) + s) (G (p + n + 1)) with q | q
  · exact .inl (h.down n p q)
  · have c : G (p + n) + G (p + n + 1 + 1) ≤ 2 * G (p + n + 1) := h.c (p + n)
    exact .inr (h.up (by omega) n').2
theorem one_step {a b c d e y : Nat} {G : Nat → Nat} (hG : Conc G) (ha : a ≤ 5) (hb : b ≤ a) (hc : c ≤ b) (hd : d ≤ c) (he : e ≤ d) (hy : y ≤ 5) :
    min6 (fun k => Ak a b c d e y k + G k) = min6 (fun k => Bk a b c d e y k + G k) := by
  have low : ∀ p, p ≤ 5 → ∀ z, Ak a b c d e y p + G p ≤ z → min6 (fun k => Ak a b c d e y k + G k) ≤ z := fun p hp z h => Nat.le_trans (min6_le (fun k => Ak a b c d e y k + G k) hp) h
  apply Nat.le_antisymm
  · obtain ⟨k, hk, e1⟩ := min6_ex fun k => Bk a b c d e y k + G k
    rw [e1]
    have h := chk_at ha hb hc hd he hy hk
    unfold chk at h
    rw [Bool.and_eq_true, Bool.or_eq_true, Bool.or_eq_true] at h
    rcases h.2 with (h2 | h2) | h2
    · exact low k hk _ (Nat.add_le_add_right (Nat.le_of_ble_eq_true h2) _)
    · obtain ⟨p, hp, h3⟩ := anyB_ex h2
      exact low p (Nat.le_trans (Nat.le_of_lt hp) hk) _ (Nat.add_le_add (Nat.le_of_ble_eq_true h3) (hG.mono (Nat.le_of_lt hp)))
    · obtain ⟨p, hp, h3⟩ := anyB_ex h2
      obtain ⟨q', hq, h4⟩ := anyB_ex h3
      obtain ⟨s, hs, h5⟩ := anyB_ex h4
      rw [Bool.and_eq_true] at h5
      have i1 := Nat.le_of_ble_eq_true h5.1
      have i2 := Nat.le_of_ble_eq_true h5.2
      have e2 : k + 1 + q' - k = q' + 1 := by omega
      have q5 : k + 1 + q' ≤ 5 := by omega
      rcases hG.step hp (show k < k + 1 + q' by omega) q5 s with g | g
      · refine low p (Nat.le_trans (Nat.le_of_lt hp) hk) _ (Nat.le_trans (Nat.add_le_add_right i1 _) ?_)
        rw [Nat.add_assoc, Nat.add_comm _ (G p)]
        exact Nat.add_le_add_left g _
      · rw [e2] at g
        refine low (k + 1 + q') q5 _ (Nat.le_trans (Nat.add_le_add_left g _) ?_)
        rw [Nat.add_comm (G k), ← Nat.add_assoc]
        exact Nat.add_le_add_right i2 _
  · obtain ⟨k, hk, e1⟩ := min6_ex fun k => Ak a b c d e y k + G k
    rw [e1]
    have h := chk_at ha hb hc hd he hy hk
    unfold chk at h
    rw [Bool.and_eq_true] at h
    exact Nat.le_trans (min6_le (fun k => Bk a b c d e y k + G k) hk) (Nat.add_le_add_right (Nat.le_of_ble_eq_true h.1) _)
end Mine
end
section
set_option linter.unusedVariables false
set_option linter.unusedSimpArgs false
namespace Mine
def ind (b : Bool) : Nat := if b = true then 1 else 0
def cntP (p : Nat → Bool) : Nat → Nat
  | 0 => 0
  | n + 1 => cntP p n + ind (p n)
theorem cntP_filter (p : Nat → Bool) : ∀ n, ((List.range n).filter p).length = cntP p n
  | 0 => rfl
  | n + 1 => by
    rw [List.range_succ, List.filter_append, List.length_append, cntP_filter p n, cntP, ind]
    by_cases h : p n = true <;> simp [h]
theorem cntP_congr {p q : Nat → Bool} : ∀ {n : Nat}, (∀ k, k < n → p k = q k) → cntP p n = cntP q n
  | 0, _ => rfl
  | n + 1, h => by rw [cntP, cntP, cntP_congr fun k hk => h k (Nat.lt_succ_of_lt hk), h n (Nat.lt_succ_self n)]
theorem cntP_add {p q r : Nat → Bool} : ∀ {n : Nat}, (∀ k, k < n → ind (p k) = ind (q k) + ind (r k)) → cntP p n = cntP q n + cntP r n
  | 0, _ => rfl
  | n + 1, h => by
    have h1 := cntP_add (n := n) fun k hk => h k (Nat.lt_succ_of_lt hk)
    have h2 := h n (Nat.lt_succ_self n)
    rw [cntP, cntP, cntP]; omega
theorem cntP_le {p : Nat → Bool} : ∀ {n : Nat}, cntP p n ≤ n
  | 0 => Nat.le_refl _
  | n + 1 => by
    have := cntP_le (p := p) (n := n)
    rw [cntP, ind]; split <;> omega
theorem cntP_lt {p : Nat → Bool} {k : Nat} : ∀ {n : Nat}, k ≤ n → cntP (fun o => p o && decide (o < k)) n = cntP p k
  | 0, h => by have : k = 0 := by omega
               subst this; rfl
  | n + 1, h => by
    rw [cntP]
    rcases Nat.lt_or_ge n k with q | q
    · have hk : k = n + 1 := by omega
      subst hk
      have e : decide (n < n + 1) = true := decide_eq_true (by omega)
      rw [e, Bool.and_true, cntP]
      congr 1
      exact cntP_congr fun o ho => by rw [decide_eq_true (show o < n + 1 by omega), Bool.and_true]
    · rw [cntP_lt q]
      have e : decide (n < k) = false := decide_eq_false (by omega)
      rw [e, Bool.and_false]; rfl
/-- how many of the first n are at least v; are v -/
def Nn (w : Nat → Nat) (v n : Nat) : Nat := cntP (fun k => decide (v ≤ w k)) n
def Mm (w : Nat → Nat) (v n : Nat) : Nat := cntP (fun k => decide (w k = v)) n
theorem Nn_eq (w : Nat → Nat) (v n : Nat) : Nn w v n = Nn w (v + 1) n + Mm w v n := cntP_add fun k _ => by
  unfold ind
  by_cases h1 : v ≤ w k <;> by_cases h2 : v + 1 ≤ w k <;> by_cases h3 : w k = v <;> simp [h1, h2, h3] <;> omega
theorem Nn_le (w : Nat → Nat) (v n : Nat) : Nn w (v + 1) n ≤ Nn w v n := by rw [Nn_eq w v n]; omega
theorem first_r (w : Nat → Nat) (v r : Nat) : ∀ n, cntP (fun k => decide (w k = v) && decide (Mm w v k < r)) n = min (Mm w v n) r
  | 0 => by simp [cntP, Mm]
  | n + 1 => by
    rw [cntP, first_r w v r n]
    show _ = min (cntP (fun k => decide (w k = v)) n + ind (decide (w n = v))) r
    have e : cntP (fun k => decide (w k = v)) n = Mm w v n := rfl
    rw [e]
    unfold ind
    by_cases h1 : w n = v <;> by_cases h2 : Mm w v n < r <;> simp [h1, h2] <;> omega
def wf (ws : List Nat) (k : Nat) : Nat := ws.getD k 0
theorem sgn1_m1 (d : Int) : (sgn1 d == -1) = decide (d ≤ -1) := by
  unfold sgn1
  by_cases h : d ≤ -1
  · rw [decide_eq_true h, if_pos (show d < 1 by omega), if_neg (by omega)]; rfl
  · rw [decide_eq_false h, beq_eq_false_iff_ne]
    by_cases h1 : d < 1
    · rw [if_pos h1, if_pos (by omega)]; omega
    · rw [if_neg h1, if_pos (by decide)]; decide
theorem key_lt (x z o k : Nat) (ho : o < 5) (hk : k < 5) : ind (decide (5 * (5 - (x : Int)) + (o : Int) - (5 * (5 - (z : Int)) + (k : Int)) ≤ -1)) = ind (decide (z + 1 ≤ x)) + ind (decide (x = z) && decide (o < k)) := by
  by_cases a1 : z + 1 ≤ x
  · rw [decide_eq_true a1, decide_eq_false (show ¬ x = z by omega), decide_eq_true (by omega)]; rfl
  · by_cases a2 : x = z
    · by_cases a3 : o < k
      · rw [decide_eq_false a1, decide_eq_true a2, decide_eq_true a3, decide_eq_true (by omega)]; rfl
      · rw [decide_eq_false a1, decide_eq_true a2, decide_eq_false a3, decide_eq_false (by omega)]; rfl
    · rw [decide_eq_false a1, decide_eq_false a2, decide_eq_false (by omega)]; rfl
theorem count_map (f : Nat → Int) (x : Int) : ∀ n, ((List.range n).map f).count x = cntP (fun o => f o == x) n
  | 0 => rfl
  | n + 1 => by
    rw [List.range_succ, List.map_append, List.count_append, count_map f x n, cntP, ind]
    congr 1
    by_cases h : f n = x
    · simp [h]
    · have : (f n == x) = false := beq_eq_false_iff_ne.mpr h
      simp [this, List.count_cons]
theorem rank_eq (ws : List Nat) {k : Nat} (hk : k < 5) : (signsOf ws k).count (-1) = Nn (wf ws) (wf ws k + 1) 5 + Mm (wf ws) (wf ws k) k := by
  unfold signsOf
  rw [count_map]
  have h1 : cntP (fun o => decide (wf ws o = wf ws k) && decide (o < k)) 5 = Mm (wf ws) (wf ws k) k := cntP_lt (p := fun o => decide (wf ws o = wf ws k)) (by omega)
  rw [← h1]
  refine cntP_add fun o ho => ?_
  rw [sgn1_m1]
  exact key_lt (ws.getD o 0) (ws.getD k 0) o k ho hk
theorem takes_eq (ws : List Nat) (y : Nat) {k : Nat} (hk : k < 5) : takes ws y k = (decide (0 < wf ws k) && decide (Nn (wf ws) (wf ws k + 1) 5 + Mm (wf ws) (wf ws k) k < y)) := by
  unfold takes; rw [rank_eq ws hk]; rfl
theorem next_at (ws : List Nat) (y : Nat) {k : Nat} (hk : k < 5) : wf (nextW ws y) k = if takes ws y k = true then wf ws k - 1 else wf ws k := by
  unfold wf nextW
  rw [List.getD_eq_getElem?_getD, List.getElem?_map, List.getElem?_range hk]; rfl
theorem taken_v (ws : List Nat) (y : Nat) {v : Nat} (hv : 1 ≤ v) : cntP (fun k => decide (wf ws k = v) && takes ws y k) 5 = min (Mm (wf ws) v 5) (y - Nn (wf ws) (v + 1) 5) := by
  rw [← first_r]
  refine cntP_congr fun k hk => ?_
  rw [takes_eq ws y hk]
  by_cases h : wf ws k = v
  · rw [h, decide_eq_true rfl, decide_eq_true (show 0 < v by omega), Bool.true_and, Bool.true_and, Bool.true_and]
    congr 1
    exact propext ⟨fun _ => by omega, fun _ => by omega⟩
  · rw [decide_eq_false h]; rfl
/-- how many want v or more -/
abbrev NV (ws : List Nat) (v : Nat) : Nat := Nn (wf ws) v 5
theorem NV_next (ws : List Nat) (y : Nat) {v : Nat} (hv : 1 ≤ v) : NV (nextW ws y) v = st1 (NV ws v) (NV ws (v + 1)) y := by
  rw [st1_eq (Nn_le _ _ _), Nn_eq (wf ws) v 5, Nat.add_sub_cancel_left, ← taken_v ws y hv]
  have h1 : Mm (wf ws) v 5 = cntP (fun k => decide (wf ws k = v) && takes ws y k) 5 + cntP (fun k => decide (wf ws k = v) && !takes ws y k) 5 := cntP_add fun k _ => by
    unfold ind
    by_cases a : wf ws k = v <;> cases takes ws y k <;> simp [a]
  have h2 : NV (nextW ws y) v = NV ws (v + 1) + cntP (fun k => decide (wf ws k = v) && !takes ws y k) 5 := cntP_add fun k hk => by
    rw [next_at ws y hk]
    have ht : takes ws y k = true → 0 < wf ws k := fun h => by
      rw [takes_eq ws y hk, Bool.and_eq_true] at h; exact of_decide_eq_true h.1
    unfold ind
    cases h : takes ws y k with
    | true =>
      have := ht h
      simp only [if_true, Bool.not_true, Bool.and_false, Bool.false_eq_true, if_false, decide_eq_true_eq]
      by_cases a : v ≤ wf ws k - 1
      · rw [if_pos a, if_pos (by omega)]
      · rw [if_neg a, if_neg (by omega)]
    | false =>
      simp only [Bool.false_eq_true, if_false, Bool.not_false, Bool.and_true, decide_eq_true_eq]
      by_cases a : v ≤ wf ws k
      · rw [if_pos a]
        by_cases b : v + 1 ≤ wf ws k
        · rw [if_pos b, if_neg (by omega)]
        · rw [if_neg b, if_pos (by omega)]
      · rw [if_neg a, if_neg (by omega), if_neg (by omega)]
  rw [h2]
  show Nn (wf ws) (v + 1) 5 + _ = Nn (wf ws) (v + 1) 5 + _
  omega
theorem NV6 (ws : List Nat) (h : ∀ k < 5, wf ws k < 6) : NV ws 6 = 0 := by
  have : NV ws 6 = cntP (fun _ => false) 5 := cntP_congr fun k hk => decide_eq_false (by have := h k hk; omega)
  rw [this]; rfl
theorem min_split (M N y : Nat) : min M (y - N) + min y N = min y (N + M) := by
  rcases Nat.le_total y N with h | h
  · rw [Nat.sub_eq_zero_of_le h, Nat.min_zero, Nat.zero_add, Nat.min_eq_left h, Nat.min_eq_left (Nat.le_trans h (Nat.le_add_right N M))]
  · rw [Nat.min_eq_right h, ← Nat.add_min_add_right, Nat.sub_add_cancel h, Nat.min_comm, Nat.add_comm N M]
theorem taken_ge (ws : List Nat) (y : Nat) {v : Nat} (hv : 1 ≤ v) (h : cntP (fun k => decide (v + 1 ≤ wf ws k) && takes ws y k) 5 = min y (NV ws (v + 1))) : cntP (fun k => decide (v ≤ wf ws k) && takes ws y k) 5 = min y (NV ws v) := by
  have g : cntP (fun k => decide (v ≤ wf ws k) && takes ws y k) 5 = cntP (fun k => decide (wf ws k = v) && takes ws y k) 5 + cntP (fun k => decide (v + 1 ≤ wf ws k) && takes ws y k) 5 := cntP_add fun k _ => by
    rcases Nat.lt_trichotomy (wf ws k) v with q | q | q
    · rw [decide_eq_false (show ¬ v ≤ wf ws k by omega), decide_eq_false (show ¬ wf ws k = v by omega), decide_eq_false (show ¬ v + 1 ≤ wf ws k by omega)]; rfl
    · rw [decide_eq_true (show v ≤ wf ws k by omega), decide_eq_true q, decide_eq_false (show ¬ v + 1 ≤ wf ws k by omega)]; rfl
    · rw [decide_eq_true (show v ≤ wf ws k by omega), decide_eq_false (show ¬ wf ws k = v by omega), decide_eq_true (show v + 1 ≤ wf ws k from q)]
      exact (Nat.zero_add _).symm
  rw [g, taken_v ws y hv, h, min_split, ← Nn_eq]
theorem taken_all (ws : List Nat) (y : Nat) (h : ∀ k < 5, wf ws k < 6) : cntP (takes ws y) 5 = min y (NV ws 1) := by
  have g0 : cntP (takes ws y) 5 = cntP (fun k => decide (1 ≤ wf ws k) && takes ws y k) 5 := cntP_congr fun k hk => by
    cases q : takes ws y k with
    | false => rw [Bool.and_false]
    | true =>
      have q' := q
      rw [takes_eq ws y hk, Bool.and_eq_true] at q'
      rw [decide_eq_true (show 1 ≤ wf ws k from of_decide_eq_true q'.1)]; rfl
  have g6 : cntP (fun k => decide (5 + 1 ≤ wf ws k) && takes ws y k) 5 = min y (NV ws (5 + 1)) := by
    have e : cntP (fun k => decide (6 ≤ wf ws k) && takes ws y k) 5 = cntP (fun _ => false) 5 := cntP_congr fun k hk => by
      rw [decide_eq_false (Nat.not_le_of_lt (h k hk))]; rfl
    rw [show NV ws (5 + 1) = 0 from NV6 ws h, Nat.min_zero]
    exact e
  rw [g0]
  exact taken_ge ws y (by decide) (taken_ge ws y (by decide) (taken_ge ws y (by decide) (taken_ge ws y (by decide) (taken_ge ws y (by decide) g6))))
end Mine
end
section
set_option linter.unusedVariables false
set_option linter.unusedSimpArgs false
open PySem PySem.W PyProof.Rows
namespace Mine
def gs (l : List Nat) (k : Nat) : Nat := (l.map fun y => mn y k).sum
theorem gs_cons (y : Nat) (l : List Nat) (k : Nat) : gs (y :: l) k = mn y k + gs l k := by
  unfold gs; rw [List.map_cons, List.sum_cons]
theorem mn_conc (y k : Nat) : min y k + min y (k + 2) ≤ 2 * min y (k + 1) := by
  rcases Nat.lt_or_ge k y with h | h
  · rw [Nat.min_eq_right (Nat.le_of_lt h), Nat.min_eq_right (show k + 1 ≤ y from h)]
    have := Nat.min_le_right y (k + 2)
    omega
  · rw [Nat.min_eq_left h, Nat.min_eq_left (Nat.le_succ_of_le h), Nat.min_eq_left (Nat.le_succ_of_le (Nat.le_succ_of_le h)), Nat.two_mul]
    exact Nat.le_refl _
theorem gs_conc : ∀ l, Conc (gs l)
  | [] => ⟨fun k => Nat.le_refl _, fun k => Nat.le_refl _⟩
  | y :: l => by
    have h := gs_conc l
    refine ⟨fun k => ?_, fun k => ?_⟩
    · rw [gs_cons, gs_cons, gs_cons, mn_eq, mn_eq, mn_eq, Nat.mul_add, Nat.add_add_add_comm]
      exact Nat.add_le_add (mn_conc y k) (h.c k)
    · rw [gs_cons, gs_cons, mn_eq, mn_eq]
      exact Nat.add_le_add (Nat.le_min.mpr ⟨Nat.min_le_left _ _, Nat.le_succ_of_le (Nat.min_le_right _ _)⟩) (h.m k)
/-- all that the givers hand out -/
def totL (ws : List Nat) : List Nat → Nat
  | [] => 0
  | y :: ys => cntP (takes ws y) 5 + totL (nextW ws y) ys
theorem mn_cap {y k : Nat} (hy : 5 ≤ y) (hk : k ≤ 5) : mn y k = mn 5 k := by rw [mn_eq, mn_eq]; omega
theorem one_step' {a b c d e y : Nat} {G : Nat → Nat} (hG : Conc G) (ha : a ≤ 5) (hb : b ≤ a) (hc : c ≤ b) (hd : d ≤ c) (he : e ≤ d) :
    min6 (fun k => Ak a b c d e y k + G k) = min6 (fun k => Bk a b c d e y k + G k) := by
  rcases Nat.lt_or_ge 5 y with h | h
  · have h1 : min6 (fun k => Ak a b c d e y k + G k) = min6 (fun k => Ak a b c d e 5 k + G k) := min6_congr fun k hk => by
      unfold Ak; rw [mn_cap (Nat.le_of_lt h) hk]
    have h2 : min6 (fun k => Bk a b c d e y k + G k) = min6 (fun k => Bk a b c d e 5 k + G k) := min6_congr fun k hk => by
      have h' := Nat.le_of_lt h
      unfold Bk
      rw [mn_cap h' ha, st1_cap h' hb ha, st1_cap h' hc (by omega), st1_cap h' hd (by omega), st1_cap h' he (by omega), st1_cap h' (Nat.zero_le e) (by omega)]
    rw [h1, h2]
    exact one_step hG ha hb hc hd he (by omega)
  · exact one_step hG ha hb hc hd he h
/-- the first term of each of the six cuts -/
def PN5 (ws : List Nat) (k : Nat) : Nat := P5 (NV ws 1) (NV ws 2) (NV ws 3) (NV ws 4) (NV ws 5) k
theorem NV_le (ws : List Nat) (v : Nat) : NV ws v ≤ 5 := cntP_le
theorem tot_eq : ∀ (l ws : List Nat), (∀ k < 5, wf ws k < 6) → totL ws l = min6 (fun k => PN5 ws k + gs l k)
  | [], ws, h => by
    have h1 := min6_le (fun k => PN5 ws k + gs [] k) (k := 5) (by omega)
    have e : PN5 ws 5 + gs [] 5 = 0 := by
      unfold PN5 P5
      rw [Nat.sub_eq_zero_of_le (NV_le ws 1), Nat.sub_eq_zero_of_le (NV_le ws 2), Nat.sub_eq_zero_of_le (NV_le ws 3), Nat.sub_eq_zero_of_le (NV_le ws 4), Nat.sub_eq_zero_of_le (NV_le ws 5)]
      rfl
    rw [totL]
    exact (Nat.le_zero.mp (Nat.le_trans h1 (Nat.le_of_eq e))).symm
  | y :: l, ws, h => by
    have h5 : NV ws 6 = 0 := NV6 ws h
    have ih := tot_eq l (nextW ws y) (nextW_lt ws y h)
    rw [totL, ih, taken_all ws y h, ← mn_eq, ← min6_add]
    have e1 : (fun k => mn y (NV ws 1) + (PN5 (nextW ws y) k + gs l k)) = fun k => Bk (NV ws 1) (NV ws 2) (NV ws 3) (NV ws 4) (NV ws 5) y k + gs l k := by
      funext k
      unfold PN5 Bk
      rw [NV_next ws y (v := 1) (by omega), NV_next ws y (v := 2) (by omega), NV_next ws y (v := 3) (by omega), NV_next ws y (v := 4) (by omega), NV_next ws y (v := 5) (by omega)]
      simp only [Nat.reduceAdd, h5]
      exact (Nat.add_assoc _ _ _).symm
    have e2 : (fun k => PN5 ws k + gs (y :: l) k) = fun k => Ak (NV ws 1) (NV ws 2) (NV ws 3) (NV ws 4) (NV ws 5) y k + gs l k := by
      funext k
      rw [gs_cons]
      exact (Nat.add_assoc _ _ _).symm
    rw [e1, e2]
    exact (one_step' (gs_conc l) (NV_le ws 1) (Nn_le _ 1 _) (Nn_le _ 2 _) (Nn_le _ 3 _) (Nn_le _ 4 _)).symm
theorem len5 {α : Type} {l : List α} (h : l.length = 5) : ∃ a b c d e, l = [a, b, c, d, e] := by
  match l, h with
  | [a, b, c, d, e], _ => exact ⟨a, b, c, d, e, rfl⟩
theorem len4 {α : Type} {l : List α} (h : l.length = 4) : ∃ a b c d, l = [a, b, c, d] := by
  match l, h with
  | [a, b, c, d], _ => exact ⟨a, b, c, d, rfl⟩
theorem NV_count (ws : List Nat) (hw : ws.length = 5) (v : Nat) : NV ws v = ws.countP fun x => decide (v ≤ x) := by
  obtain ⟨a, b, c, d, e, rfl⟩ := len5 hw
  simp only [List.countP_cons, List.countP_nil]
  show 0 + ind _ + ind _ + ind _ + ind _ + ind _ = _
  unfold ind wf
  simp only [List.getD_cons_zero, List.getD_cons_succ]
  omega
theorem NV_perm {ws r : List Nat} (hw : ws.length = 5) (p : r.Perm ws) (v : Nat) : NV r v = NV ws v := by
  rw [NV_count ws hw, NV_count r (p.length_eq.trans hw), p.countP_eq]
def chk2 (a b c d e k : Nat) : Bool := Nat.beq (([a, b, c, d, e].take (5 - k)).sum) (PN5 [a, b, c, d, e] k)
set_option maxRecDepth 100000 in
theorem chk2_all : (allB 6 fun e => allB (e + 1) fun d => allB (d + 1) fun c => allB (c + 1) fun b => allB (b + 1) fun a => allB 6 fun k => chk2 a b c d e k) = true := by decide +kernel
theorem sorted_take {r : List Nat} (hr : r.length = 5) (hs : r.Pairwise (· ≤ ·)) (hl : ∀ x ∈ r, x < 6) {k : Nat} (hk : k ≤ 5) : (r.take (5 - k)).sum = PN5 r k := by
  obtain ⟨a, b, c, d, e, rfl⟩ := len5 hr
  simp only [List.pairwise_cons, List.mem_cons, List.not_mem_nil, or_false, forall_eq_or_imp, forall_eq] at hs hl
  have h := allB_at (allB_at (allB_at (allB_at (allB_at (allB_at chk2_all (k := e) (by omega)) (k := d) (by omega)) (k := c) (by omega)) (k := b) (by omega)) (k := a) (by omega)) (k := k) (by omega)
  exact Nat.eq_of_beq_eq_true h
theorem zl_sum : ∀ l : List Nat, (zl l).sum = (l.sum : Nat)
  | [] => rfl
  | a :: l => by rw [zl, List.map_cons, List.sum_cons, ← zl, zl_sum l, List.sum_cons]; omega
theorem capped_sum (k : Nat) : ∀ l : List Nat, (capped (zl l) k).sum = (gs l k : Nat)
  | [] => rfl
  | a :: l => by
    have h := capped_sum k l
    unfold capped at h ⊢
    rw [zl, List.map_cons, List.map_cons, List.sum_cons, ← zl, h, gs_cons, mn_eq]
    split <;> omega
theorem cut_eq {r : List Nat} (hr : r.length = 5) (hs : r.Pairwise (· ≤ ·)) (hl : ∀ x ∈ r, x < 6) (l : List Nat) {k : Nat} (hk : k ≤ 5) : cut (zl r) (zl l) k = ((PN5 r k + gs l k : Nat) : Int) := by
  unfold cut
  have e : (5 - (k : Int)) = ((5 - k : Nat) : Int) := by omega
  rw [e, sl_take, zl, ← List.map_take, ← zl, zl_sum, sorted_take hr hs hl hk, capped_sum]
  omega
theorem minOf_eq (r z : List Int) (X : Nat → Nat) (h : ∀ k, k ≤ 5 → cut r z k = (X k : Nat)) : minOf (cutsOf r z 6) = (min6 X : Nat) := by
  have hg : ∀ k, k ≤ 5 → (cutsOf r z 6).getD k 0 = (X k : Nat) := fun k hk => by
    unfold cutsOf
    rw [List.getD_eq_getElem?_getD, List.getElem?_map, List.getElem?_range (by omega)]
    exact h k hk
  have hlen : (cutsOf r z 6).length - 1 = 5 := by simp [cutsOf]
  unfold minOf
  rw [hlen]
  obtain ⟨h1, h2⟩ := argBest_lt (fun i => (cutsOf r z 6).getD i 0) 5
  generalize argBest (fun i j => decide ((cutsOf r z 6).getD i 0 < (cutsOf r z 6).getD j 0)) 5 = b at h1 h2
  rw [hg b h1]
  have m1 := min6_le X h1
  obtain ⟨k, hk, e⟩ := min6_ex X
  have m2 := h2 k hk
  rw [hg b h1, hg k hk] at m2
  omega
def cnts (ws ys : List Nat) (i : Nat) : Nat := cntP (takes (wsAt ws ys i) (ys.getD i 0)) 5
def riseN (ws : List Nat) : List Nat := ws.mergeSort fun a b => decide (a ≤ b)
theorem rise_perm (ws : List Nat) : (riseN ws).Perm ws := List.mergeSort_perm _ _
theorem rise_sorted (ws : List Nat) : (riseN ws).Pairwise (· ≤ ·) := by
  refine List.Pairwise.imp (fun h => of_decide_eq_true h) (List.pairwise_mergeSort (le := fun a b => decide (a ≤ b)) (fun a b c h1 h2 => ?_) (fun a b => ?_) ws)
  · have := of_decide_eq_true h1; have := of_decide_eq_true h2; exact decide_eq_true (by omega)
  · rw [Bool.or_eq_true, decide_eq_true_eq, decide_eq_true_eq]; omega
theorem zl_perm {a b : List Nat} (h : a.Perm b) : (zl a).Perm (zl b) := h.map _
theorem zl_sorted {a : List Nat} (h : a.Pairwise (· ≤ ·)) : (zl a).Pairwise (· ≤ ·) := by
  unfold zl
  rw [List.pairwise_map]
  exact h.imp fun h => by omega
def lackOf (ws ys : List Nat) (t : Nat) : Int := 10 - 2 * (cnts ws ys t : Nat)
theorem least_ok (ws ys : List Nat) (hw : ws.length = 5) (hy : ys.length = 4) (hl : ∀ k < 5, wf ws k < 6) (t : Nat) (h1 : 1 ≤ t) (h4 : t ≤ 4) :
    10 * (t : Int) - ((lackL (lackOf ws ys)).take t).sum = 2 * minOf (cutsOf (zl (riseN ws)) (zl (ys.take t)) 6) := by
  have hmem : ∀ x ∈ riseN ws, x < 6 := fun x hx => by
    obtain ⟨k, hk, e⟩ := List.getElem_of_mem ((rise_perm ws).mem_iff.mp hx)
    have := hl k (by omega)
    unfold wf at this
    rw [List.getD_eq_getElem?_getD, List.getElem?_eq_getElem hk, e] at this
    exact this
  have hm : minOf (cutsOf (zl (riseN ws)) (zl (ys.take t)) 6) = (totL ws (ys.take t) : Nat) := by
    rw [minOf_eq _ _ (fun k => PN5 (riseN ws) k + gs (ys.take t) k) fun k hk => cut_eq ((rise_perm ws).length_eq.trans hw) (rise_sorted ws) hmem _ hk, tot_eq _ _ hl]
    congr 2
    funext k
    unfold PN5
    rw [NV_perm hw (rise_perm ws), NV_perm hw (rise_perm ws), NV_perm hw (rise_perm ws), NV_perm hw (rise_perm ws), NV_perm hw (rise_perm ws)]
  rw [hm]
  clear hm hmem
  obtain ⟨y0, y1, y2, y3, rfl⟩ := len4 hy
  have c0 : cnts ws [y0, y1, y2, y3] 0 = cntP (takes ws y0) 5 := rfl
  have c1 : cnts ws [y0, y1, y2, y3] 1 = cntP (takes (nextW ws y0) y1) 5 := rfl
  have c2 : cnts ws [y0, y1, y2, y3] 2 = cntP (takes (nextW (nextW ws y0) y1) y2) 5 := rfl
  have c3 : cnts ws [y0, y1, y2, y3] 3 = cntP (takes (nextW (nextW (nextW ws y0) y1) y2) y3) 5 := rfl
  have eL : lackL (lackOf ws [y0, y1, y2, y3]) = [lackOf ws [y0, y1, y2, y3] 0, lackOf ws [y0, y1, y2, y3] 1, lackOf ws [y0, y1, y2, y3] 2, lackOf ws [y0, y1, y2, y3] 3] := rfl
  rw [eL]
  unfold lackOf
  rw [c0, c1, c2, c3]
  have hT : t = 1 ∨ t = 2 ∨ t = 3 ∨ t = 4 := by omega
  rcases hT with rfl | rfl | rfl | rfl
  · have : totL ws ([y0, y1, y2, y3].take 1) = cntP (takes ws y0) 5 + 0 := rfl
    rw [this]
    simp only [List.take_succ_cons, List.take_zero, List.sum_cons, List.sum_nil]
    omega
  · have : totL ws ([y0, y1, y2, y3].take 2) = cntP (takes ws y0) 5 + (cntP (takes (nextW ws y0) y1) 5 + 0) := rfl
    rw [this]
    simp only [List.take_succ_cons, List.take_zero, List.sum_cons, List.sum_nil]
    omega
  · have : totL ws ([y0, y1, y2, y3].take 3) = cntP (takes ws y0) 5 + (cntP (takes (nextW ws y0) y1) 5 + (cntP (takes (nextW (nextW ws y0) y1) y2) 5 + 0)) := rfl
    rw [this]
    simp only [List.take_succ_cons, List.take_zero, List.sum_cons, List.sum_nil]
    omega
  · have : totL ws ([y0, y1, y2, y3].take 4) = cntP (takes ws y0) 5 + (cntP (takes (nextW ws y0) y1) 5 + (cntP (takes (nextW (nextW ws y0) y1) y2) 5 + (cntP (takes (nextW (nextW (nextW ws y0) y1) y2) y3) 5 + 0))) := rfl
    rw [this]
    simp only [List.take_succ_cons, List.take_zero, List.sum_cons, List.sum_nil]
    omega
end Mine
end
section
open PySem PySem.W PyProof.Rows
set_option linter.unusedVariables false
set_option linter.unusedSimpArgs false
namespace Mine
/-- giver i hands one to k -/
abbrev bt (ws ys : List Nat) (i k : Nat) : Bool := takes (wsAt ws ys i) (ys.getD i 0) k
theorem low_sg : ∀ j : Nat, j < 5 → Txt.lower (sg (97 + j)) = sg (97 + j) ∧ Txt.lower (sg (65 + j)) = sg (97 + j) := by decide +kernel
theorem sg_eq : ∀ j : Nat, j < 5 → ∀ k : Nat, k < 5 → (sg (97 + j) == sg (97 + k)) = decide (j = k) := by decide +kernel
theorem sg_ok : ∀ j : Nat, j < 5 → okS (sg (97 + j)) ∧ okS (sg (65 + j)) ∧ (sg (97 + j)).length = 1 := by decide +kernel
theorem giver_eq : ∀ i : Nat, i < 4 → ∀ t : Nat, t < 4 → PyData.eqv (.str (giver i)) (.str (giver t)) = decide (i = t) := by decide +kernel
theorem low_name (m : Int) (i : Nat) {j : Nat} (hj : j < 5) : Txt.lower (nameOf m i j) = sg (97 + j) := by
  unfold nameOf
  split
  · exact (low_sg j hj).1
  · exact (low_sg j hj).2
theorem low_hdr (m : Int) (i : Nat) {j k : Nat} (hj : j < 5) (hk : k < 5) : lowEq (sg (97 + k)) (hdrOf m i j) = decide (j = k) := by
  show (Txt.lower (nameOf m i j) == _) = _
  rw [low_name m i hj]; exact sg_eq j hj k hk
theorem pick5 (p : Nat → Bool) {k : Nat} (hk : k < 5) : (List.range 5).filter (fun j => p j && decide (j = k)) = if p k = true then [k] else [] := by
  have e : List.range 5 = [0, 1, 2, 3, 4] := rfl
  rw [e]
  have : k = 0 ∨ k = 1 ∨ k = 2 ∨ k = 3 ∨ k = 4 := by omega
  rcases this with rfl | rfl | rfl | rfl | rfl <;> simp only [List.filter_cons, List.filter_nil] <;> simp <;> split <;> simp_all
theorem book_turn (m : Int) (ws ys : List Nat) (i : Nat) {k : Nat} (hk : k < 5) : bookOf ((takersAt ws ys i).map (hdrOf m i)) k = if bt ws ys i k = true then [giver i] else [] := by
  unfold bookOf takersAt
  rw [List.filter_map, List.filter_filter, List.map_map]
  have e : (List.range 5).filter (fun a => (lowEq (sg (97 + k)) ∘ hdrOf m i) a && takes (wsAt ws ys i) (ys.getD i 0) a) = (List.range 5).filter (fun j => bt ws ys i j && decide (j = k)) := by
    refine List.filter_congr fun j hj => ?_
    rw [Function.comp, low_hdr m i (List.mem_range.mp hj) hk, Bool.and_comm]
  rw [e, pick5 _ hk]
  split <;> rfl
theorem book_eq (m : Int) (ws ys : List Nat) {k : Nat} (hk : k < 5) : ∀ n, bookOf (hdrs m ws ys n) k = ((List.range n).filter fun i => bt ws ys i k).map giver
  | 0 => rfl
  | n + 1 => by
    have h := book_eq m ws ys hk n
    have h2 := book_turn m ws ys n hk
    unfold bookOf at h h2 ⊢
    rw [hdrs, List.filter_append, List.map_append, h, h2, List.range_succ, List.filter_append, List.map_append]
    congr 1
    by_cases q : bt ws ys n k = true
    · rw [if_pos q, List.filter_cons, if_pos q]; rfl
    · rw [if_neg q, List.filter_cons, if_neg q]; rfl
theorem book_len (m : Int) (ws ys : List Nat) {k : Nat} (hk : k < 5) (n : Nat) : (bookOf (hdrs m ws ys n) k).length = cntP (fun i => bt ws ys i k) n := by
  rw [book_eq m ws ys hk, List.length_map, cntP_filter]
theorem bk_ok (ws ys : List Nat) {k : Nat} (hk : k < 5) : ∀ n, (wsAt ws ys n).getD k 0 + cntP (fun i => bt ws ys i k) n = ws.getD k 0
  | 0 => rfl
  | n + 1 => by
    have h := bk_ok ws ys hk n
    have h2 := next_at (wsAt ws ys n) (ys.getD n 0) hk
    unfold wf at h2
    rw [wsAt, h2, cntP, ind]
    by_cases q : bt ws ys n k = true
    · rw [if_pos q, if_pos q]
      have q' := q
      unfold bt at q'
      rw [takes_eq _ _ hk, Bool.and_eq_true] at q'
      have := of_decide_eq_true q'.1
      unfold wf at this
      omega
    · rw [if_neg q, if_neg q]; omega
theorem inB_eq (m : Int) (ws ys : List Nat) {t k : Nat} (ht : t < 4) (hk : k < 5) : inB (hdrs m ws ys 4) t k = bt ws ys t k := by
  unfold inB
  rw [book_eq m ws ys hk, List.map_map, List.any_map, List.any_filter]
  have e : (List.range 4).any (fun a => bt ws ys a k && ((fun y => PyData.eqv y (.str (giver t))) ∘ (PyData.str ∘ giver)) a) = (List.range 4).any (fun a => bt ws ys a k && decide (a = t)) := by
    have e4 : List.range 4 = [0, 1, 2, 3] := rfl
    rw [e4]
    simp only [List.any_cons, List.any_nil, Function.comp]
    rw [giver_eq 0 (by omega) t ht, giver_eq 1 (by omega) t ht, giver_eq 2 (by omega) t ht, giver_eq 3 (by omega) t ht]
  rw [e]
  have e4 : List.range 4 = [0, 1, 2, 3] := rfl
  rw [e4]
  have : t = 0 ∨ t = 1 ∨ t = 2 ∨ t = 3 := by omega
  rcases this with rfl | rfl | rfl | rfl <;> simp
theorem mem_hdrs (m : Int) (ws ys : List Nat) : ∀ n, ∀ p ∈ hdrs m ws ys n, ∃ i j, i < n ∧ j < 5 ∧ p = hdrOf m i j
  | n + 1, p, hp => by
    rw [hdrs] at hp
    rcases List.mem_append.mp hp with h | h
    · obtain ⟨i, j, h1, h2, h3⟩ := mem_hdrs m ws ys n p h
      exact ⟨i, j, by omega, h2, h3⟩
    · obtain ⟨j, hj, rfl⟩ := List.mem_map.mp h
      exact ⟨n, j, by omega, takersAt_lt ws ys n j hj, rfl⟩
theorem low_ok (m : Int) (ws ys : List Nat) : ∀ p ∈ hdrs m ws ys 4, (Txt.lower p.1).length ≤ 16777216 := fun p hp => by
  obtain ⟨i, j, h1, h2, rfl⟩ := mem_hdrs m ws ys 4 p hp
  show (Txt.lower (nameOf m i j)).length ≤ _
  rw [low_name m i h2, (sg_ok j h2).2.2]; omega
theorem oks_ok (m : Int) (ws ys : List Nat) : ∀ p ∈ hdrs m ws ys 4, okS p.1 ∧ okS p.2 := fun p hp => by
  obtain ⟨i, j, h1, h2, rfl⟩ := mem_hdrs m ws ys 4 p hp
  refine ⟨?_, okS_giver i h1⟩
  show okS (nameOf m i j)
  unfold nameOf
  split
  · exact (sg_ok j h2).1
  · exact (sg_ok j h2).2.1
theorem text_congr {b c : Nat → Bool} (sp : Str) (h : ∀ k < 5, b k = c k) : textOf b sp = textOf c sp := by
  unfold textOf
  congr 1
  exact List.map_congr_left fun k hk => by rw [h k (List.mem_range.mp hk)]
theorem word_congr {b c : Nat → Bool} (h : ∀ k < 5, b k = c k) : wordOf b = wordOf c := by
  unfold wordOf
  congr 1
  exact List.map_congr_left fun k hk => by rw [h k (List.mem_range.mp hk)]
theorem mask5 : ∀ b0 b1 b2 b3 b4 : Bool, ∃ n, n < 32 ∧ n.testBit 0 = b0 ∧ n.testBit 1 = b1 ∧ n.testBit 2 = b2 ∧ n.testBit 3 = b3 ∧ n.testBit 4 = b4 := by
  intro b0 b1 b2 b3 b4
  refine ⟨ind b0 + 2 * ind b1 + 4 * ind b2 + 8 * ind b3 + 16 * ind b4, ?_⟩
  revert b0 b1 b2 b3 b4
  decide +kernel
theorem mask (b : Nat → Bool) : ∃ n, n < 32 ∧ ∀ k < 5, b k = n.testBit k := by
  obtain ⟨n, hn, h0, h1, h2, h3, h4⟩ := mask5 (b 0) (b 1) (b 2) (b 3) (b 4)
  refine ⟨n, hn, fun k hk => ?_⟩
  have : k = 0 ∨ k = 1 ∨ k = 2 ∨ k = 3 ∨ k = 4 := by omega
  rcases this with rfl | rfl | rfl | rfl | rfl
  · exact h0.symm
  · exact h1.symm
  · exact h2.symm
  · exact h3.symm
  · exact h4.symm
set_option maxRecDepth 100000 in
theorem text_len : ∀ n : Nat, n < 32 → (textOf n.testBit "").length ≤ 1000 ∧ (textOf n.testBit "x").length ≤ 1000 ∧ (wordOf n.testBit).length ≤ 1000 := by decide +kernel
end Mine
end
section
open PySem PySem.W PyProof.Rows
set_option linter.unusedVariables false
set_option linter.unusedSimpArgs false
namespace Mine
/-- the one sign of a text, of ten that are looked up at once -/
def oneOf (x : Str) : Nat := match x with
  | ⟨⟨[c]⟩⟩ => bif Nat.ble 97 c && Nat.ble c 101 then c else bif Nat.ble 65 c && Nat.ble c 69 then c else 0
  | _ => 0
def fastAt (c d : Nat) : Int := bif Nat.beq c d then 0 else bif Nat.beq (c % 32) (d % 32) then 1 else 2
def fastCost (x y : Str) : Int := bif Nat.beq (oneOf x) 0 || Nat.beq (oneOf y) 0 then subCost x y else fastAt (oneOf x) (oneOf y)
set_option maxRecDepth 100000 in
theorem fast_pair : ∀ i : Nat, i < 5 → ∀ j : Nat, j < 5 → (subCost (sg (97 + i)) (sg (97 + j)) = fastAt (97 + i) (97 + j) ∧ subCost (sg (97 + i)) (sg (65 + j)) = fastAt (97 + i) (65 + j)) ∧ (subCost (sg (65 + i)) (sg (97 + j)) = fastAt (65 + i) (97 + j) ∧ subCost (sg (65 + i)) (sg (65 + j)) = fastAt (65 + i) (65 + j)) := by decide +kernel
theorem oneOf_ne {x : Str} (h : Nat.beq (oneOf x) 0 = false) : ∃ i, i < 5 ∧ ((x = sg (97 + i) ∧ oneOf x = 97 + i) ∨ (x = sg (65 + i) ∧ oneOf x = 65 + i)) := by
  unfold oneOf at h ⊢
  split at h
  · rename_i c
    cases h1 : Nat.ble 97 c && Nat.ble c 101 with
    | true =>
      rw [Bool.and_eq_true] at h1
      have a := Nat.le_of_ble_eq_true h1.1
      have b := Nat.le_of_ble_eq_true h1.2
      exact ⟨c - 97, by omega, .inl ⟨by rw [Nat.add_sub_cancel' a], by rw [cond_true]; omega⟩⟩
    | false =>
      rw [h1, cond_false] at h
      cases h2 : Nat.ble 65 c && Nat.ble c 69 with
      | true =>
        rw [Bool.and_eq_true] at h2
        have a := Nat.le_of_ble_eq_true h2.1
        have b := Nat.le_of_ble_eq_true h2.2
        exact ⟨c - 65, by omega, .inr ⟨by rw [Nat.add_sub_cancel' a], by rw [cond_false, cond_true]; omega⟩⟩
      | false => rw [h2, cond_false] at h; cases h
  · cases h
theorem fast_eq : subCost = fastCost := by
  funext x y
  unfold fastCost
  cases h1 : Nat.beq (oneOf x) 0 with
  | true => rw [Bool.true_or, cond_true]
  | false =>
    cases h2 : Nat.beq (oneOf y) 0 with
    | true => rw [Bool.or_true, cond_true]
    | false =>
      rw [Bool.or_false, cond_false]
      obtain ⟨i, hi, p⟩ := oneOf_ne h1
      obtain ⟨j, hj, q⟩ := oneOf_ne h2
      have f := fast_pair i hi j hj
      rcases p with ⟨e1, p⟩ | ⟨e1, p⟩ <;> rcases q with ⟨e2, q⟩ | ⟨e2, q⟩ <;> rw [p, q, e1, e2]
      · exact f.1.1
      · exact f.1.2
      · exact f.2.1
      · exact f.2.2
-- the distance over any costs
def gIn (sc : Str → Str → Int) (bc a : Str) (t : Lv) (i : Nat) : Lv :=
  let sub := t.distance + sc bc (Txt.item a i)
  let d := t.row.getD i 0
  let idl := (if d < t.result then d else t.result) + 2
  let r := if sub < idl then sub else idl
  { row := t.row.set i r, result := r, distance := d, minimum := if r < t.minimum then r else t.minimum }
def gIns (sc : Str → Str → Int) (bc a : Str) (t : Lv) : Nat → Lv
  | 0 => t
  | i + 1 => gIn sc bc a (gIns sc bc a t i) i
def gRow (sc : Str → Str → Int) (a b : Str) (row : List Int) (j : Nat) : Lv := gIns sc (Txt.item b j) a { row := row, result := j * 2, distance := j * 2, minimum := 9223372036854775807 } a.length
def gOut (sc : Str → Str → Int) (a b : Str) : Nat → Lv
  | 0 => { row := step 2 2 a.length, result := 0, distance := 0, minimum := 0 }
  | j + 1 => gRow sc a b (gOut sc a b j).row j
def gEnd (sc : Str → Str → Int) (a b : Str) (max : Int) : Option Int :=
  if !nz a || !nz b then some (2 * (a.length + b.length)) else
  if decide ((a.length : Int) > 40) || decide ((b.length : Int) > 40) then none else
  let p := if (b.length : Int) < a.length then (b, a) else (a, b)
  if ((p.2.length : Int) - p.1.length) * 2 > max then none else
  if (List.range p.2.length).all fun j => decide ¬ (gOut sc p.1 p.2 (j + 1)).minimum > max then some (gOut sc p.1 p.2 p.2.length).result else none
/-- are two texts the same, sign by sign -/
def eqL : List Nat → List Nat → Bool
  | [], [] => true
  | c :: x, d :: y => Nat.beq c d && eqL x y
  | _, _ => false
theorem eqL_iff : ∀ x y : List Nat, eqL x y = true ↔ x = y
  | [], [] => ⟨fun _ => rfl, fun _ => rfl⟩
  | [], d :: y => ⟨fun h => (nomatch h), fun h => (nomatch h)⟩
  | c :: x, [] => ⟨fun h => (nomatch h), fun h => (nomatch h)⟩
  | c :: x, d :: y => by
    rw [eqL, Bool.and_eq_true, eqL_iff x y, List.cons.injEq]
    exact ⟨fun h => ⟨Nat.eq_of_beq_eq_true h.1, h.2⟩, fun h => ⟨by rw [h.1]; exact Nat.beq_refl d, h.2⟩⟩
def eqS (x y : Str) : Bool := eqL x.cps.toList y.cps.toList
theorem eqS_eq (x y : Str) : (x == y) = eqS x y := by
  rw [Bool.eq_iff_iff, beq_iff_eq, eqS, eqL_iff]
  refine ⟨fun h => by rw [h], fun h => ?_⟩
  obtain ⟨⟨x⟩⟩ := x
  obtain ⟨⟨y⟩⟩ := y
  have h' : x = y := h
  rw [h']
def preF (a b : Str) (j : Nat) : Option Bool :=
  if nz (Txt.slice a (some j) none) && nz (Txt.slice b (some j) none) then
    if (Txt.charAt a j).isSome && (Txt.charAt b j).isSome then some (eqS (Txt.item a j) (Txt.item b j)) else none
  else some false
def postF (a b : Str) (j : Nat) : Option Bool :=
  if nz (postS a j) && nz (postS b j) then
    if (Txt.charAt a (-(j : Int) - 1)).isSome && (Txt.charAt b (-(j : Int) - 1)).isSome then some (eqS (Txt.item a (-(j : Int) - 1)) (Txt.item b (-(j : Int) - 1))) else none
  else some false
theorem preF_eq (a b : Str) : preC a b = preF a b := by
  funext j
  unfold preC preF
  rw [eqS_eq]
theorem postF_eq (a b : Str) : postC a b = postF a b := by
  funext j
  unfold postC postF
  rw [eqS_eq]
def gLev (sc : Str → Str → Int) (a b : Str) (max : Int) : Option Int :=
  if eqS a b = true then some 0 else do
  let j ← loopN (preF a b) 60 0
  let a1 := Txt.slice a (some j) none
  let b1 := Txt.slice b (some j) none
  let i ← loopN (postF a1 b1) 60 0
  gEnd sc (postS a1 i) (postS b1 i) max
theorem gIns_eq (bc a : Str) (t : Lv) : ∀ i, lvIns bc a t i = gIns subCost bc a t i
  | 0 => rfl
  | i + 1 => by rw [lvIns, gIns, gIns_eq bc a t i]; rfl
theorem gOut_eq (a b : Str) : ∀ j, lvOut a b j = gOut subCost a b j
  | 0 => rfl
  | j + 1 => by rw [lvOut, gOut, gOut_eq a b j]; exact gIns_eq _ _ _ _
theorem lev_fast (a b : Str) (max : Int) : lev a b max = gLev fastCost a b max := by
  rw [← fast_eq]
  unfold lev gLev lvEnd gEnd
  simp only [gOut_eq, preF_eq, postF_eq, eqS_eq]
def lits : List (List Nat) := [[97, 98, 99, 100, 101], [65, 98, 99, 100, 101], [97, 66, 99, 100, 101], [65, 66, 99, 100, 101], [97, 98, 67, 100, 101], [65, 98, 67, 100, 101], [97, 66, 67, 100, 101], [65, 66, 67, 100, 101], [97, 98, 99, 68, 101], [65, 98, 99, 68, 101], [97, 66, 99, 68, 101], [65, 66, 99, 68, 101], [97, 98, 67, 68, 101], [65, 98, 67, 68, 101], [97, 66, 67, 68, 101], [65, 66, 67, 68, 101], [97, 98, 99, 100, 69], [65, 98, 99, 100, 69], [97, 66, 99, 100, 69], [65, 66, 99, 100, 69], [97, 98, 67, 100, 69], [65, 98, 67, 100, 69], [97, 66, 67, 100, 69], [65, 66, 67, 100, 69], [97, 98, 99, 68, 69], [65, 98, 99, 68, 69], [97, 66, 99, 68, 69], [65, 66, 99, 68, 69], [97, 98, 67, 68, 69], [65, 98, 67, 68, 69], [97, 66, 67, 68, 69], [65, 66, 67, 68, 69]]
/-- at how many places two bundles differ -/
def ham (b c : Nat → Bool) : Nat := cntP (fun k => b k != c k) 5
def litOf (n : Nat) : Str := ⟨⟨lits.getD n []⟩⟩
set_option maxRecDepth 100000 in
theorem lit_word : (allB 32 fun n => wordOf n.testBit == litOf n) = true := by decide +kernel
def dist5 (n n' : Nat) : Bool := decide (gLev fastCost (litOf n) (litOf n') 5 = some (ham n.testBit n'.testBit : Int))
def lack5 (n : Nat) (sp : Str) : Bool := decide (gLev fastCost "abcde" (textOf n.testBit sp) 10 = some (10 - 2 * (cntP n.testBit 5 : Int)))
set_option maxRecDepth 100000 in
theorem lack5_none : (allB 32 fun n => lack5 n "") = true := by decide +kernel
set_option maxRecDepth 100000 in
theorem lack5_x : (allB 32 fun n => lack5 n "x") = true := by decide +kernel
set_option maxRecDepth 100000 in
theorem dist5_a : (allB 4 fun n => allB 32 fun n' => dist5 (n + 0) n') = true := by decide +kernel
set_option maxRecDepth 100000 in
theorem dist5_b : (allB 4 fun n => allB 32 fun n' => dist5 (n + 4) n') = true := by decide +kernel
set_option maxRecDepth 100000 in
theorem dist5_c : (allB 4 fun n => allB 32 fun n' => dist5 (n + 8) n') = true := by decide +kernel
set_option maxRecDepth 100000 in
theorem dist5_d : (allB 4 fun n => allB 32 fun n' => dist5 (n + 12) n') = true := by decide +kernel
set_option maxRecDepth 100000 in
theorem dist5_e : (allB 4 fun n => allB 32 fun n' => dist5 (n + 16) n') = true := by decide +kernel
set_option maxRecDepth 100000 in
theorem dist5_f : (allB 4 fun n => allB 32 fun n' => dist5 (n + 20) n') = true := by decide +kernel
set_option maxRecDepth 100000 in
theorem dist5_g : (allB 4 fun n => allB 32 fun n' => dist5 (n + 24) n') = true := by decide +kernel
set_option maxRecDepth 100000 in
theorem dist5_h : (allB 4 fun n => allB 32 fun n' => dist5 (n + 28) n') = true := by decide +kernel
theorem dist5_all {n n' : Nat} (hn : n < 32) (hn' : n' < 32) : dist5 n n' = true := by
  have e : ∀ {q : Nat}, q ≤ n → n < q + 4 → (allB 4 fun n => allB 32 fun n' => dist5 (n + q) n') = true → dist5 n n' = true := fun {q} h1 h2 h => by
    have := allB_at (allB_at h (k := n - q) (by omega)) hn'
    have e : n - q + q = n := by omega
    rwa [e] at this
  rcases Nat.lt_or_ge n 16 with h | h
  · rcases Nat.lt_or_ge n 8 with h | h
    · rcases Nat.lt_or_ge n 4 with h | h
      · exact e (Nat.zero_le _) h dist5_a
      · exact e h (by omega) dist5_b
    · rcases Nat.lt_or_ge n 12 with h | h
      · exact e (by omega) h dist5_c
      · exact e h (by omega) dist5_d
  · rcases Nat.lt_or_ge n 24 with h | h
    · rcases Nat.lt_or_ge n 20 with h | h
      · exact e (by omega) h dist5_e
      · exact e h (by omega) dist5_f
    · rcases Nat.lt_or_ge n 28 with h | h
      · exact e (by omega) h dist5_g
      · exact e h (by omega) dist5_h
theorem lev_word {n n' : Nat} (hn : n < 32) (hn' : n' < 32) : lev (wordOf n.testBit) (wordOf n'.testBit) 5 = some (ham n.testBit n'.testBit : Int) := by
  have w1 : wordOf n.testBit = litOf n := eq_of_beq (allB_at lit_word hn)
  have w2 : wordOf n'.testBit = litOf n' := eq_of_beq (allB_at lit_word hn')
  rw [w1, w2, lev_fast]
  exact of_decide_eq_true (dist5_all hn hn')
theorem lev_text {n : Nat} (hn : n < 32) : lev "abcde" (textOf n.testBit "") 10 = some (10 - 2 * (cntP n.testBit 5 : Int)) ∧ lev "abcde" (textOf n.testBit "x") 10 = some (10 - 2 * (cntP n.testBit 5 : Int)) := by
  rw [lev_fast, lev_fast]
  exact ⟨of_decide_eq_true (allB_at lack5_none hn), of_decide_eq_true (allB_at lack5_x hn)⟩
end Mine
end
section
open PySem PySem.W PyProof.Rows
set_option linter.unusedVariables false
set_option linter.unusedSimpArgs false
namespace Mine
set_option maxRecDepth 100000 in
/-- one octet: d its septet's low part, g whether more follow, b the mark -/
theorem oct_and : ∀ d : Nat, d < 64 → ∀ b : Nat, b < 2 → ∀ g : Nat, g < 2 → Builtin.bitAnd ((64 * g + d + 128 * b : Nat) : Int) 63 = (d : Int) ∧ (Builtin.bitAnd ((64 * g + d + 128 * b : Nat) : Int) 64 != 0) = (g == 1) := by decide +kernel
theorem not_nat (n : Nat) : Builtin.bitNot (n : Int) = Int.negSucc n := by
  unfold Builtin.bitNot; omega
theorem not_neg (n : Nat) : Builtin.bitNot (Int.negSucc n) = (n : Int) := by
  unfold Builtin.bitNot; omega
theorem or_nat (a b : Nat) : Builtin.bitOr (a : Int) (b : Int) = ((a ||| b : Nat) : Int) := by
  unfold Builtin.bitOr
  rw [not_nat, not_nat]
  unfold Builtin.bitAnd
  rw [decide_eq_false (show ¬ (0 : Int) ≤ Int.negSucc a by omega), decide_eq_false (show ¬ (0 : Int) ≤ Int.negSucc b by omega)]
  dsimp only
  rw [not_neg, not_neg, not_nat, not_neg]; rfl
theorem or_six (v d : Nat) (hd : d < 64) : Builtin.bitOr ((v : Int) * 2 ^ (6 : Int).toNat) (d : Int) = ((64 * v + d : Nat) : Int) := by
  have e : (v : Int) * 2 ^ (6 : Int).toNat = ((64 * v : Nat) : Int) := by
    show (v : Int) * 64 = _
    omega
  rw [e, or_nat]
  have h := Nat.two_pow_add_eq_or_of_lt (i := 6) (b := d) (by omega) v
  simp only [Nat.reducePow] at h
  rw [← h]
/-- place j of T holds the septet d, and whether more follow -/
def At (T : List Int) (j d g : Nat) : Prop := d < 64 ∧ g < 2 ∧ ∃ b : Nat, b < 2 ∧ T.getD j 0 = ((64 * g + d + 128 * b : Nat) : Int)
theorem At.val {T : List Int} {j d g : Nat} (h : At T j d g) : Builtin.bitAnd (T.getD j 0) 63 = (d : Int) := by
  obtain ⟨h1, h2, b, hb, e⟩ := h
  rw [e]; exact (oct_and d h1 b hb g h2).1
theorem At.go {T : List Int} {j d g : Nat} (h : At T (0 + j) d g) : goesOn T 0 j = (g == 1) := by
  obtain ⟨h1, h2, b, hb, e⟩ := h
  unfold goesOn
  rw [e]; exact (oct_and d h1 b hb g h2).2
theorem at_of {T : List Int} {j d g : Nat} (hd : d < 64) (hg : g < 2) (h : ∃ b : Nat, b < 2 ∧ T.getD j 0 = ((64 * g + d : Nat) : Int) + 128 * (b : Int)) : At T j d g := by
  obtain ⟨b, hb, e⟩ := h
  exact ⟨hd, hg, b, hb, by rw [e]; rfl⟩
theorem vr_step {T : List Int} {j v d g : Nat} (h : vr T 0 j = (v : Int)) (a : At T (0 + (j + 1)) d g) : vr T 0 (j + 1) = ((64 * v + d : Nat) : Int) := by
  unfold vr
  rw [h, a.val, or_six _ _ a.1]
theorem small_of {v : Int} {n : Nat} (h : v = (n : Int)) (hn : n < 262144) : v.natAbs < 2 ^ 64 := by
  rw [h]
  exact Nat.lt_trans hn (by decide)
theorem dig_facts (T : List Int) (y : Nat) (hy : y < 262144) (h : ∀ j, j < (digs y).length → ∃ b : Nat, b < 2 ∧ T.getD j 0 = (digs y).getD j 0 + 128 * (b : Int)) :
    ∃ mi, (digs y).length = mi + 1 ∧ (∀ j, j < mi → goesOn T 0 j = true) ∧ goesOn T 0 mi = false ∧ (∀ j, j ≤ mi → (vr T 0 j).natAbs < 2 ^ 64) ∧ vr T 0 mi = (y : Int) := by
  have hm : y % 64 < 64 := Nat.mod_lt _ (by decide)
  have hm' : y / 64 % 64 < 64 := Nat.mod_lt _ (by decide)
  have hs : 64 * (y / 64) + y % 64 = y := Nat.div_add_mod y 64
  unfold digs at h ⊢
  by_cases h1 : y < 64
  · rw [if_pos h1] at h ⊢
    have a0 : At T 0 y 0 := at_of h1 (by decide) (by simpa using h 0 Nat.zero_lt_one)
    have v0 : vr T 0 0 = (y : Int) := a0.val
    refine ⟨0, rfl, fun j hj => absurd hj (Nat.not_lt_zero j), a0.go (j := 0), fun j hj => ?_, v0⟩
    rw [Nat.le_zero.mp hj]; exact small_of v0 hy
  · rw [if_neg h1] at h ⊢
    by_cases h2 : y < 4096
    · rw [if_pos h2] at h ⊢
      have hq : y / 64 < 64 := by omega
      have a0 : At T 0 (y / 64) 1 := at_of hq (by decide) (h 0 (Nat.zero_lt_succ _))
      have a1 : At T 1 (y % 64) 0 := at_of hm (by decide) (by simpa using h 1 (Nat.lt_succ_self _))
      have v0 : vr T 0 0 = ((y / 64 : Nat) : Int) := a0.val
      have v1 : vr T 0 1 = (y : Int) := (vr_step (j := 0) v0 a1).trans (by rw [hs])
      refine ⟨1, rfl, fun j hj => ?_, a1.go (j := 1), fun j hj => ?_, v1⟩
      · rw [Nat.lt_one_iff.mp hj]; exact a0.go (j := 0)
      · match j, hj with
        | 0, _ => exact small_of v0 (Nat.lt_of_le_of_lt (Nat.div_le_self _ _) hy)
        | 1, _ => exact small_of v1 hy
    · rw [if_neg h2] at h ⊢
      have hq : y / 4096 < 64 := by omega
      have hd : 64 * (y / 4096) + y / 64 % 64 = y / 64 := by
        rw [show y / 4096 = y / 64 / 64 from (Nat.div_div_eq_div_mul y 64 64).symm]; exact Nat.div_add_mod (y / 64) 64
      have a0 : At T 0 (y / 4096) 1 := at_of hq (by decide) (h 0 (Nat.zero_lt_succ _))
      have a1 : At T 1 (y / 64 % 64) 1 := at_of hm' (by decide) (h 1 (Nat.succ_lt_succ (Nat.zero_lt_succ _)))
      have a2 : At T 2 (y % 64) 0 := at_of hm (by decide) (by simpa using h 2 (Nat.lt_succ_self _))
      have v0 : vr T 0 0 = ((y / 4096 : Nat) : Int) := a0.val
      have v1 : vr T 0 1 = ((y / 64 : Nat) : Int) := (vr_step (j := 0) v0 a1).trans (by rw [hd])
      have v2 : vr T 0 2 = (y : Int) := (vr_step (j := 1) v1 a2).trans (by rw [hs])
      refine ⟨2, rfl, fun j hj => ?_, a2.go (j := 2), fun j hj => ?_, v2⟩
      · match j, hj with
        | 0, _ => exact a0.go (j := 0)
        | 1, _ => exact a1.go (j := 1)
      · match j, hj with
        | 0, _ => exact small_of v0 (Nat.lt_of_le_of_lt (Nat.div_le_self _ _) hy)
        | 1, _ => exact small_of v1 (Nat.lt_of_le_of_lt (Nat.div_le_self _ _) hy)
        | 2, _ => exact small_of v2 hy
theorem oct_bit (marks : Int) (i : Nat) (o : Int) : ∃ b : Nat, b < 2 ∧ octAt marks i o = o + 128 * (b : Int) := by
  unfold octAt
  generalize marks.fdiv (2 ^ ((i : Int).fmod 4).toNat) = q
  have h1 := Int.fmod_lt_of_pos q (show (0 : Int) < 2 by decide)
  have h0 := Int.fmod_nonneg_of_pos q (show (0 : Int) < 2 by decide)
  exact ⟨(q.fmod 2).toNat, by omega, by omega⟩
theorem octs_get (marks : Int) (os : List Int) {p : Nat} (hp : p < os.length) : (octs marks os).getD p 0 = octAt marks p (os.getD p 0) := by
  unfold octs
  rw [List.getD_eq_getElem?_getD, List.getElem?_map, List.getElem?_range hp]; rfl
theorem octs_len (marks : Int) (os : List Int) : (octs marks os).length = os.length := by simp [octs]
theorem flat_split (ys : List Nat) {i : Nat} (hi : i < ys.length) : flat ys = flat (ys.take i) ++ (digs (ys.getD i 0) ++ flat (ys.drop (i + 1))) := by
  have e : ys = ys.take i ++ ys.getD i 0 :: ys.drop (i + 1) := by
    rw [List.getD_eq_getElem?_getD, List.getElem?_eq_getElem hi]
    show ys = ys.take i ++ ys[i] :: ys.drop (i + 1)
    rw [← List.drop_eq_getElem_cons hi, List.take_append_drop]
  conv => lhs; rw [e]
  unfold flat
  rw [List.flatMap_append, List.flatMap_cons]
theorem flat_next (ys : List Nat) {i : Nat} (hi : i < ys.length) : (flat (ys.take (i + 1))).length = (flat (ys.take i)).length + (digs (ys.getD i 0)).length := by
  have e : ys.take (i + 1) = ys.take i ++ [ys.getD i 0] := by
    rw [List.take_add_one, List.getD_eq_getElem?_getD, List.getElem?_eq_getElem hi]; rfl
  rw [e]
  unfold flat
  rw [List.flatMap_append, List.length_append, List.flatMap_cons, List.flatMap_nil, List.append_nil]
theorem vf_ok (m : Int) (ys : List Nat) (hy : ys.length = 4) (hl : ∀ y ∈ ys, y < 262144) (i : Nat) (hi : i < 4) : ∃ mi, VFact m ys i mi := by
  have hi' : i < ys.length := by omega
  have hs := flat_split ys hi'
  have hn := flat_next ys hi'
  have hy' : ys.getD i 0 < 262144 := by
    rw [List.getD_eq_getElem?_getD, List.getElem?_eq_getElem hi']
    exact hl _ (List.getElem_mem hi')
  have hlen : (flat (ys.take i)).length + (digs (ys.getD i 0)).length ≤ (flat ys).length := by
    rw [hs, List.length_append, List.length_append]; omega
  have hT : ∀ j, j < (digs (ys.getD i 0)).length → ∃ b : Nat, b < 2 ∧ (tapeRest m ys i).getD j 0 = (digs (ys.getD i 0)).getD j 0 + 128 * (b : Int) := fun j hj => by
    have e : (tapeRest m ys i).getD j 0 = octAt (m.fmod 16) ((flat (ys.take i)).length + j) ((digs (ys.getD i 0)).getD j 0) := by
      unfold tapeRest tapeOf
      rw [List.getD_eq_getElem?_getD, List.getElem?_drop, List.getElem?_append_left (by rw [octs_len]; omega), ← List.getD_eq_getElem?_getD, octs_get _ _ (by omega)]
      congr 1
      rw [hs, List.getD_eq_getElem?_getD, List.getElem?_append_right (by omega), Nat.add_sub_cancel_left, List.getElem?_append_left hj, ← List.getD_eq_getElem?_getD]
    rw [e]
    exact oct_bit _ _ _
  obtain ⟨mi, h1, h2, h3, h4, h5⟩ := dig_facts _ _ hy' hT
  refine ⟨mi, ?_, h2, h3, h4, h5, ?_⟩
  · unfold tapeRest tapeOf
    rw [List.length_drop, List.length_append, octs_len]
    simp only [List.length_cons, List.length_nil]
    omega
  · unfold tapeRest
    rw [List.drop_drop, hn, h1]
theorem tape4_ok (m : Int) (ys : List Nat) (hy : ys.length = 4) : tapeRest m ys 4 = [m.fmod 256] := by
  unfold tapeRest tapeOf
  rw [List.take_of_length_le (by omega)]
  exact List.drop_left' (octs_len _ _)
end Mine
end
section
open PySem PySem.W PyProof.Rows
set_option linter.unusedVariables false
set_option linter.unusedSimpArgs false
namespace Mine
theorem cnt_congr {b c : Nat → Bool} (h : ∀ k < 5, b k = c k) : cntP b 5 = cntP c 5 := cntP_congr h
theorem lk_ok (b : Nat → Bool) (m : Int) (i : Nat) : lev "abcde" (textOf b (spareOf m i)) 10 = some (10 - 2 * (cntP b 5 : Int)) := by
  obtain ⟨n, hn, h⟩ := mask b
  rw [text_congr _ h, cnt_congr h]
  unfold spareOf
  split
  · exact (lev_text hn).1
  · exact (lev_text hn).2
theorem tl_ok (b : Nat → Bool) (m : Int) (i : Nat) : (textOf b (spareOf m i)).length ≤ 1000 := by
  obtain ⟨n, hn, h⟩ := mask b
  rw [text_congr _ h]
  unfold spareOf
  split
  · exact (text_len n hn).1
  · exact (text_len n hn).2.1
theorem wl_ok (b : Nat → Bool) : (wordOf b).length ≤ 1000 := by
  obtain ⟨n, hn, h⟩ := mask b
  rw [word_congr h]
  exact (text_len n hn).2.2
theorem ds_ok (b c : Nat → Bool) : lev (wordOf b) (wordOf c) 5 = some (ham b c : Int) := by
  obtain ⟨n, hn, h⟩ := mask b
  obtain ⟨n', hn', h'⟩ := mask c
  have e : ham b c = ham n.testBit n'.testBit := cntP_congr fun k hk => by rw [h k hk, h' k hk]
  rw [word_congr h, word_congr h', e]
  exact lev_word hn hn'
theorem four : ∀ b0 b1 b2 b3 : Bool, (ind (b1 != b0) + ind (b2 != b0) + ind (b2 != b1) + ind (b3 != b0) + ind (b3 != b1) + ind (b3 != b2) : Nat) = (((ind b0 + ind b1 + ind b2 + ind b3 : Nat) : Int) * (4 - ((ind b0 + ind b1 + ind b2 + ind b3 : Nat) : Int))) := by decide +kernel
def sumTo (f : Nat → Nat) : Nat → Nat
  | 0 => 0
  | n + 1 => sumTo f n + f n
theorem sumTo_add (f g : Nat → Nat) : ∀ n, sumTo f n + sumTo g n = sumTo (fun k => f k + g k) n
  | 0 => rfl
  | n + 1 => by
    rw [sumTo, sumTo, sumTo, ← sumTo_add f g n]
    exact Nat.add_add_add_comm _ _ _ _
theorem cnt_sumTo (p : Nat → Bool) : ∀ n, cntP p n = sumTo (fun k => ind (p k)) n
  | 0 => rfl
  | n + 1 => by rw [cntP, sumTo, cnt_sumTo p n]
theorem sumTo_int (f : Nat → Nat) (g : Nat → Int) (h : ∀ k, (f k : Int) = g k) : ∀ n, ((sumTo f n : Nat) : Int) = ((List.range n).map g).sum
  | 0 => rfl
  | n + 1 => by
    rw [sumTo, List.range_succ, List.map_append, List.sum_append, ← sumTo_int f g h n, Int.natCast_add, h]
    simp
theorem sums_ok (b : Nat → Nat → Bool) : (apartL fun i j => (ham (b i) (b j) : Int)).sum = ((List.range 5).map fun k => ((cntP (fun i => b i k) 4 : Nat) : Int) * (4 - ((cntP (fun i => b i k) 4 : Nat) : Int))).sum := by
  have c : ∀ k, cntP (fun i => b i k) 4 = ind (b 0 k) + ind (b 1 k) + ind (b 2 k) + ind (b 3 k) := fun k => by
    show 0 + ind (b 0 k) + ind (b 1 k) + ind (b 2 k) + ind (b 3 k) = _
    rw [Nat.zero_add]
  have e : (apartL fun i j => (ham (b i) (b j) : Int)).sum = ((ham (b 1) (b 0) + ham (b 2) (b 0) + ham (b 2) (b 1) + ham (b 3) (b 0) + ham (b 3) (b 1) + ham (b 3) (b 2) : Nat) : Int) := by
    show [(ham (b 1) (b 0) : Int), (ham (b 2) (b 0) : Int), (ham (b 2) (b 1) : Int), (ham (b 3) (b 0) : Int), (ham (b 3) (b 1) : Int), (ham (b 3) (b 2) : Int)].sum = _
    simp only [List.sum_cons, List.sum_nil, Int.natCast_add, Int.add_zero, Int.add_assoc]
  rw [e]
  unfold ham
  rw [cnt_sumTo, cnt_sumTo, cnt_sumTo, cnt_sumTo, cnt_sumTo, cnt_sumTo, sumTo_add, sumTo_add, sumTo_add, sumTo_add, sumTo_add]
  exact sumTo_int _ _ (fun k => by rw [c]; exact four (b 0 k) (b 1 k) (b 2 k) (b 3 k)) 5
theorem pf (cs : List Int) (hc : cs.length = 10) : ∃ lack dist rising, PF (lastOf cs) (wsOf cs) (ysOf cs) lack dist rising := by
  have hw := wsOf_len hc
  have hy := ysOf_len hc
  have hw' : ∀ k < 5, (wsOf cs).getD k 0 < 6 := fun k _ => wsOf_lt cs k
  have hyl := ysOf_lt cs
  generalize lastOf cs = m
  generalize wsOf cs = ws at hw hw' ⊢
  generalize ysOf cs = ys at hy hyl ⊢
  have hB : ∀ t < 4, ∀ k < 5, inB (hdrs m ws ys 4) t k = bt ws ys t k := fun t ht k hk => inB_eq m ws ys ht hk
  refine ⟨lackOf ws ys, fun i j => (ham (bt ws ys i) (bt ws ys j) : Int), zl (riseN ws), ?_⟩
  refine
    { vf := vf_ok m ys hy hyl
      tape4 := tape4_ok m ys hy
      low := low_ok m ws ys
      oks := oks_ok m ws ys
      bk := fun k hk => ?_
      lk := fun t ht => ?_
      tl := fun t _ => tl_ok _ _ _
      wl := fun t _ => wl_ok _
      ds := fun i hi j hj => ?_
      perm := zl_perm (rise_perm ws)
      sorted := zl_sorted (rise_sorted ws)
      least := least_ok ws ys hw hy hw'
      sums := ?_ }
  · rw [book_len m ws ys hk]; exact bk_ok ws ys hk 4
  · rw [lk_ok, cnt_congr (hB t ht)]; rfl
  · rw [ds_ok]
    exact congrArg (fun n : Nat => some (n : Int)) (cntP_congr fun k hk => by rw [hB i hi k hk, hB j (Nat.lt_trans hj hi) k hk])
  · rw [sums_ok]
    exact congrArg List.sum (List.map_congr_left fun k hk => by rw [book_len m ws ys (List.mem_range.mp hk)])
end Mine
end
section
open PySem PySem.W PyProof.Rows
set_option maxRecDepth 100000
set_option maxHeartbeats 8000000
namespace Mine
theorem post_ok (xs : List Int) : PySem.Challenge.rw_tc0043_01.row.claim.post [ofPy (.list (xs.map .int))] (.bool true) [ofPy (.list (xs.map .int))] = true := by with_unfolding_all rfl
theorem law_holds : PySem.Challenge.rw_tc0043_01.Holds := by
  w_on
  o_law
  z_head
  case hw => w_witness2
  k_fill
  intro w s₀ s₁ mg mb G y fa o pm cd doc dV kV ho hd hcd hD hmg hg args vals as L hpre hlay hrd hwl hlo
  z_open y L KX ZH ZN ZT
  refine Ground.open G ?_
  intro T B D TE TW
  wrow_args hpre hlay hrd hwl hlo
  rename_i xs _ _ _ _ _ _ _ l vs _ hL _ _ _ hI _ hcond _
  have hobj := PySem.W.X.script_obj L hL
  have hdV : dV = .none := by
    rcases hD.pos with ⟨_, h⟩ | ⟨h, _⟩
    · exact h
    · exact absurd rfl h
  subst hdV
  have GG : ∀ x f i, nsIn _ mainGlobals x = some (some (.ref f)) → _ := fun x f i => fnAt_of (x := x) (f := f) (i := i) KX T.g T.nolimit
  have GI := fun x V => bi_of (x := x) (V := V) KX T.g T.b T.builtins
  have GB := fun x V => bg_of (x := x) (V := V) KX T.g
  have e3 := GG "_strcoll" 45 3 (by kernel_rfl) (by kernel_rfl) (by kernel_rfl) (by kernel_rfl)
  have e4 := GG "_strip_padding" 52 4 (by kernel_rfl) (by kernel_rfl) (by kernel_rfl) (by kernel_rfl)
  have e6 := GG "_parse_varint" 59 6 (by kernel_rfl) (by kernel_rfl) (by kernel_rfl) (by kernel_rfl)
  have e11 := GG "_substitution_cost" 66 11 (by kernel_rfl) (by kernel_rfl) (by kernel_rfl) (by kernel_rfl)
  have e12 := GG "_levenshtein_distance" 73 12 (by kernel_rfl) (by kernel_rfl) (by kernel_rfl) (by kernel_rfl)
  have e20 := GG "_law_cells" 228 20 (by kernel_rfl) (by kernel_rfl) (by kernel_rfl) (by kernel_rfl)
  have e21 := GG "_law_supply" 235 21 (by kernel_rfl) (by kernel_rfl) (by kernel_rfl) (by kernel_rfl)
  have e22 := GG "_law_octets" 240 22 (by kernel_rfl) (by kernel_rfl) (by kernel_rfl) (by kernel_rfl)
  have e23 := GG "_law_round" 245 23 (by kernel_rfl) (by kernel_rfl) (by kernel_rfl) (by kernel_rfl)
  have e24 := GG "_law_least" 250 24 (by kernel_rfl) (by kernel_rfl) (by kernel_rfl) (by kernel_rfl)
  have MM := fun q C f x i dV => mtAt_of (q := q) (C := C) (f := f) (x := x) (i := i) (dV := dV) KX
  have m0 := MM "Headers.__init__" 217 111 "__init__" 0 (.ref 104) (by kernel_rfl) (by kernel_rfl) (by kernel_rfl) (by kernel_rfl) (by kernel_rfl) (by kernel_rfl)
  have m1 := MM "Headers._convert_string_type" 217 118 "_convert_string_type" 1 .none (by kernel_rfl) (by kernel_rfl) (by kernel_rfl) (by kernel_rfl) (by kernel_rfl) (by kernel_rfl)
  have m7 := MM "Headers.get_all" 217 156 "get_all" 7 .none (by kernel_rfl) (by kernel_rfl) (by kernel_rfl) (by kernel_rfl) (by kernel_rfl) (by kernel_rfl)
  have m11 := MM "Headers.items" 217 181 "items" 11 .none (by kernel_rfl) (by kernel_rfl) (by kernel_rfl) (by kernel_rfl) (by kernel_rfl) (by kernel_rfl)
  have m16 := MM "Headers.add_header" 217 214 "add_header" 16 .none (by kernel_rfl) (by kernel_rfl) (by kernel_rfl) (by kernel_rfl) (by kernel_rfl) (by kernel_rfl)
  have hdf : ∃ o n, s₁.heap.get? 104 = some o ∧ o.data = .seq #[.none] n := by
    refine ht_of KX (o := _) (by rfl) (by rfl)
  have HCf : HC s₁.heap 217 _ 104 111 118 156 181 214 83 88 cNc cVc := {
    inB := KX
    lim := T.nolimit
    gC := GB _ _ (by kernel_rfl)
    gN := GB _ _ (by kernel_rfl)
    gV := GB _ _ (by kernel_rfl)
    bty := GI _ _ (by kernel_rfl) (by decide) (by kernel_rfl)
    bstr := GI _ _ (by kernel_rfl) (by decide) (by kernel_rfl)
    bls := GI _ _ (by kernel_rfl) (by decide) (by kernel_rfl)
    keepC := by kernel_rfl
    makes := by kernel_rfl
    ga := by kernel_rfl
    gk := by kernel_rfl
    cd := ⟨_, by rfl, by kernel_rfl⟩
    nh := by kernel_rfl
    sa := by kernel_rfl
    po := by kernel_rfl
    df := hdf
    mi := m0
    mc := m1
    mg := m7
    mt := m11
    ma := m16
    pn := patAt_of KX (by kernel_rfl)
    pv := patAt_of KX (by kernel_rfl) }
  have LG : LawG s₁.heap 217 104 111 118 156 181 214 83 88 _ cNc cVc 45 52 59 66 73 228 235 240 245 250 := {
    hc := HCf
    cells := e20
    supply := e21
    octets := e22
    round := ⟨e23, e3, e4, GI _ _ (by kernel_rfl) (by decide) (by kernel_rfl), GI _ _ (by kernel_rfl) (by decide) (by kernel_rfl), GI _ _ (by kernel_rfl) (by decide) (by kernel_rfl), GI _ _ (by kernel_rfl) (by decide) (by kernel_rfl), GI _ _ (by kernel_rfl) (by decide) (by kernel_rfl), GI _ _ (by kernel_rfl) (by decide) (by kernel_rfl)⟩
    least := e24
    varint := e6
    lev := ⟨e12, e11, ⟨_, GB _ _ (by rfl)⟩, ⟨_, GB _ _ (by rfl)⟩, ⟨_, GB _ _ (by rfl)⟩, GI _ _ (by kernel_rfl) (by decide) (by kernel_rfl), GI _ _ (by kernel_rfl) (by decide) (by kernel_rfl), GI _ _ (by kernel_rfl) (by decide) (by kernel_rfl), GI _ _ (by kernel_rfl) (by decide) (by kernel_rfl)⟩
    range := GI _ _ (by kernel_rfl) (by decide) (by kernel_rfl)
    iter := GI _ _ (by kernel_rfl) (by decide) (by kernel_rfl)
    next := GI _ _ (by kernel_rfl) (by decide) (by kernel_rfl)
    list := GI _ _ (by kernel_rfl) (by decide) (by kernel_rfl)
    sum := GI _ _ (by kernel_rfl) (by decide) (by kernel_rfl)
    sorted := GI _ _ (by kernel_rfl) (by decide) (by kernel_rfl) }
  have hR := law_run (prog := Challenge.rw_tc0043_01.row.prog) (w := w) LG sign_ok (pm := pm) (cd := cd) (doc := doc) (kV := kV) (an := none) (ct := .none) ho (hd.trans (show _ = Data.func (fnOf "law" "law" (dArgs 25) (dBody 25) (dScope 25) .none kV doc pm none cd .none) by kernel_rfl)) hcd hobj hI (by have := hcond; omega) (pf _ (cellsAt_len _ _))
  refine wpAny_mono hR (fun V s' q => ?_) fun _ _ e => e.elim
  obtain ⟨rfl, h', t', rfl, kk⟩ := q
  exact ⟨.inl ⟨_, _, [], rfl, fun _ => rfl, ReadsW.bool true, post_ok xs, fun _ => ⟨List.nodup_nil, fun _ hm => (nomatch hm)⟩⟩, .of_keep kk, rfl, .of_eq hg⟩
end Mine
end
theorem PySem.Challenge.cw_tc0043_01_holds : PySem.Challenge.rw_tc0043_01.Holds := by
  exact Mine.law_holds
