import PyProof.Rows.All
import Wide.All
import OpenK.AllK
import Wide.FinOn
import Lean
import PySem.Challenge.RW_pe0095_02
open PySem PySem.W PyProof.Rows
set_option Elab.async false

section
open PySem PySem.W PyProof.Rows
namespace Mine

/-! ## The abstract state -/

inductive AV where
  | int (i : Int)
  | str (x : Str)
  | bool (b : Bool)
  | none
  | lit (v : Value)
  | ref (i : Nat)

inductive XO where
  /-- a code table with its entries -/
  | tab (cs : List Nat)
  /-- the code of the j-th function made in a call -/
  | code (j : Nat)
  /-- a function made in a call: which one, its cells, its code, its attribute -/
  | fn (j : Nat) (cl : List (Str × Nat)) (t : Nat) (rd : Option Nat)
  /-- an instance with its attributes -/
  | inst (m : List (Str × AV))
  /-- iter(x, ''), x a bound method -/
  | citer (x : Nat)
  /-- the bound method fR of x -/
  | meth (x : Nat)
  /-- of no more use -/
  | junk
  /-- a function's attributes: read alone -/
  | rdict (q : Nat)

inductive AO where
  | list (xs : List AV)
  | tup (xs : List AV)
  | cell (v : Option AV)
  | rng (lo hi : Int)
  | x (k : XO)

noncomputable def AV.refs : AV → List Nat
  | .ref i => [i]
  | _ => []
noncomputable def AVs.refs : List AV → List Nat
  | [] => []
  | x :: r => x.refs ++ AVs.refs r
noncomputable def XO.refs : XO → List Nat
  | .tab cs => cs
  | .code _ => []
  | .fn _ cl t rd => rd.toList ++ t :: cl.map (·.2)
  | .inst m => AVs.refs (m.map (·.2))
  | .citer x => [x]
  | .meth x => [x]
  | .junk => []
  | .rdict q => [q]
noncomputable def AO.refs : AO → List Nat
  | .list xs => AVs.refs xs
  | .tup xs => AVs.refs xs
  | .cell (some v) => v.refs
  | .cell .none => []
  | .rng _ _ => []
  | .x k => k.refs

noncomputable def AV.ren (f : Nat → Nat) : AV → AV
  | .ref i => .ref (f i)
  | v => v
noncomputable def XO.ren (f : Nat → Nat) : XO → XO
  | .tab cs => .tab (cs.map f)
  | .code j => .code j
  | .fn j cl t rd => .fn j (cl.map fun q => (q.1, f q.2)) (f t) (rd.map f)
  | .inst m => .inst (m.map fun q => (q.1, q.2.ren f))
  | .citer x => .citer (f x)
  | .meth x => .meth (f x)
  | .junk => .junk
  | .rdict q => .rdict (f q)
noncomputable def AO.ren (f : Nat → Nat) : AO → AO
  | .list xs => .list (xs.map (AV.ren f))
  | .tup xs => .tup (xs.map (AV.ren f))
  | .cell v => .cell (v.map (AV.ren f))
  | .rng a b => .rng a b
  | .x k => .x (k.ren f)
theorem AV.ren_id (v : AV) : v.ren (fun i => i) = v := by cases v <;> rfl
theorem XO.ren_id (k : XO) : k.ren (fun i => i) = k := by
  cases k with
  | fn j cl t rd => cases rd <;> simp [XO.ren]
  | tab cs => simp [XO.ren]
  | inst m => simp [XO.ren, AV.ren_id]
  | _ => rfl

/-- where an abstract object lies: its own address and what else is its own -/
structure Pl where
  a : Addr
  more : List Addr

noncomputable def foot : List Pl → List Addr
  | [] => []
  | p :: r => (p.a :: p.more) ++ foot r

theorem foot_append (a b : List Pl) : foot (a ++ b) = foot a ++ foot b := by
  induction a with
  | nil => rfl
  | cons p r ih => simp only [List.cons_append, foot, ih, List.append_assoc]

theorem foot_mem_of_get {ρ : List Pl} {i : Nat} {p : Pl} (h : ρ[i]? = some p) : ∀ a ∈ p.a :: p.more, a ∈ foot ρ := by
  induction ρ generalizing i with
  | nil => simp at h
  | cons q r ih =>
    intro a ha
    cases i with
    | zero =>
      simp at h; subst h
      exact List.mem_append_left _ ha
    | succ i =>
      simp at h
      exact List.mem_append_right _ (ih h a ha)

noncomputable def VR (ρ : List Pl) : AV → Value → Prop
  | .int i, v => ∃ t, v = .int i t
  | .str x, v => ∃ t, v = .str x t
  | .bool b, v => v = .bool b
  | .none, v => v = .none
  | .lit u, v => v = u
  | .ref i, v => ∃ p, ρ[i]? = some p ∧ v = .ref p.a

theorem getElem?_mono {α : Type} {ρ new : List α} {i : Nat} {p : α} (h : ρ[i]? = some p) : (ρ ++ new)[i]? = some p := by
  rw [List.getElem?_append_left (List.getElem?_eq_some_iff.mp h).1]; exact h

theorem VR.mono {ρ : List Pl} {x : AV} {v : Value} (new : List Pl) (h : VR ρ x v) : VR (ρ ++ new) x v := by
  cases x with
  | ref i =>
    obtain ⟨p, hp, rfl⟩ := h
    exact ⟨p, getElem?_mono hp, rfl⟩
  | _ => exact h

theorem VR.ext {ρ ρ' : List Pl} {x : AV} {v : Value} (h : VR ρ x v) (e : ∀ i ∈ x.refs, ∀ p, ρ[i]? = some p → ρ'[i]? = some p) : VR ρ' x v := by
  cases x with
  | ref i =>
    obtain ⟨p, hp, rfl⟩ := h
    exact ⟨p, e i List.mem_cons_self p hp, rfl⟩
  | _ => exact h
theorem VR.lt {ρ : List Pl} {x : AV} {v : Value} (h : VR ρ x v) : ∀ i ∈ x.refs, i < ρ.length := by
  cases x with
  | ref i =>
    obtain ⟨p, hp, rfl⟩ := h
    intro j hj; simp [AV.refs] at hj; subst hj
    exact (List.getElem?_eq_some_iff.mp hp).1
  | _ => intro j hj; cases hj

noncomputable def VRs (ρ : List Pl) : List AV → List Value → Prop
  | [], [] => True
  | x :: xs, v :: vs => VR ρ x v ∧ VRs ρ xs vs
  | _, _ => False

theorem VRs.mono {ρ : List Pl} (new : List Pl) : ∀ {xs : List AV} {vs : List Value}, VRs ρ xs vs → VRs (ρ ++ new) xs vs
  | [], [], _ => trivial
  | _ :: _, _ :: _, h => ⟨h.1.mono new, VRs.mono new h.2⟩

theorem VRs.ext {ρ ρ' : List Pl} : ∀ {xs : List AV} {vs : List Value}, VRs ρ xs vs → (∀ i ∈ AVs.refs xs, ∀ p, ρ[i]? = some p → ρ'[i]? = some p) → VRs ρ' xs vs
  | [], [], _, _ => trivial
  | _ :: _, _ :: _, h, e => ⟨h.1.ext fun i hi => e i (List.mem_append_left _ hi), VRs.ext h.2 fun i hi => e i (List.mem_append_right _ hi)⟩
theorem VRs.length {ρ : List Pl} : ∀ {xs : List AV} {vs : List Value}, VRs ρ xs vs → xs.length = vs.length
  | [], [], _ => rfl
  | _ :: _, _ :: _, h => congrArg (· + 1) (VRs.length h.2)

theorem VRs.append {ρ : List Pl} {xs : List AV} {vs : List Value} {ys : List AV} {ws : List Value} (h : VRs ρ xs vs) (h' : VRs ρ ys ws) : VRs ρ (xs ++ ys) (vs ++ ws) := by
  induction xs generalizing vs with
  | nil => cases vs with
    | nil => exact h'
    | cons v vs => exact h.elim
  | cons x xs ih => cases vs with
    | nil => exact h.elim
    | cons v vs => exact ⟨h.1, ih h.2⟩

theorem VRs.get {ρ : List Pl} {xs : List AV} {vs : List Value} {i : Nat} {x : AV} (h : VRs ρ xs vs) (e : xs[i]? = some x) : ∃ v, vs[i]? = some v ∧ VR ρ x v := by
  induction xs generalizing vs i with
  | nil => cases e
  | cons y xs ih => cases vs with
    | nil => exact h.elim
    | cons v vs => cases i with
      | zero => cases e; exact ⟨v, rfl, h.1⟩
      | succ i => exact ih (vs := vs) (i := i) h.2 e
/-! lists of known length taken apart (a lemma, for a match makes a large matcher) -/
theorem len1 {α : Type} {l : List α} (h : l.length = 1) : ∃ a, l = [a] := by
  cases l with
  | nil => cases h
  | cons a l => cases l with
    | nil => exact ⟨a, rfl⟩
    | cons b l => cases h
theorem lenS {α : Type} {l : List α} {k : Nat} (h : l.length = k + 1) : ∃ a t, l = a :: t ∧ t.length = k := by
  cases l with
  | nil => cases h
  | cons a l => exact ⟨a, l, rfl, Nat.succ.inj h⟩
theorem len2 {α : Type} {l : List α} (h : l.length = 2) : ∃ a b, l = [a, b] := by
  obtain ⟨a, t, rfl, g⟩ := lenS h
  obtain ⟨b, rfl⟩ := len1 g
  exact ⟨a, b, rfl⟩
theorem len3 {α : Type} {l : List α} (h : l.length = 3) : ∃ a b d, l = [a, b, d] := by
  obtain ⟨a, t, rfl, g⟩ := lenS h
  obtain ⟨b, d, rfl⟩ := len2 g
  exact ⟨a, b, d, rfl⟩
theorem len4 {α : Type} {l : List α} (h : l.length = 4) : ∃ a b d e, l = [a, b, d, e] := by
  obtain ⟨a, t, rfl, g⟩ := lenS h
  obtain ⟨b, d, e, rfl⟩ := len3 g
  exact ⟨a, b, d, e, rfl⟩
theorem VRs.dS {ρ : List Pl} {x : AV} {xs : List AV} {vs : List Value} (h : VRs ρ (x :: xs) vs) : ∃ v t, vs = v :: t ∧ VR ρ x v ∧ VRs ρ xs t := by
  cases vs with
  | nil => exact h.elim
  | cons v t => exact ⟨v, t, rfl, h.1, h.2⟩
theorem VRs.d1 {ρ : List Pl} {x : AV} {vs : List Value} (h : VRs ρ [x] vs) : ∃ v, vs = [v] ∧ VR ρ x v := by
  obtain ⟨v, t, rfl, h1, h2⟩ := h.dS
  cases t with
  | nil => exact ⟨v, rfl, h1⟩
  | cons w t => exact h2.elim
theorem VRs.d2 {ρ : List Pl} {x y : AV} {vs : List Value} (h : VRs ρ [x, y] vs) : ∃ v w, vs = [v, w] ∧ VR ρ x v ∧ VR ρ y w := by
  obtain ⟨v, t, rfl, h1, h2⟩ := h.dS
  obtain ⟨w, rfl, h3⟩ := h2.d1
  exact ⟨v, w, rfl, h1, h3⟩
theorem VRs.d4 {ρ : List Pl} {x y z u : AV} {vs : List Value} (h : VRs ρ [x, y, z, u] vs) : ∃ a b d e, vs = [a, b, d, e] ∧ VR ρ x a ∧ VR ρ y b ∧ VR ρ z d ∧ VR ρ u e := by
  obtain ⟨a, t, rfl, h1, h2⟩ := h.dS
  obtain ⟨b, t, rfl, h3, h4⟩ := h2.dS
  obtain ⟨d, e, rfl, h5, h6⟩ := h4.d2
  exact ⟨a, b, d, e, rfl, h1, h3, h5, h6⟩

noncomputable def VRo (ρ : List Pl) : Option AV → Option Value → Prop
  | .none, .none => True
  | some x, some v => VR ρ x v
  | _, _ => False
theorem VRo.mono {ρ : List Pl} {x : Option AV} {v : Option Value} (new : List Pl) (h : VRo ρ x v) : VRo (ρ ++ new) x v := by
  cases x <;> cases v <;> first | exact h | exact VR.mono new h

/-! ## The context: what the top has left -/

abbrev Keeps (h h' : Heap) : Prop := ∀ b o, h.get? b = some o → h'.get? b = some o

structure Cx where
  prog : Program
  w : World
  hb : Heap
  K : Frag
  inK : K.In hb
  mg : Str → Option Value
  mb : Str → Option Value
  g : hb.Ns mainGlobals mg
  b : hb.Ns builtinsNs mb
  bs : ∀ x : Str, x ≠ "__name__" → mb x = bootBuiltins x
  nolimit : hb.NoLimit
  XR : XO → List Pl → Pl → Heap → Prop
  XR_map : ∀ {k ρ ρ' p h} (f : Nat → Nat), XR k ρ p h → (∀ i ∈ k.refs, ∀ p, ρ[i]? = some p → ρ'[f i]? = some p) → XR (k.ren f) ρ' p h
  XR_lt : ∀ {k ρ p h}, XR k ρ p h → ∀ i ∈ k.refs, i < ρ.length
  XR_loc : ∀ {k ρ p} {h h' : Heap}, XR k ρ p h → Keeps hb h' → (∀ a ∈ p.a :: p.more, ∀ o, h.get? a = some o → h'.get? a = some o) → XR k ρ p h'

theorem Cx.XR_ext (c : Cx) {k ρ ρ' p h} (x : c.XR k ρ p h) (e : ∀ i ∈ k.refs, ∀ p, ρ[i]? = some p → ρ'[i]? = some p) : c.XR k ρ' p h := by
  have := c.XR_map (fun i => i) x e
  rwa [XO.ren_id] at this

abbrev Cx.M (c : Cx) : Model := model c.prog c.w

noncomputable def LL (h : Heap) (a : Addr) (its : Array Value) : Prop := ∃ n, h.get? a = some { cls := .type "list", dict := none, data := .seq its n, slots := #[] }
noncomputable def TT (h : Heap) (a : Addr) (its : Array Value) : Prop := ∃ n, h.get? a = some { cls := .type "tuple", dict := none, data := .seq its n, slots := #[] }
theorem LL.isList {h : Heap} {a : Addr} {its : Array Value} (x : LL h a its) : h.IsList a its := let ⟨n, e⟩ := x; ⟨_, e, rfl, n, rfl⟩
theorem LL.lt {h : Heap} {a : Addr} {its : Array Value} (x : LL h a its) : a < h.objs.size := let ⟨_, e⟩ := x; Heap.lt_size e
theorem TT.isTup {h : Heap} {a : Addr} {its : Array Value} (x : TT h a its) : IsTup h a its := let ⟨n, e⟩ := x; ⟨_, e, rfl, n, rfl⟩
theorem LL.of {h h' : Heap} {a : Addr} {its : Array Value} (x : LL h a its) (k : ∀ o, h.get? a = some o → h'.get? a = some o) : LL h' a its := let ⟨n, e⟩ := x; ⟨n, k _ e⟩
theorem TT.of {h h' : Heap} {a : Addr} {its : Array Value} (x : TT h a its) (k : ∀ o, h.get? a = some o → h'.get? a = some o) : TT h' a its := let ⟨n, e⟩ := x; ⟨n, k _ e⟩

noncomputable def OR (c : Cx) (ρ : List Pl) : AO → Pl → Heap → Prop
  | .list xs, p, h => p.more = [] ∧ ∃ vs, VRs ρ xs vs ∧ LL h p.a vs.toArray
  | .tup xs, p, h => p.more = [] ∧ ∃ vs, VRs ρ xs vs ∧ TT h p.a vs.toArray
  | .cell v, p, h => p.more = [] ∧ ∃ v', VRo ρ v v' ∧ h.IsCell p.a v'
  | .rng lo hi, p, h => p.more = [] ∧ ∃ t u v, IsRange h p.a lo hi 1 t u v
  | .x k, p, h => c.XR k ρ p h

theorem OR.ext {c : Cx} {ρ ρ' : List Pl} {o : AO} {p : Pl} {h : Heap} (x : OR c ρ o p h) (e : ∀ i ∈ o.refs, ∀ p, ρ[i]? = some p → ρ'[i]? = some p) : OR c ρ' o p h := by
  cases o with
  | list xs => obtain ⟨e', vs, h1, h2⟩ := x; exact ⟨e', vs, h1.ext e, h2⟩
  | tup xs => obtain ⟨e', vs, h1, h2⟩ := x; exact ⟨e', vs, h1.ext e, h2⟩
  | cell v =>
    obtain ⟨e', v', h1, h2⟩ := x
    refine ⟨e', v', ?_, h2⟩
    cases v <;> cases v' <;> first | exact h1 | exact VR.ext h1 e
  | rng lo hi => exact x
  | x k => exact c.XR_ext x e
theorem OR.mono {c : Cx} {ρ : List Pl} {o : AO} {p : Pl} {h : Heap} (new : List Pl) (x : OR c ρ o p h) : OR c (ρ ++ new) o p h := x.ext fun _ _ _ hp => getElem?_mono hp

theorem OR.loc {c : Cx} {ρ : List Pl} {o : AO} {p : Pl} {h h' : Heap} (x : OR c ρ o p h) (k : Keeps c.hb h') (l : ∀ a ∈ p.a :: p.more, ∀ o, h.get? a = some o → h'.get? a = some o) : OR c ρ o p h' := by
  have l0 := l p.a List.mem_cons_self
  cases o with
  | list xs => obtain ⟨e, vs, h1, r⟩ := x; exact ⟨e, vs, h1, r.of l0⟩
  | tup xs => obtain ⟨e, vs, h1, r⟩ := x; exact ⟨e, vs, h1, r.of l0⟩
  | cell v => obtain ⟨e, v', h1, o, ho, r⟩ := x; exact ⟨e, v', h1, o, l0 _ ho, r⟩
  | rng lo hi => obtain ⟨e, t, u, v, r⟩ := x; exact ⟨e, t, u, v, l0 _ r⟩
  | x k' => exact c.XR_loc x k l

/-- object by object -/
noncomputable def ORs (c : Cx) (ρ : List Pl) : List AO → List Pl → Heap → Prop
  | [], [], _ => True
  | o :: os, p :: ps, h => OR c ρ o p h ∧ ORs c ρ os ps h
  | _, _, _ => False

theorem ORs.length {c : Cx} {ρ : List Pl} {h : Heap} : ∀ {os : List AO} {ps : List Pl}, ORs c ρ os ps h → os.length = ps.length
  | [], [], _ => rfl
  | _ :: _, _ :: _, x => congrArg (· + 1) (ORs.length x.2)
theorem ORs.mono {c : Cx} {ρ : List Pl} {h : Heap} (new : List Pl) : ∀ {os : List AO} {ps : List Pl}, ORs c ρ os ps h → ORs c (ρ ++ new) os ps h
  | [], [], _ => trivial
  | _ :: _, _ :: _, x => ⟨x.1.mono new, ORs.mono new x.2⟩
theorem ORs.loc {c : Cx} {ρ : List Pl} {h h' : Heap} (k : Keeps c.hb h') : ∀ {os : List AO} {ps : List Pl}, ORs c ρ os ps h → (∀ a ∈ foot ps, ∀ o, h.get? a = some o → h'.get? a = some o) → ORs c ρ os ps h'
  | [], [], _, _ => trivial
  | _ :: _, _ :: _, x, l => ⟨x.1.loc k fun a ha => l a (List.mem_append_left _ ha), ORs.loc k x.2 fun a ha => l a (List.mem_append_right _ ha)⟩
theorem ORs.ext {c : Cx} {ρ ρ' : List Pl} {h : Heap} : ∀ {os : List AO} {ps : List Pl}, ORs c ρ os ps h → (∀ o ∈ os, ∀ i ∈ o.refs, ∀ p, ρ[i]? = some p → ρ'[i]? = some p) → ORs c ρ' os ps h
  | [], [], _, _ => trivial
  | _ :: _, _ :: _, x, e => ⟨x.1.ext (e _ List.mem_cons_self), ORs.ext x.2 fun o ho => e o (List.mem_cons_of_mem _ ho)⟩
theorem ORs.get {c : Cx} {ρ : List Pl} {h : Heap} {os : List AO} {ps : List Pl} {i : Nat} {o : AO} (x : ORs c ρ os ps h) (e : os[i]? = some o) : ∃ p, ps[i]? = some p ∧ OR c ρ o p h := by
  induction os generalizing ps i with
  | nil => cases e
  | cons y os ih => cases ps with
    | nil => exact x.elim
    | cons p ps => cases i with
      | zero => cases e; exact ⟨p, rfl, x.1⟩
      | succ i => exact ih (ps := ps) (i := i) x.2 e
theorem ORs.append {c : Cx} {ρ : List Pl} {h : Heap} : ∀ {os : List AO} {ps : List Pl} {os' : List AO} {ps' : List Pl}, ORs c ρ os ps h → ORs c ρ os' ps' h → ORs c ρ (os ++ os') (ps ++ ps') h
  | [], [], _, _, _, y => y
  | _ :: _, _ :: _, _, _, x, y => ⟨x.1, ORs.append x.2 y⟩

/-- one object turned, all else as it was -/
theorem ORs.set {c : Cx} {ρ : List Pl} {h h' : Heap} (k : Keeps c.hb h') {i : Nat} {p : Pl} {o : AO} : ∀ {os : List AO} {ps : List Pl}, ORs c ρ os ps h → ps[i]? = some p → (foot ps).Nodup →
    (∀ a, a ∉ p.a :: p.more → ∀ o, h.get? a = some o → h'.get? a = some o) → OR c ρ o p h' → ORs c ρ (os.set i o) ps h'
  | os, ps, x, e, nd, l, y => by
    induction i generalizing os ps with
    | zero =>
      cases os <;> cases ps <;> first | exact x.elim | (simp at e) | skip
      rename_i o0 os p0 ps
      subst e
      refine ⟨y, x.2.loc k fun a ha => l a ?_⟩
      intro hp
      exact (List.nodup_append.mp nd).2.2 a hp a ha rfl
    | succ i ih =>
      cases os <;> cases ps <;> first | exact x.elim | (simp at e) | skip
      rename_i o0 os p0 ps
      refine ⟨x.1.loc k fun a ha => l a ?_, ih os ps x.2 e (List.nodup_append.mp nd).2.1⟩
      intro hp
      exact (List.nodup_append.mp nd).2.2 a ha a (foot_mem_of_get e a hp) rfl

structure Rel (c : Cx) (X : List Addr) (os : List AO) (ρ : List Pl) (h : Heap) : Prop where
  objs : ORs c ρ os ρ h
  nodup : (X ++ foot ρ).Nodup
  keep : Keeps c.hb h
  fresh : ∀ a ∈ X ++ foot ρ, c.hb.get? a = none
  live : ∀ a ∈ X ++ foot ρ, a < h.objs.size

/-- from one heap to a later one: what is not one's own stays -/
structure Reach (X : List Addr) (ρ : List Pl) (h : Heap) (ρ' : List Pl) (h' : Heap) : Prop where
  grow : ∃ new, ρ' = ρ ++ new ∧ ∀ a ∈ foot new, h.objs.size ≤ a
  keep : ∀ a o, h.get? a = some o → a ∉ X ++ foot ρ → h'.get? a = some o
  size : h.objs.size ≤ h'.objs.size

theorem Reach.refl (X : List Addr) (ρ : List Pl) (h : Heap) : Reach X ρ h ρ h := ⟨⟨[], by simp, by simp [foot]⟩, fun _ _ e _ => e, Nat.le_refl _⟩
theorem Reach.trans {X : List Addr} {ρ ρ₁ ρ₂ : List Pl} {h h₁ h₂ : Heap} (x : Reach X ρ h ρ₁ h₁) (y : Reach X ρ₁ h₁ ρ₂ h₂) : Reach X ρ h ρ₂ h₂ := by
  obtain ⟨n1, rfl, f1⟩ := x.grow
  obtain ⟨n2, rfl, f2⟩ := y.grow
  refine ⟨⟨n1 ++ n2, by simp, ?_⟩, fun a o e hn => y.keep a o (x.keep a o e hn) ?_, Nat.le_trans x.size y.size⟩
  · intro a ha
    rw [foot_append] at ha
    rcases List.mem_append.mp ha with ha | ha
    · exact f1 a ha
    · exact Nat.le_trans x.size (f2 a ha)
  · rw [foot_append, ← List.append_assoc]
    intro hm
    rcases List.mem_append.mp hm with hm | hm
    · exact hn hm
    · exact absurd (Heap.lt_size e) (Nat.not_lt.mpr (f1 a hm))
theorem Reach.more {X Y : List Addr} {ρ ρ₁ : List Pl} {h h₁ : Heap} (x : Reach X ρ h ρ₁ h₁) (s : ∀ a ∈ X, a ∈ Y) : Reach Y ρ h ρ₁ h₁ :=
  ⟨x.grow, fun a o e hn => x.keep a o e fun hm => hn ((List.mem_append.mp hm).elim (fun q => List.mem_append_left _ (s a q)) (List.mem_append_right _)), x.size⟩

end Mine
end

section
open PySem PySem.W PyProof.Rows
namespace Mine

theorem runs_size {M : Model} {Γ : Ctx} {p : Pos} {t : Sem Fin} {fs : List Frame} {s s' : Shared} {e : End} (h : Runs M Γ p t fs s e s') : s.heap.objs.size ≤ s'.heap.objs.size := by
  induction h <;> (try simp only [Shared.setGen, Heap.size_push, Heap.size_after_update] at *) <;> omega

theorem returns_size {M : Model} {Γ : Ctx} {p : Pos} {s s' : Shared} {r : Result} (h : Returns M Γ p s r s') : s.heap.objs.size ≤ s'.heap.objs.size := runs_size h

theorem wakes_size {M : Model} {Γ : Ctx} {p : Pos} {g : Nat} {r : Resume} {s s' : Shared} {res : GenResult} (h : Wakes M Γ p g r s res s') : s.heap.objs.size ≤ s'.heap.objs.size := by
  unfold Wakes at h
  split at h
  · exact h.elim
  · split at h
    · obtain ⟨e₁, s₁, hr, _, _, rfl⟩ := h; exact (runs_size hr : (s.setGen g .running).heap.objs.size ≤ s₁.heap.objs.size)
    · rw [h.2]; exact Nat.le_refl _
    · rw [h.2]; exact Nat.le_refl _
  · obtain ⟨e₁, s₁, hr, _, _, rfl⟩ := h; exact (runs_size hr : (s.setGen g .running).heap.objs.size ≤ s₁.heap.objs.size)
  · rw [h.2]; exact Nat.le_refl _
  · rw [h.2]; exact Nat.le_refl _

theorem wp_size {α : Type} (M : Model) (Γ : Ctx) (n : Nat) (t : Sem α) : ∀ (Q : α → Pos → Shared → Prop) (E : Value → Pos → Shared → Prop) (p : Pos) (s : Shared), n ≤ s.heap.objs.size → Sem.wp M Γ t Q E p s →
    Sem.wp M Γ t (fun a p' s' => n ≤ s'.heap.objs.size ∧ Q a p' s') (fun e p' s' => n ≤ s'.heap.objs.size ∧ E e p' s') p s := by
  induction t with
  | pure a => intro Q E p s hn h; exact ⟨hn, h⟩
  | raise e => intro Q E p s hn h; exact ⟨hn, h⟩
  | unsupported _ => intro Q E p s _ h; exact h
  | finish _ => intro Q E p s _ h; exact h
  | rule _ k ih => intro Q E p s hn h; exact ih () Q E p s hn h
  | «at» p' k ih => intro Q E p s hn h; exact ih () Q E p' s hn h
  | load a _ k ih => intro Q E p s hn h; obtain ⟨o, ho, h⟩ := h; exact ⟨o, ho, ih o Q E p s hn h⟩
  | update a _ f k ih => intro Q E p s hn h; exact ⟨h.1, ih () Q E p _ (by simpa using hn) h.2⟩
  | loadIfAlive a k ih => intro Q E p s hn h; exact ih _ Q E p s hn h
  | point _ k ih => intro Q E p s hn h; exact ih () Q E p s hn h
  | register _ _ => intro Q E p s _ h; exact h
  | alloc o k ih => intro Q E p s hn h; exact ih _ Q E p _ (by show n ≤ (s.heap.push o).objs.size; rw [Heap.size_push]; omega) h
  | fresh k ih => intro Q E p s hn h; exact ih _ Q E p _ hn h
  | ask k ih => intro Q E p s hn h; exact ih _ Q E p s hn h
  | choose src m k ih => intro Q E p s hn h; exact ⟨h.1, ih _ Q E p _ hn h.2⟩
  | os q _ k ih => intro Q E p s hn h; exact ih _ Q E p _ hn h
  | call c hd _ _ k ih => intro Q E p s hn h; obtain ⟨r, s', hr, h⟩ := h; exact ⟨r, s', hr, ih r Q E p s' (Nat.le_trans hn (returns_size hr)) h⟩
  | handled own k ih => intro Q E p s hn h; exact ih _ Q E p s hn h
  | genState g k ih => intro Q E p s hn h; obtain ⟨st, hs, h⟩ := h; exact ⟨st, hs, ih _ Q E p s hn h⟩
  | newGen c k ih => intro Q E p s hn h; exact ih _ Q E p _ hn h
  | resume g r _ k ih => intro Q E p s hn h; obtain ⟨res, s', hw, h⟩ := h; exact ⟨res, s', hw, ih res Q E p s' (Nat.le_trans hn (wakes_size hw)) h⟩
  | yield _ _ _ _ => intro Q E p s _ h; exact h
  | stack k ih => intro Q E p s hn h; exact ih _ Q E p s hn h
  | fork _ _ => intro Q E p s _ h; exact h
  | thread k ih => intro Q E p s hn h; exact ih _ Q E p s hn h
  | await _ _ _ _ _ => intro Q E p s _ h; exact h

/-- a heap never shrinks -/
theorem wpAny_size {α : Type} {M : Model} {A : Around} {s : Shared} {t : Sem α} {Q : α → Shared → Prop} {E : Value → Shared → Prop}
    (h : wpAny M A t (fun a s' => s.heap.objs.size ≤ s'.heap.objs.size → Q a s') (fun e s' => s.heap.objs.size ≤ s'.heap.objs.size → E e s') s) : wpAny M A t Q E s := by
  have h' : wpAny M A t (fun a s' => s.heap.objs.size ≤ s'.heap.objs.size ∧ (s.heap.objs.size ≤ s'.heap.objs.size → Q a s')) (fun e s' => s.heap.objs.size ≤ s'.heap.objs.size ∧ (s.heap.objs.size ≤ s'.heap.objs.size → E e s')) s :=
    fun Γ p hΓ => wp_size M Γ _ t _ _ p s (Nat.le_refl _) (h Γ p hΓ)
  exact wpAny_mono h' (fun _ _ x => x.2 x.1) (fun _ _ x => x.2 x.1)
theorem codeAny_size {M : Model} {A : Around} {s : Shared} {c : Code} {R : Result → Shared → Prop} (h : codeAny M A c (fun r s' => s.heap.objs.size ≤ s'.heap.objs.size → R r s') s) : codeAny M A c R s :=
  fun Γ p hc hΓ => by obtain ⟨r, s', hr, hR⟩ := h Γ p hc hΓ; exact ⟨r, s', hr, hR (returns_size hr)⟩
end Mine
end

section
open PySem PySem.W PyProof.Rows
namespace Mine

structure FD where
  scope : Scope
  cells : List (Str × Nat)
  /-- the frame's code and its prefix for names, where they are told -/
  cq : Option (Value × Str)

structure S where
  vs : List (Str × AV)
  os : List AO

structure Fre (fd : FD) (vs : List (Str × AV)) (env : Env) (ρ : List Pl) (h : Heap) : Prop where
  scope : env.scope = fd.scope
  glob : env.globals = mainGlobals
  blt : env.builtins = builtinsNs
  cq : ∀ q, fd.cq = some q → env.code = q.1 ∧ env.qual = q.2
  cells : ∀ x i, fd.cells.lookup x = some i → ∃ p, ρ[i]? = some p ∧ env.cells.lookup x = some p.a
  ns : ∃ m, h.Ns env.locals m ∧ ∀ x v, vs.lookup x = some v → ∃ v', m x = some v' ∧ VR ρ v v'

structure In (c : Cx) (fd : FD) (σ : S) (env : Env) (ρ : List Pl) (h : Heap) : Prop where
  rel : Rel c [env.locals] σ.os ρ h
  fre : Fre fd σ.vs env ρ h

structure Room (A : Around) (n : Nat) : Prop where
  handled : A.handled = none
  depth : A.depth + n < recursionLimit
  units : A.units + 20 * n + 100 < cLine

noncomputable def Run (c : Cx) (X : List Addr) (A : Around) (ρ : List Pl) (s : Shared) {α : Type} (t : Sem α) (P : List Pl → Heap → α → Prop) : Prop :=
  ∀ Q E, (∀ x h' tk' ρ', Reach X ρ s.heap ρ' h' → P ρ' h' x → ∀ {dr : Drawn}, Q x { s with heap := h', toks := tk', drawn := dr }) → wpAny c.M A t Q E s

section
variable {c : Cx} {X : List Addr} {A : Around} {ρ : List Pl} {s : Shared} {α β : Type}

theorem Run.bind {m : Sem α} {f : α → Sem β} {P : List Pl → Heap → α → Prop} {P' : List Pl → Heap → β → Prop} (h : Run c X A ρ s m P)
    (k : ∀ x h₁ tk ρ₁, Reach X ρ s.heap ρ₁ h₁ → P ρ₁ h₁ x → ∀ {dr : Drawn}, Run c X A ρ₁ { s with heap := h₁, toks := tk, drawn := dr } (f x) P') : Run c X A ρ s (m >>= f) P' :=
  fun Q E hq => wpAny_bind (h _ _ fun x h₁ tk ρ₁ r p => k x h₁ tk ρ₁ r p Q E fun y h₂ tk₂ ρ₂ r₂ p₂ => hq y h₂ tk₂ ρ₂ (r.trans r₂) p₂)
theorem Run.pure {a : α} {P : List Pl → Heap → α → Prop} (h : P ρ s.heap a) : Run c X A ρ s (Pure.pure a) P :=
  fun _ _ hq => wpAny_pure (hq a s.heap s.toks ρ (Reach.refl ..) h)
theorem Run.mono {t : Sem α} {P P' : List Pl → Heap → α → Prop} (h : Run c X A ρ s t P) (k : ∀ x h₁ ρ₁, Reach X ρ s.heap ρ₁ h₁ → P ρ₁ h₁ x → P' ρ₁ h₁ x) : Run c X A ρ s t P' :=
  fun Q E hq => h Q E fun x h' tk' ρ' r p => hq x h' tk' ρ' r (k x h' ρ' r p)
theorem Run.holding {vs : List Value} {t : Sem α} {P : List Pl → Heap → α → Prop} (h : Run c X A ρ s t P) : Run c X A ρ s (PySem.holding vs t) P :=
  fun Q E hq => wpAny_holding (h Q E hq)
theorem Run.stand {pos : Pos} {t : Sem α} {P : List Pl → Heap → α → Prop} (h : Run c X A ρ s t P) : Run c X A ρ s (do PySem.standAt pos; t) P :=
  fun Q E hq => wpAny_bind (wpAny_standAt (h Q E hq))
theorem Run.release {vs keep : List Value} {P : List Pl → Heap → Unit → Prop} (h : P ρ s.heap ()) : Run c X A ρ s (PySem.release vs keep) P :=
  fun _ _ hq => fun Γ p _ => by
    rw [Sem.wp_release]; exact hq () s.heap s.toks ρ (Reach.refl ..) h
theorem Run.operate {vs : List Value} {t : Sem Value} {P : List Pl → Heap → Value → Prop} (h : Run c X A ρ s t P) : Run c X A ρ s (PySem.operate vs t) P :=
  fun Q E hq => fun Γ p hΓ => by
    rw [Sem.wp_operate]; exact h Q E hq Γ p hΓ
theorem Run.of_eq {t t' : Sem α} {P : List Pl → Heap → α → Prop} (e : t = t') (h : Run c X A ρ s t' P) : Run c X A ρ s t P := e ▸ h
/-- a step that tells a value and turns nothing but the tokens -/
theorem Run.tell {t : Sem α} {a : α} {P : List Pl → Heap → α → Prop} (h : ∀ Q E, (∀ tk, Q a { s with toks := tk }) → wpAny c.M A t Q E s) (p : P ρ s.heap a) : Run c X A ρ s t P :=
  fun Q E hq => h Q E fun tk => hq a s.heap tk ρ (Reach.refl ..) p
end

/-! ### lifting -/

theorem Rel.sub {c : Cx} {X Y : List Addr} {os : List AO} {ρ : List Pl} {h : Heap} (r : Rel c (X ++ Y) os ρ h) : Rel c Y os ρ h :=
  ⟨r.objs, by have := r.nodup; rw [List.append_assoc] at this; exact (List.nodup_append.mp this).2.1, r.keep, fun a ha => r.fresh a (by rw [List.append_assoc]; exact List.mem_append_right _ ha), fun a ha => r.live a (by rw [List.append_assoc]; exact List.mem_append_right _ ha)⟩
theorem Rel.none {c : Cx} {X : List Addr} {os : List AO} {ρ : List Pl} {h : Heap} (r : Rel c X os ρ h) : Rel c [] os ρ h := Rel.sub (X := X) (Y := []) (by simpa using r)

theorem Rel.lift {c : Cx} {X : List Addr} {os os' : List AO} {ρ ρ' : List Pl} {h h' : Heap} (r : Rel c X os ρ h) (q : Reach [] ρ h ρ' h') (r' : Rel c [] os' ρ' h') : Rel c X os' ρ' h' := by
  obtain ⟨new, rfl, f⟩ := q.grow
  refine ⟨r'.objs, ?_, r'.keep, fun a ha => ?_, fun a ha => ?_⟩
  · have h1 := r.nodup
    have h2 := r'.nodup
    refine List.nodup_append.mpr ⟨(List.nodup_append.mp h1).1, by simpa using h2, fun a ha b hb e => ?_⟩
    subst e
    rw [foot_append] at hb
    rcases List.mem_append.mp hb with hb | hb
    · exact (List.nodup_append.mp h1).2.2 a ha a hb rfl
    · exact absurd (r.live a (List.mem_append_left _ ha)) (Nat.not_lt.mpr (f a hb))
  · rcases List.mem_append.mp ha with ha | ha
    · exact r.fresh a (List.mem_append_left _ ha)
    · exact r'.fresh a (by simpa using ha)
  · rcases List.mem_append.mp ha with ha | ha
    · exact Nat.lt_of_lt_of_le (r.live a (List.mem_append_left _ ha)) q.size
    · exact r'.live a (by simpa using ha)

theorem Reach.pref {X : List Addr} {ρ ρ' : List Pl} {h h' : Heap} (q : Reach X ρ h ρ' h') : ∃ new, ρ' = ρ ++ new := let ⟨n, e, _⟩ := q.grow; ⟨n, e⟩
theorem VR.reach {X : List Addr} {ρ ρ' : List Pl} {h h' : Heap} {x : AV} {v : Value} (y : VR ρ x v) (q : Reach X ρ h ρ' h') : VR ρ' x v := by obtain ⟨n, rfl⟩ := q.pref; exact y.mono n
theorem VRs.reach {X : List Addr} {ρ ρ' : List Pl} {h h' : Heap} {x : List AV} {v : List Value} (y : VRs ρ x v) (q : Reach X ρ h ρ' h') : VRs ρ' x v := by obtain ⟨n, rfl⟩ := q.pref; exact y.mono n

theorem Fre.lift {fd : FD} {vs : List (Str × AV)} {env : Env} {ρ ρ' : List Pl} {h h' : Heap} (f : Fre fd vs env ρ h) (hl : env.locals ∉ foot ρ) (q : Reach [] ρ h ρ' h') : Fre fd vs env ρ' h' := by
  obtain ⟨new, rfl, _⟩ := q.grow
  refine ⟨f.scope, f.glob, f.blt, f.cq, fun x i e => ?_, ?_⟩
  · obtain ⟨p, h1, h2⟩ := f.cells x i e
    exact ⟨p, getElem?_mono h1, h2⟩
  · obtain ⟨m, ⟨o, es, ep, ho, r⟩, hm⟩ := f.ns
    refine ⟨m, ⟨o, es, ep, q.keep _ _ ho (by simpa using hl), r⟩, fun x v e => ?_⟩
    obtain ⟨v', h1, h2⟩ := hm x v e
    exact ⟨v', h1, h2.mono new⟩

theorem In.notFoot {c : Cx} {fd : FD} {σ : S} {env : Env} {ρ : List Pl} {h : Heap} (x : In c fd σ env ρ h) : env.locals ∉ foot ρ := fun hm =>
  (List.nodup_append.mp x.rel.nodup).2.2 env.locals List.mem_cons_self env.locals hm rfl

theorem In.lift {c : Cx} {fd : FD} {σ : S} {env : Env} {ρ ρ' : List Pl} {h h' : Heap} {os' : List AO} (x : In c fd σ env ρ h) (q : Reach [] ρ h ρ' h') (r' : Rel c [] os' ρ' h') : In c fd ⟨σ.vs, os'⟩ env ρ' h' :=
  ⟨x.rel.lift q r', x.fre.lift x.notFoot q⟩

/-! ### operations upon objects -/

noncomputable def Op (c : Cx) (n : Nat) (t : List Value → Sem Value) (args : List AV) (os : List AO) (v : AV) (os' : List AO) : Prop :=
  ∀ A ρ s xs, Room A n → Rel c [] os ρ s.heap → VRs ρ args xs → Run c [] A ρ s (t xs) fun ρ' h' x => Rel c [] os' ρ' h' ∧ VR ρ' v x

noncomputable def Op1 (c : Cx) (n : Nat) (t : Value → Sem Value) (a : AV) (os : List AO) (v : AV) (os' : List AO) : Prop :=
  ∀ A ρ s x, Room A n → Rel c [] os ρ s.heap → VR ρ a x → Run c [] A ρ s (t x) fun ρ' h' y => Rel c [] os' ρ' h' ∧ VR ρ' v y
noncomputable def Op2 (c : Cx) (n : Nat) (t : Value → Value → Sem Value) (a b : AV) (os : List AO) (v : AV) (os' : List AO) : Prop :=
  ∀ A ρ s x y, Room A n → Rel c [] os ρ s.heap → VR ρ a x → VR ρ b y → Run c [] A ρ s (t x y) fun ρ' h' z => Rel c [] os' ρ' h' ∧ VR ρ' v z

/-- a call -/
abbrev CallR (c : Cx) (n : Nat) (f : Value) (args : List AV) (os : List AO) (v : AV) (os' : List AO) : Prop := Op c n (fun xs => call f xs) args os v os'

/-- truth -/
noncomputable def Tru (c : Cx) (n : Nat) (a : AV) (os : List AO) (b : Bool) : Prop :=
  ∀ A ρ s x, Room A n → Rel c [] os ρ s.heap → VR ρ a x → Run c [] A ρ s (truthy x) fun ρ' h' y => Rel c [] os ρ' h' ∧ y = b

/-! ### the judgements -/

noncomputable def Ev (c : Cx) (n : Nat) (fd : FD) (e : Expr) (σ : S) (v : AV) (σ' : S) : Prop :=
  ∀ env A ρ s, Room A n → In c fd σ env ρ s.heap → Run c [env.locals] A ρ s (eval e env) fun ρ' h' x => In c fd σ' env ρ' h' ∧ VR ρ' v x

noncomputable def Evs (c : Cx) (n : Nat) (fd : FD) (es : List Expr) (σ : S) (vs : List AV) (σ' : S) : Prop :=
  ∀ pos env A ρ s, Room A n → In c fd σ env ρ s.heap → Run c [env.locals] A ρ s (spliced (backTo pos (starEach es env))) fun ρ' h' xs => In c fd σ' env ρ' h' ∧ VRs ρ' vs xs

noncomputable def Tst (c : Cx) (n : Nat) (fd : FD) (e : Expr) (σ : S) (b : Bool) (σ' : S) : Prop :=
  ∀ env A ρ s, Room A n → In c fd σ env ρ s.heap → Run c [env.locals] A ρ s (isTrue e env (eval e env)) fun ρ' h' x => In c fd σ' env ρ' h' ∧ x = b

inductive AF where
  | next | cont | brk | ret (v : AV)
noncomputable def FR (ρ : List Pl) : AF → Flow → Prop
  | .next, f => f = .next
  | .cont, f => f = .cont
  | .brk, f => f = .brk
  | .ret v, f => ∃ x, f = .ret x ∧ VR ρ v x

noncomputable def Ex (c : Cx) (n : Nat) (fd : FD) (st : Stmt) (σ : S) (f : AF) (σ' : S) : Prop :=
  ∀ env A ρ s, Room A n → In c fd σ env ρ s.heap → Run c [env.locals] A ρ s (exec st env) fun ρ' h' x => In c fd σ' env ρ' h' ∧ FR ρ' f x
noncomputable def Exs (c : Cx) (n : Nat) (fd : FD) (sts : List Stmt) (σ : S) (f : AF) (σ' : S) : Prop :=
  ∀ env A ρ s, Room A n → In c fd σ env ρ s.heap → Run c [env.locals] A ρ s (execs sts env) fun ρ' h' x => In c fd σ' env ρ' h' ∧ FR ρ' f x

section
variable {c : Cx} {n : Nat} {fd : FD} {σ σ₁ σ₂ σ₃ : S}

theorem In.op {env : Env} {A : Around} {ρ : List Pl} {s : Shared} {t : Sem Value} {v : AV} {os' : List AO} (x : In c fd σ env ρ s.heap)
    (h : Run c [] A ρ s t fun ρ' h' y => Rel c [] os' ρ' h' ∧ VR ρ' v y) : Run c [env.locals] A ρ s t fun ρ' h' y => In c fd ⟨σ.vs, os'⟩ env ρ' h' ∧ VR ρ' v y :=
  fun Q E hq => h Q E fun y h' tk' ρ' r p => hq y h' tk' ρ' (r.more (by simp)) ⟨x.lift r p.1, p.2⟩
theorem In.tru {env : Env} {A : Around} {ρ : List Pl} {s : Shared} {t : Sem Bool} {b : Bool} (x : In c fd σ env ρ s.heap)
    (h : Run c [] A ρ s t fun ρ' h' y => Rel c [] σ.os ρ' h' ∧ y = b) : Run c [env.locals] A ρ s t fun ρ' h' y => In c fd σ env ρ' h' ∧ y = b :=
  fun Q E hq => h Q E fun y h' tk' ρ' r p => hq y h' tk' ρ' (r.more (by simp)) ⟨x.lift r p.1, p.2⟩

/-! ### plain expressions -/

theorem Ev.int {i : Int} {k pos} : Ev c n fd (.Constant (.int i) k pos) σ (.int i) σ := fun _ _ _ _ _ x =>
  Run.tell (fun _ _ hq => wpAny_Constant_int (hq _)) ⟨x, _, rfl⟩
end

end Mine
end

section
open PySem PySem.W PyProof.Rows
namespace Mine

section
variable {c : Cx} {n : Nat} {fd : FD} {σ σ₁ σ₂ σ₃ : S}

theorem Fre.kindOf {vs : List (Str × AV)} {env : Env} {ρ : List Pl} {h : Heap} (f : Fre fd vs env ρ h) (x : Str) : env.kindOf x = fd.scope.names.lookup x := by
  unfold Env.kindOf; rw [f.scope]

theorem Ev.str {x : Str} {k pos} : Ev c n fd (.Constant (.str x) k pos) σ (.str x) σ := fun _ _ _ _ _ i =>
  Run.tell (fun _ _ hq => wpAny_Constant_str (hq _)) ⟨i, _, rfl⟩
theorem Ev.bool {b : Bool} {k pos} : Ev c n fd (.Constant (.bool b) k pos) σ (.bool b) σ := fun _ _ _ s _ i =>
  Run.tell (fun _ _ hq => wpAny_Constant_bool (hq s.toks)) ⟨i, rfl⟩
theorem Ev.none {k pos} : Ev c n fd (.Constant .none k pos) σ .none σ := fun _ _ _ s _ i =>
  Run.tell (fun _ _ hq => wpAny_Constant_none (hq s.toks)) ⟨i, rfl⟩

theorem Ev.loc {x : Str} {pos} {v : AV} (hv : σ.vs.lookup x = some v) (hl : fd.scope.names.lookup x = some .local := by rfl) (hk : fd.scope.kind = .function := by rfl) (hd : (x == ("__debug__" : Str)) = false := by decide) :
    Ev c n fd (.Name x pos) σ v σ := fun env A ρ s _ i => by
  obtain ⟨m, hn, hm⟩ := i.fre.ns
  obtain ⟨v', h1, h2⟩ := hm x v hv
  exact Run.tell (fun _ _ hq => wpAny_Name (wpAny_loadName_local (by rw [i.fre.scope, hk]) ((i.fre.kindOf x).trans hl) hn h1 (hq s.toks)) hd) ⟨i, h2⟩

theorem In.cell {env : Env} {ρ : List Pl} {h : Heap} (i : In c fd σ env ρ h) {x : Str} {k : Nat} {v : Option AV} (hc : fd.cells.lookup x = some k) (ho : σ.os[k]? = some (.cell v)) :
    ∃ (p : Pl) (v' : Option Value), ρ[k]? = some p ∧ env.cells.lookup x = some p.a ∧ h.IsCell p.a v' ∧ VRo ρ v v' ∧ p.more = [] := by
  obtain ⟨p, h1, h2⟩ := i.fre.cells x k hc
  obtain ⟨p', h3, e, v', h4, h5⟩ := i.rel.objs.get ho
  rw [h1] at h3; cases h3
  exact ⟨p, v', h1, h2, h5, h4, e⟩

theorem Ev.cel {x : Str} {pos} {v : AV} {k : Nat} (hc : fd.cells.lookup x = some k) (ho : σ.os[k]? = some (.cell (some v))) (hl : fd.scope.names.lookup x = some .cell := by rfl) (hk : fd.scope.kind = .function := by rfl) (hd : (x == ("__debug__" : Str)) = false := by decide) :
    Ev c n fd (.Name x pos) σ v σ := fun env A ρ s _ i => by
  obtain ⟨p, v', h1, h2, h3, h4, _⟩ := i.cell hc ho
  cases v' with
  | none => exact h4.elim
  | some v' => exact Run.tell (fun _ _ hq => wpAny_Name (wpAny_loadName_cell (by rw [i.fre.scope, hk]) ((i.fre.kindOf x).trans hl) h2 h3 (hq s.toks)) hd) ⟨i, h4⟩
theorem Ev.free {x : Str} {pos} {v : AV} {k : Nat} (hc : fd.cells.lookup x = some k) (ho : σ.os[k]? = some (.cell (some v))) (hl : fd.scope.names.lookup x = some .free := by rfl) (hk : fd.scope.kind = .function := by rfl) (hd : (x == ("__debug__" : Str)) = false := by decide)
    (hn : (x == ("__classdict__" : Str)) = false := by decide) : Ev c n fd (.Name x pos) σ v σ := fun env A ρ s _ i => by
  obtain ⟨p, v', h1, h2, h3, h4, _⟩ := i.cell hc ho
  cases v' with
  | none => exact h4.elim
  | some v' => exact Run.tell (fun _ _ hq => wpAny_Name (wpAny_loadName_free (by rw [i.fre.scope, hk]) ((i.fre.kindOf x).trans hl) h2 h3 (hq s.toks) hn) hd) ⟨i, h4⟩

theorem In.globals {env : Env} {ρ : List Pl} {h : Heap} (i : In c fd σ env ρ h) : h.Ns env.globals c.mg := by rw [i.fre.glob]; exact c.g.keeps i.rel.keep
theorem In.builtins {env : Env} {ρ : List Pl} {h : Heap} (i : In c fd σ env ρ h) : h.Ns env.builtins c.mb := by rw [i.fre.blt]; exact c.b.keeps i.rel.keep

theorem Ev.glob {x : Str} {pos} {v : Value} {a : AV} (e : nsIn c.K mainGlobals x = some (some v)) (ha : ∀ ρ, VR ρ a v) (hl : fd.scope.names.lookup x = some .globalImplicit := by rfl) (hk : fd.scope.kind = .function := by rfl) (hd : (x == ("__debug__" : Str)) = false := by decide) :
    Ev c n fd (.Name x pos) σ a σ := fun env A ρ s _ i =>
  Run.tell (fun _ _ hq => Calls.Name_function_global (by rw [i.fre.scope, hk]) ((i.fre.kindOf x).trans hl) (Calls.loadGlobal_global i.globals (mg_of c.inK c.g e) (hq s.toks)) hd) ⟨i, ha ρ⟩
theorem Ev.blt {x : Str} {pos} {v : Value} (e : nsIn c.K mainGlobals x = some Option.none) (hv : bootBuiltins x = some v) (hl : fd.scope.names.lookup x = some .globalImplicit := by rfl) (hk : fd.scope.kind = .function := by rfl) (hd : (x == ("__debug__" : Str)) = false := by decide)
    (hx : x ≠ "__name__" := by decide) : Ev c n fd (.Name x pos) σ (.lit v) σ := fun env A ρ s _ i =>
  Run.tell (fun _ _ hq => Calls.Name_function_global (by rw [i.fre.scope, hk]) ((i.fre.kindOf x).trans hl) (Calls.loadGlobal_builtin i.globals (mg_none_of c.inK c.g e) i.builtins ((c.bs x hx).trans hv) (hq s.toks)) hd) ⟨i, rfl⟩

theorem Ev.bin {l r : Expr} {op : Operator} {pos} {a b v : AV} {os : List AO} (h1 : Ev c n fd l σ a σ₁) (h2 : Ev c n fd r σ₁ b σ₂) (h3 : Op2 c n (binaryOp op) a b σ₂.os v os) :
    Ev c n fd (.BinOp l op r pos) σ v ⟨σ₂.vs, os⟩ := fun env A ρ s rm i => by
  rw [eval_BinOp]
  refine Run.bind (h1 env A ρ s rm i) fun x hx tk ρ₁ q₁ p₁ => ?_
  refine Run.bind (Run.holding (h2 env A ρ₁ _ rm p₁.1)) fun y hy tk' ρ₂ q₂ p₂ => ?_
  exact Run.stand (Run.operate (p₂.1.op (h3 A ρ₂ _ x y rm p₂.1.rel.none (p₁.2.reach q₂) p₂.2)))

theorem Ev.cmp {l r : Expr} {op : CmpOp} {pos} {a b v : AV} {os : List AO} (h1 : Ev c n fd l σ a σ₁) (h2 : Ev c n fd r σ₁ b σ₂) (h3 : Op2 c n (compareOp op) a b σ₂.os v os) (hm : behindInMarks op r = false := by with_unfolding_all rfl) :
    Ev c n fd (.Compare l [op] [r] pos) σ v ⟨σ₂.vs, os⟩ := fun env A ρ s rm i => by
  rw [eval_Compare1, markedBehindIn_of_false hm]
  refine Run.bind (h1 env A ρ s rm i) fun x hx tk ρ₁ q₁ p₁ => ?_
  refine Run.bind (Run.holding (h2 env A ρ₁ _ rm p₁.1)) fun y hy tk' ρ₂ q₂ p₂ => ?_
  exact Run.stand (Run.operate (p₂.1.op (h3 A ρ₂ _ x y rm p₂.1.rel.none (p₁.2.reach q₂) p₂.2)))

theorem Tst.cmp {l r : Expr} {op : CmpOp} {pos} {a b : AV} {v : Bool} {os : List AO} (h1 : Ev c n fd l σ a σ₁) (h2 : Ev c n fd r σ₁ b σ₂) (h3 : Op2 c n (compareOp op) a b σ₂.os (.bool v) os) (hm : behindInMarks op r = false := by with_unfolding_all rfl) :
    Tst c n fd (.Compare l [op] [r] pos) σ v ⟨σ₂.vs, os⟩ := fun env A ρ s rm i => by
  rw [isTrue_Compare1, markedBehindIn_of_false hm]
  refine Run.bind (h1 env A ρ s rm i) fun x hx tk ρ₁ q₁ p₁ => ?_
  refine Run.bind (Run.holding (h2 env A ρ₁ _ rm p₁.1)) fun y hy tk' ρ₂ q₂ p₂ => ?_
  refine Run.stand (Run.bind (Run.operate (p₂.1.op (h3 A ρ₂ _ x y rm p₂.1.rel.none (p₁.2.reach q₂) p₂.2))) fun z hz tk₃ ρ₃ q₃ p₃ => ?_)
  obtain ⟨i₃, rfl⟩ := p₃
  exact Run.holding (Run.tell (fun _ _ hq => wpAny_truthy_bool (hq tk₃)) ⟨i₃, rfl⟩)

theorem Tst.val {e : Expr} {a : AV} {b : Bool} (h1 : Ev c n fd e σ a σ₁) (h2 : Tru c n a σ₁.os b) (he : ∀ env whole, isTrue e env whole = (do let v ← whole; standAt e.pos; holding [v] (truthy v)) := by intro _ _; rfl) :
    Tst c n fd e σ b σ₁ := fun env A ρ s rm i => by
  rw [he]
  refine Run.bind (h1 env A ρ s rm i) fun x hx tk ρ₁ q₁ p₁ => ?_
  exact Run.stand (Run.holding (p₁.1.tru (h2 A ρ₁ _ x rm p₁.1.rel.none p₁.2)))

theorem Tst.not {e : Expr} {pos} {b : Bool} (h : Tst c n fd e σ b σ₁) : Tst c n fd (.UnaryOp .Not e pos) σ (!b) σ₁ := fun env A ρ s rm i => by
  rw [arm_isTrue_UnaryOp]
  refine Run.bind (h env A ρ s rm i) fun x hx tk ρ₁ q₁ p₁ => ?_
  obtain ⟨i₁, rfl⟩ := p₁
  exact Run.pure ⟨i₁, rfl⟩

noncomputable def Tsts (c : Cx) (n : Nat) (fd : FD) (op : BoolOp) (es : List Expr) (σ : S) (b : Bool) (σ' : S) : Prop :=
  ∀ env A ρ s, Room A n → In c fd σ env ρ s.heap → Run c [env.locals] A ρ s (allTrue op es env) fun ρ' h' x => In c fd σ' env ρ' h' ∧ x = b
theorem Tst.bop {op : BoolOp} {es : List Expr} {pos} {b : Bool} (h : Tsts c n fd op es σ b σ₁) : Tst c n fd (.BoolOp op es pos) σ b σ₁ := fun env A ρ s rm i => by
  rw [arm_isTrue_BoolOp]; exact h env A ρ s rm i
theorem Tsts.nilAnd : Tsts c n fd .And [] σ true σ := fun _ _ _ _ _ i => Run.pure ⟨i, rfl⟩
theorem Tsts.nilOr : Tsts c n fd .Or [] σ false σ := fun _ _ _ _ _ i => Run.pure ⟨i, rfl⟩
theorem Tsts.and {e : Expr} {es : List Expr} {b b' : Bool} (h1 : Tst c n fd e σ b σ₁) (h2 : b = true → Tsts c n fd .And es σ₁ b' σ₂) (h3 : b = false → b' = false ∧ σ₂ = σ₁) : Tsts c n fd .And (e :: es) σ b' σ₂ := fun env A ρ s rm i => by
  show Run c _ A ρ s (do match BoolOp.And, ← isTrue e env (eval e env) with | .And, false => pure false | .Or, true => pure true | _, _ => allTrue .And es env) _
  refine Run.bind (h1 env A ρ s rm i) fun x hx tk ρ₁ q₁ p₁ => ?_
  obtain ⟨i₁, rfl⟩ := p₁
  cases x with
  | true => exact h2 rfl env A ρ₁ _ rm i₁
  | false => obtain ⟨rfl, rfl⟩ := h3 rfl; exact Run.pure ⟨i₁, rfl⟩
theorem Tsts.or {e : Expr} {es : List Expr} {b b' : Bool} (h1 : Tst c n fd e σ b σ₁) (h2 : b = false → Tsts c n fd .Or es σ₁ b' σ₂) (h3 : b = true → b' = true ∧ σ₂ = σ₁) : Tsts c n fd .Or (e :: es) σ b' σ₂ := fun env A ρ s rm i => by
  show Run c _ A ρ s (do match BoolOp.Or, ← isTrue e env (eval e env) with | .And, false => pure false | .Or, true => pure true | _, _ => allTrue .Or es env) _
  refine Run.bind (h1 env A ρ s rm i) fun x hx tk ρ₁ q₁ p₁ => ?_
  obtain ⟨i₁, rfl⟩ := p₁
  cases x with
  | false => exact h2 rfl env A ρ₁ _ rm i₁
  | true => obtain ⟨rfl, rfl⟩ := h3 rfl; exact Run.pure ⟨i₁, rfl⟩

theorem Ev.ifexp {t b o : Expr} {pos} {z : Bool} {v : AV} (h : Tst c n fd t σ z σ₁) (h1 : z = true → Ev c n fd b σ₁ v σ₂) (h2 : z = false → Ev c n fd o σ₁ v σ₂) : Ev c n fd (.IfExp t b o pos) σ v σ₂ := fun env A ρ s rm i => by
  rw [arm_eval_IfExp]
  refine Run.bind (h env A ρ s rm i) fun x hx tk ρ₁ q₁ p₁ => ?_
  obtain ⟨i₁, rfl⟩ := p₁
  cases x with
  | true => exact h1 rfl env A ρ₁ _ rm i₁
  | false => exact h2 rfl env A ρ₁ _ rm i₁

/-! ### statements -/

theorem Exs.nil : Exs c n fd [] σ .next σ := fun _ _ _ _ _ i => Run.pure ⟨i, rfl⟩
theorem Exs.cons {st : Stmt} {sts : List Stmt} {f : AF} (h1 : Ex c n fd st σ .next σ₁) (h2 : Exs c n fd sts σ₁ f σ₂) : Exs c n fd (st :: sts) σ f σ₂ := fun env A ρ s rm i => by
  rw [execs_cons]
  refine Run.bind (h1 env A ρ s rm i) fun x hx tk ρ₁ q₁ p₁ => ?_
  obtain ⟨i₁, rfl⟩ := p₁
  exact h2 env A ρ₁ _ rm i₁
theorem Exs.out {st : Stmt} {sts : List Stmt} {f : AF} (h1 : Ex c n fd st σ f σ₁) (hf : f ≠ .next) : Exs c n fd (st :: sts) σ f σ₁ := fun env A ρ s rm i => by
  rw [execs_cons]
  refine Run.bind (h1 env A ρ s rm i) fun x hx tk ρ₁ q₁ p₁ => ?_
  obtain ⟨i₁, r₁⟩ := p₁
  cases f with
  | next => exact absurd rfl hf
  | cont => cases r₁; exact Run.pure ⟨i₁, rfl⟩
  | brk => cases r₁; exact Run.pure ⟨i₁, rfl⟩
  | ret v => obtain ⟨y, rfl, hy⟩ := r₁; exact Run.pure ⟨i₁, y, rfl, hy⟩

theorem Ex.ife {t : Expr} {b o : List Stmt} {pos} {z : Bool} {f : AF} (h : Tst c n fd t σ z σ₁) (h1 : z = true → Exs c n fd b σ₁ f σ₂) (h2 : z = false → Exs c n fd o σ₁ f σ₂) : Ex c n fd (.If t b o pos) σ f σ₂ := fun env A ρ s rm i => by
  rw [exec_If]
  refine Run.stand (Run.bind (h env A ρ s rm i) fun x hx tk ρ₁ q₁ p₁ => ?_)
  obtain ⟨i₁, rfl⟩ := p₁
  cases x with
  | true => exact h1 rfl env A ρ₁ _ rm i₁
  | false => exact h2 rfl env A ρ₁ _ rm i₁
theorem Ex.ret {e : Expr} {pos} {v : AV} (h : Ev c n fd e σ v σ₁) : Ex c n fd (.Return (some e) pos) σ (.ret v) σ₁ := fun env A ρ s rm i => by
  rw [exec_Return_some]
  refine Run.stand (Run.bind (h env A ρ s rm i) fun x hx tk ρ₁ q₁ p₁ => Run.pure ⟨p₁.1, x, rfl, p₁.2⟩)
theorem Ex.asrt {t : Expr} {m : Option Expr} {pos} (h : Tst c n fd t σ true σ₁) : Ex c n fd (.Assert t m pos) σ .next σ₁ := fun env A ρ s rm i => by
  rw [arm_exec_Assert]
  refine Run.stand (Run.bind (h env A ρ s rm i) fun x hx tk ρ₁ q₁ p₁ => ?_)
  obtain ⟨i₁, rfl⟩ := p₁
  exact Run.pure ⟨i₁, rfl⟩

/-- a name's new value -/
noncomputable def put (x : Str) (v : AV) (vs : List (Str × AV)) : List (Str × AV) := (x, v) :: vs.filter fun p => !(p.1 == x)
theorem lookup_put (x y : Str) (v : AV) (vs : List (Str × AV)) : (put x v vs).lookup y = if y = x then some v else vs.lookup y := by
  unfold put
  rw [List.lookup_cons]
  by_cases h : y = x
  · subst h; simp
  · have hb : (y == x) = false := beq_eq_false_iff_ne.mpr h
    rw [hb]; simp only [h, if_false]
    induction vs with
    | nil => rfl
    | cons p r ih =>
      obtain ⟨z, w⟩ := p
      by_cases hz : z = x
      · subst hz
        have : (!(z == z)) = false := by simp
        rw [List.filter_cons_of_neg (by simp), List.lookup_cons, hb]; exact ih
      · have hb' : (z == x) = false := beq_eq_false_iff_ne.mpr hz
        rw [List.filter_cons_of_pos (by simp [hb']), List.lookup_cons, List.lookup_cons]
        cases y == z <;> first | rfl | exact ih

/-- storing a name: where a name lies -/
inductive Sto (fd : FD) (x : Str) (v : AV) : S → S → Prop
  | loc {σ : S} (hl : fd.scope.names.lookup x = some .local) : Sto fd x v σ ⟨put x v σ.vs, σ.os⟩
  | cel {σ : S} {k : Nat} {u : Option AV} (hc : fd.cells.lookup x = some k) (ho : σ.os[k]? = some (.cell u)) (hl : fd.scope.names.lookup x = some .cell) : Sto fd x v σ ⟨σ.vs, σ.os.set k (.cell (some v))⟩

theorem Rel.setObj {X : List Addr} {os : List AO} {ρ : List Pl} {h h' : Heap} {k : Nat} {p : Pl} {o : AO} (r : Rel c X os ρ h) (hp : ρ[k]? = some p) (l : ∀ a, a ∉ p.a :: p.more → h'.get? a = h.get? a) (sz : h'.objs.size = h.objs.size) (y : OR c ρ o p h') :
    Rel c X (os.set k o) ρ h' := by
  have nf : ∀ a o, c.hb.get? a = some o → a ∉ p.a :: p.more := fun a o e hm => by
    have := r.fresh a (List.mem_append_right _ (foot_mem_of_get hp a hm))
    rw [this] at e; cases e
  refine ⟨?_, r.nodup, fun a o e => (l a (nf a o e)).trans (r.keep a o e), r.fresh, fun a ha => sz ▸ r.live a ha⟩
  exact r.objs.set (fun a o e => (l a (nf a o e)).trans (r.keep a o e)) hp (List.nodup_append.mp r.nodup).2.1 (fun a ha o e => (l a ha).trans e) y

theorem Sto.run {x : Str} {v : AV} {env : Env} {A : Around} {ρ : List Pl} {s : Shared} {w : Value} (hs : Sto fd x v σ σ₁) (i : In c fd σ env ρ s.heap) (hw : VR ρ v w) (hk : fd.scope.kind = .function) :
    Run c [env.locals] A ρ s (storeName env x w) fun ρ' h' _ => In c fd σ₁ env ρ' h' := by
  cases hs with
  | loc hl =>
    obtain ⟨m, hn, hm⟩ := i.fre.ns
    intro Q E hq
    refine wpAny_storeName_local ((i.fre.kindOf x).trans hl) hn (fun h' hn' hs' => hq () h' _ ρ ⟨⟨[], by simp, by simp [foot]⟩, fun a o e ha => ?_, Nat.le_of_eq hs'.1.symm⟩ ⟨?_, ?_⟩) (by rw [i.fre.scope, hk]; rfl)
    · exact (hs'.2 a (fun e => ha (by subst e; exact List.mem_cons_self))).trans e
    · have nL : ∀ a o, c.hb.get? a = some o → a ≠ env.locals := fun a o e he => by
        have := i.rel.fresh env.locals List.mem_cons_self
        rw [← he, e] at this; cases this
      refine ⟨i.rel.objs.loc (fun a o e => (hs'.2 a (nL a o e)).trans (i.rel.keep a o e)) fun a ha o e => (hs'.2 a fun he => i.notFoot (he ▸ ha)).trans e, i.rel.nodup, fun a o e => (hs'.2 a (nL a o e)).trans (i.rel.keep a o e), i.rel.fresh, fun a ha => hs'.1 ▸ i.rel.live a ha⟩
    · refine ⟨i.fre.scope, i.fre.glob, i.fre.blt, i.fre.cq, i.fre.cells, _, hn', fun y u e => ?_⟩
      rw [lookup_put] at e
      by_cases hy : y = x
      · rw [if_pos hy] at e ⊢; cases e; exact ⟨w, rfl, hw⟩
      · rw [if_neg hy] at e ⊢; exact hm y u e
  | cel hc ho hl =>
    obtain ⟨p, v', h1, h2, h3, h4, h5⟩ := i.cell hc ho
    intro Q E hq
    have hpf : p.a ∈ foot ρ := foot_mem_of_get h1 p.a List.mem_cons_self
    refine wpAny_storeName_cell (by rw [i.fre.scope, hk]) ((i.fre.kindOf x).trans hl) h2 h3 fun h' hc' hs' => hq () h' _ ρ ⟨⟨[], by simp, by simp [foot]⟩, fun a o e ha => ?_, Nat.le_of_eq hs'.1.symm⟩ ⟨?_, ?_⟩
    · exact (hs'.2 a fun e => ha (by subst e; exact List.mem_append_right _ hpf)).trans e
    · refine i.rel.setObj h1 (fun a ha => hs'.2 a fun e => ha (by subst e; exact List.mem_cons_self)) hs'.1 ⟨h5, some w, hw, hc'⟩
    · obtain ⟨m, hn, hm⟩ := i.fre.ns
      exact ⟨i.fre.scope, i.fre.glob, i.fre.blt, i.fre.cq, i.fre.cells, m, hn.sameBut hs' (fun e => i.notFoot (e ▸ hpf)), hm⟩

theorem Run.bindName {x : Str} {w : Value} {env : Env} {X : List Addr} {A : Around} {ρ : List Pl} {s : Shared} {P : List Pl → Heap → Unit → Prop} (h : Run c X A ρ s (storeName env x w) P) : Run c X A ρ s (bindName env x w) P :=
  fun Q E hq => wpAny_bindName (h Q E hq)

theorem Ex.assign {x : Str} {pos' pos} {e : Expr} {v : AV} (h : Ev c n fd e σ v σ₁) (hs : Sto fd x v σ₁ σ₂) (hw : ∀ env, env.scope = fd.scope → swapsWith e (some (.Name x pos')) pos.line env = pure false := by intro _ _; rfl) (hk : fd.scope.kind = .function := by rfl) :
    Ex c n fd (.Assign [.Name x pos'] e pos) σ .next σ₂ := fun env A ρ s rm i => by
  rw [exec_Assign_Name env x pos' e pos (hw env i.fre.scope)]
  refine Run.stand (Run.bind (h env A ρ s rm i) fun y hy tk ρ₁ q₁ p₁ => ?_)
  refine Run.stand (Run.bind (Run.bindName (hs.run p₁.1 p₁.2 hk)) fun _ _ _ ρ₂ q₂ p₂ => Run.pure ⟨p₂, rfl⟩)

theorem Ex.aug {x : Str} {pos' pos} {op : Operator} {e : Expr} {a b v : AV} {os : List AO} (h0 : Ev c n fd (.Name x pos') σ a σ) (h : Ev c n fd e σ b σ₁) (h3 : Op2 c n (inplaceOp op) a b σ₁.os v os) (hs : Sto fd x v ⟨σ₁.vs, os⟩ σ₂) (hd : (x == ("__debug__" : Str)) = false := by decide) (hk : fd.scope.kind = .function := by rfl) :
    Ex c n fd (.AugAssign (.Name x pos') op e pos) σ .next σ₂ := fun env A ρ s rm i => by
  have h0' := h0 env A ρ s rm i
  rw [exec_AugAssign_Name]
  rw [eval_Name env x pos' hd] at h0'
  have : Run c [env.locals] A ρ s ((do PySem.standAt pos'; loadName env x) >>= fun old => do
    let v ← PySem.holding [old] (eval e env)
    PySem.standAt pos
    let new ← PySem.operate [old, v] (inplaceOp op old v)
    PySem.standAt pos'
    bindName env x new
    pure .next) (fun ρ' h' x => In c fd σ₂ env ρ' h' ∧ FR ρ' .next x) := by
    refine Run.bind h0' fun y hy tk ρ₁ q₁ p₁ => ?_
    refine Run.bind (Run.holding (h env A ρ₁ _ rm p₁.1)) fun z hz tk' ρ₂ q₂ p₂ => ?_
    refine Run.stand (Run.bind (Run.operate (p₂.1.op (h3 A ρ₂ _ y z rm p₂.1.rel.none (p₁.2.reach q₂) p₂.2))) fun u hu tk₃ ρ₃ q₃ p₃ => ?_)
    exact Run.stand (Run.bind (Run.bindName (hs.run p₃.1 p₃.2 hk)) fun _ _ _ ρ₄ q₄ p₄ => Run.pure ⟨p₄, rfl⟩)
  exact this
end

end Mine
end

section
open PySem PySem.W PyProof.Rows
namespace Mine

section
variable {c : Cx} {n : Nat}

/-! ### numbers -/

/-- an operation upon values that lie in themselves -/
theorem Op2.pure {t : Value → Value → Sem Value} {a b v : AV} {os : List AO}
    (h : ∀ (A : Around) (s : Shared) (ρ : List Pl) (x y : Value) (Q : Value → Shared → Prop) (E : Value → Shared → Prop), Room A n → VR ρ a x → VR ρ b y → (∀ z tk, VR ρ v z → Q z { s with toks := tk }) → wpAny c.M A (t x y) Q E s) :
    Op2 c n t a b os v os := fun A ρ s x y rm r hx hy Q E hq => h A s ρ x y Q E rm hx hy fun z tk hz => hq z s.heap tk ρ (Reach.refl ..) ⟨r, hz⟩
theorem Op.pure {t : List Value → Sem Value} {as : List AV} {v : AV} {os : List AO}
    (h : ∀ (A : Around) (s : Shared) (ρ : List Pl) (xs : List Value) (Q : Value → Shared → Prop) (E : Value → Shared → Prop), Room A n → VRs ρ as xs → (∀ z tk, VR ρ v z → Q z { s with toks := tk }) → wpAny c.M A (t xs) Q E s) :
    Op c n t as os v os := fun A ρ s xs rm r hx Q E hq => h A s ρ xs Q E rm hx fun z tk hz => hq z s.heap tk ρ (Reach.refl ..) ⟨r, hz⟩

theorem add_i {a b : Int} {os : List AO} : Op2 c n (binaryOp .Add) (.int a) (.int b) os (.int (a + b)) os :=
  Op2.pure fun _ _ _ _ _ _ _ _ hx hy hq => by obtain ⟨t, rfl⟩ := hx; obtain ⟨u, rfl⟩ := hy; exact PyProof.Rows.add_int (hq _ _ ⟨_, rfl⟩)
theorem iadd_i {a b : Int} {os : List AO} : Op2 c n (inplaceOp .Add) (.int a) (.int b) os (.int (a + b)) os :=
  Op2.pure fun _ _ _ _ _ _ _ _ hx hy hq => by obtain ⟨t, rfl⟩ := hx; obtain ⟨u, rfl⟩ := hy; exact wpAny_iadd_int (hq _ _ ⟨_, rfl⟩)
theorem sub_i {a b : Int} {os : List AO} : Op2 c n (binaryOp .Sub) (.int a) (.int b) os (.int (a - b)) os :=
  Op2.pure fun _ _ _ _ _ _ _ _ hx hy hq => by obtain ⟨t, rfl⟩ := hx; obtain ⟨u, rfl⟩ := hy; exact PyProof.Rows.sub_int (hq _ _ ⟨_, rfl⟩)
theorem mod_i {a b : Int} {os : List AO} (hb : b ≠ 0) : Op2 c n (binaryOp .Mod) (.int a) (.int b) os (.int (a.fmod b)) os :=
  Op2.pure fun _ _ _ _ _ _ _ _ hx hy hq => by obtain ⟨t, rfl⟩ := hx; obtain ⟨u, rfl⟩ := hy; exact PyProof.Rows.mod_int hb (hq _ _ ⟨_, rfl⟩)
theorem mul_i {a b : Int} {os : List AO} (hm : IntMulOk a b) : Op2 c n (binaryOp .Mult) (.int a) (.int b) os (.int (a * b)) os :=
  Op2.pure fun _ _ _ _ _ _ _ _ hx hy hq => by obtain ⟨t, rfl⟩ := hx; obtain ⟨u, rfl⟩ := hy; exact PyProof.Rows.mul_int (hq _ _ ⟨_, rfl⟩) hm
theorem eq_i {a b : Int} {os : List AO} : Op2 c n (compareOp .Eq) (.int a) (.int b) os (.bool (a == b)) os :=
  Op2.pure fun _ s _ _ _ _ _ _ hx hy hq => by obtain ⟨t, rfl⟩ := hx; obtain ⟨u, rfl⟩ := hy; exact PyProof.Rows.eq_int (hq _ s.toks rfl)
theorem ne_i {a b : Int} {os : List AO} : Op2 c n (compareOp .NotEq) (.int a) (.int b) os (.bool (a != b)) os :=
  Op2.pure fun _ s _ _ _ _ _ _ hx hy hq => by obtain ⟨t, rfl⟩ := hx; obtain ⟨u, rfl⟩ := hy; exact PyProof.Rows.ne_int (hq _ s.toks rfl)
theorem lt_i {a b : Int} {os : List AO} : Op2 c n (compareOp .Lt) (.int a) (.int b) os (.bool (decide (a < b))) os :=
  Op2.pure fun _ s _ _ _ _ _ _ hx hy hq => by obtain ⟨t, rfl⟩ := hx; obtain ⟨u, rfl⟩ := hy; exact PyProof.Rows.lt_int (hq _ s.toks rfl)
theorem gt_i {a b : Int} {os : List AO} : Op2 c n (compareOp .Gt) (.int a) (.int b) os (.bool (decide (b < a))) os :=
  Op2.pure fun _ s _ _ _ _ _ _ hx hy hq => by obtain ⟨t, rfl⟩ := hx; obtain ⟨u, rfl⟩ := hy; exact PyProof.Rows.gt_int (hq _ s.toks rfl)
theorem ge_i {a b : Int} {os : List AO} : Op2 c n (compareOp .GtE) (.int a) (.int b) os (.bool (decide (b ≤ a))) os :=
  Op2.pure fun _ s _ _ _ _ _ _ hx hy hq => by obtain ⟨t, rfl⟩ := hx; obtain ⟨u, rfl⟩ := hy; exact PyProof.Rows.ge_int (hq _ s.toks rfl)
theorem eq_b {a b : Bool} {os : List AO} : Op2 c n (compareOp .Eq) (.bool a) (.bool b) os (.bool (a == b)) os :=
  Op2.pure fun _ s _ _ _ _ _ _ hx hy hq => by cases hx; cases hy; exact PyProof.Rows.eq_bool (hq _ s.toks rfl)

/-! ### texts -/
theorem add_s {x y : Str} {os : List AO} (hz : x.length + y.length ≤ sizeLine) : Op2 c n (binaryOp .Add) (.str x) (.str y) os (.str (x ++ y)) os :=
  Op2.pure fun _ _ _ _ _ _ _ _ hx hy hq => by obtain ⟨t, rfl⟩ := hx; obtain ⟨u, rfl⟩ := hy; exact SBL.add (fun t' k _ => hq _ k ⟨t', rfl⟩) hz
theorem iadd_s {x y : Str} {os : List AO} (hz : x.length + y.length ≤ sizeLine) : Op2 c n (inplaceOp .Add) (.str x) (.str y) os (.str (x ++ y)) os :=
  Op2.pure fun _ _ _ _ _ _ _ _ hx hy hq => by obtain ⟨t, rfl⟩ := hx; obtain ⟨u, rfl⟩ := hy; exact SBL.iadd (fun t' k _ => hq _ k ⟨t', rfl⟩) hz
theorem str_beq (x y : Str) : (x.cps.toList == y.cps.toList) = (x == y) := by
  rw [Bool.eq_iff_iff, beq_iff_eq, beq_iff_eq]
  constructor
  · intro h; exact Str.ext' (Array.toList_inj.mp h)
  · rintro rfl; rfl
theorem eq_s {x y : Str} {os : List AO} : Op2 c n (compareOp .Eq) (.str x) (.str y) os (.bool (x == y)) os :=
  Op2.pure fun _ s _ _ _ _ _ _ hx hy hq => by obtain ⟨t, rfl⟩ := hx; obtain ⟨u, rfl⟩ := hy; exact P.eq_str (hq _ s.toks (by rw [str_beq]; rfl))
theorem ne_s {x y : Str} {os : List AO} : Op2 c n (compareOp .NotEq) (.str x) (.str y) os (.bool (x != y)) os :=
  Op2.pure fun _ s _ _ _ _ _ _ hx hy hq => by obtain ⟨t, rfl⟩ := hx; obtain ⟨u, rfl⟩ := hy; exact P.ne_str (hq _ s.toks (by show Value.bool (!(_ == _)) = Value.bool (!(_ == _)); rw [str_beq]))
/-- y in x -/
noncomputable def inS (x y : Str) : Bool := !(Builtin.Str.occurrences x y 0 x.length 1).isEmpty
theorem in_s {x y : Str} {os : List AO} : Op2 c n (compareOp .In) (.str y) (.str x) os (.bool (inS x y)) os :=
  Op2.pure fun _ s _ _ _ _ _ _ hx hy hq => by obtain ⟨t, rfl⟩ := hx; obtain ⟨u, rfl⟩ := hy; exact P.in_str (hq _ s.toks rfl)
theorem notin_s {x y : Str} {os : List AO} : Op2 c n (compareOp .NotIn) (.str y) (.str x) os (.bool (!inS x y)) os :=
  Op2.pure fun _ s _ _ _ _ _ _ hx hy hq => by obtain ⟨t, rfl⟩ := hx; obtain ⟨u, rfl⟩ := hy; exact P.notIn_str (hq _ s.toks rfl)
theorem tru_s {x : Str} {os : List AO} (hz : x.length ≤ sizeLine) : Tru c n (.str x) os (x.length != 0) := fun A ρ s v rm r hv Q E hq => by
  obtain ⟨t, rfl⟩ := hv
  refine SBL.truthy (by rw [sizeLine_eq] at hz; omega) (hq _ s.heap _ ρ (Reach.refl ..) ⟨r, ?_⟩)
  show (!((x.length : Int) == 0)) = !(x.length == 0)
  congr 1
  rw [Bool.eq_iff_iff, beq_iff_eq, beq_iff_eq]; omega
theorem tru_b {b : Bool} {os : List AO} : Tru c n (.bool b) os b := fun A ρ s v rm r hv Q E hq => by
  cases hv; exact wpAny_truthy_bool (hq _ s.heap s.toks ρ (Reach.refl ..) ⟨r, rfl⟩)
theorem len_s {x : Str} {os : List AO} (hz : x.length ≤ sizeLine) : CallR c n (.builtin "len") [.str x] os (.int x.length) os :=
  Op.pure fun _ _ _ xs _ _ _ hx hq => by
    obtain ⟨_, rfl, ⟨t, rfl⟩⟩ := VRs.d1 hx
    exact SBL.len (by rw [sizeLine_eq] at hz; omega) (hq _ _ ⟨_, rfl⟩)
theorem count_s {x y : Str} {os : List AO} : CallR c n (.builtin "str.count") [.str x, .str y] os (.int (Txt.count x y)) os :=
  Op.pure fun _ _ _ xs _ _ _ hx hq => by
    obtain ⟨_, _, rfl, ⟨t, rfl⟩, ⟨u, rfl⟩⟩ := VRs.d2 hx
    exact SC.count (hq _ _ ⟨_, rfl⟩)
/-! ### objects: making one, turning one -/

theorem Rel.alloc {X : List Addr} {os : List AO} {ρ : List Pl} {h : Heap} {o : AO} {ob : Obj} (r : Rel c X os ρ h)
    (y : OR c (ρ ++ [⟨h.objs.size, []⟩]) o ⟨h.objs.size, []⟩ (h.push ob)) : Rel c X (os ++ [o]) (ρ ++ [⟨h.objs.size, []⟩]) (h.push ob) := by
  have k : ∀ b o, h.get? b = some o → (h.push ob).get? b = some o := fun b o e => Heap.get?_push_of_some _ e
  have kb : Keeps c.hb (h.push ob) := fun b o e => k b o (r.keep b o e)
  have ff : foot (ρ ++ [⟨h.objs.size, []⟩]) = foot ρ ++ [h.objs.size] := by rw [foot_append]; rfl
  have nb : c.hb.get? h.objs.size = Option.none := by
    cases e : c.hb.get? h.objs.size with
    | none => rfl
    | some o => exact absurd (Heap.lt_size (r.keep _ _ e)) (Nat.lt_irrefl _)
  refine ⟨((r.objs.mono [⟨h.objs.size, []⟩]).loc kb fun a _ o e => k a o e).append ⟨y, trivial⟩, ?_, kb, fun a ha => ?_, fun a ha => ?_⟩
  · rw [ff, ← List.append_assoc]
    refine List.nodup_append.mpr ⟨r.nodup, by simp, fun a ha b hb e => ?_⟩
    simp at hb; subst hb
    exact absurd (r.live a ha) (by rw [e]; exact Nat.lt_irrefl _)
  · rw [ff, ← List.append_assoc] at ha
    rcases List.mem_append.mp ha with ha | ha
    · exact r.fresh a ha
    · simp at ha; subst ha; exact nb
  · rw [ff, ← List.append_assoc] at ha
    rw [Heap.size_push]
    rcases List.mem_append.mp ha with ha | ha
    · exact Nat.lt_succ_of_lt (r.live a ha)
    · simp at ha; subst ha; exact Nat.lt_succ_self _
theorem Reach.alloc (ρ : List Pl) (h : Heap) (ob : Obj) : Reach [] ρ h (ρ ++ [⟨h.objs.size, []⟩]) (h.push ob) :=
  ⟨⟨[⟨h.objs.size, []⟩], rfl, fun a ha => by simp [foot] at ha; exact Nat.le_of_eq ha.symm⟩, fun a o e _ => Heap.get?_push_of_some _ e, by rw [Heap.size_push]; exact Nat.le_succ _⟩
/-- an object that is let lie -/
theorem Rel.waste {X : List Addr} {os : List AO} {ρ : List Pl} {h : Heap} (ob : Obj) (r : Rel c X os ρ h) : Rel c X os ρ (h.push ob) := by
  have k : ∀ b o, h.get? b = some o → (h.push ob).get? b = some o := fun b o e => Heap.get?_push_of_some _ e
  have kb : Keeps c.hb (h.push ob) := fun b o e => k b o (r.keep b o e)
  exact ⟨r.objs.loc kb fun a _ o e => k a o e, r.nodup, kb, r.fresh, fun a ha => by rw [Heap.size_push]; exact Nat.lt_succ_of_lt (r.live a ha)⟩
theorem Reach.waste (X : List Addr) (ρ : List Pl) (h : Heap) (ob : Obj) : Reach X ρ h ρ (h.push ob) :=
  ⟨⟨[], by simp, by simp [foot]⟩, fun a o e _ => Heap.get?_push_of_some _ e, by rw [Heap.size_push]; exact Nat.le_succ _⟩
/-- the heap grew by things of no one -/
theorem Rel.keeps {X : List Addr} {os : List AO} {ρ : List Pl} {h h' : Heap} (r : Rel c X os ρ h) (k : Keeps h h') (sz : h.objs.size ≤ h'.objs.size) : Rel c X os ρ h' :=
  ⟨r.objs.loc (fun b o e => k b o (r.keep b o e)) fun a _ o e => k a o e, r.nodup, fun b o e => k b o (r.keep b o e), r.fresh, fun a ha => Nat.lt_of_lt_of_le (r.live a ha) sz⟩
theorem Reach.keeps (X : List Addr) (ρ : List Pl) {h h' : Heap} (k : Keeps h h') (sz : h.objs.size ≤ h'.objs.size) : Reach X ρ h ρ h' :=
  ⟨⟨[], by simp, by simp [foot]⟩, fun a o e _ => k a o e, sz⟩

theorem Rel.newList {X : List Addr} {os : List AO} {ρ : List Pl} {h : Heap} {xs : List AV} {vs : List Value} {k : Nat} (r : Rel c X os ρ h) (hv : VRs ρ xs vs) :
    Rel c X (os ++ [.list xs]) (ρ ++ [⟨h.objs.size, []⟩]) (h.push { cls := .type "list", data := .seq vs.toArray k }) :=
  r.alloc ⟨rfl, vs, hv.mono _, k, Heap.get?_push_size _ rfl⟩
theorem Rel.newTup {X : List Addr} {os : List AO} {ρ : List Pl} {h : Heap} {xs : List AV} {vs : List Value} {k : Nat} (r : Rel c X os ρ h) (hv : VRs ρ xs vs) :
    Rel c X (os ++ [.tup xs]) (ρ ++ [⟨h.objs.size, []⟩]) (h.push { cls := .type "tuple", data := .seq vs.toArray k }) :=
  r.alloc ⟨rfl, vs, hv.mono _, k, Heap.get?_push_size _ rfl⟩
theorem VR.new {ρ : List Pl} {h : Heap} {os : List AO} {X : List Addr} (r : Rel c X os ρ h) : VR (ρ ++ [⟨h.objs.size, []⟩]) (.ref os.length) (.ref h.objs.size) :=
  ⟨⟨h.objs.size, []⟩, by rw [r.objs.length]; simp, rfl⟩

theorem Rel.list {X : List Addr} {os : List AO} {ρ : List Pl} {h : Heap} {i : Nat} {xs : List AV} {v : Value} (r : Rel c X os ρ h) (ho : os[i]? = some (.list xs)) (hv : VR ρ (.ref i) v) :
    ∃ p vs, ρ[i]? = some p ∧ p.more = [] ∧ v = .ref p.a ∧ VRs ρ xs vs ∧ LL h p.a vs.toArray := by
  obtain ⟨p, hp, rfl⟩ := hv
  obtain ⟨p', hp', e, vs, h1, h2⟩ := r.objs.get ho
  rw [hp] at hp'; cases hp'
  exact ⟨p, vs, hp, e, rfl, h1, h2⟩
theorem Rel.tup {X : List Addr} {os : List AO} {ρ : List Pl} {h : Heap} {i : Nat} {xs : List AV} {v : Value} (r : Rel c X os ρ h) (ho : os[i]? = some (.tup xs)) (hv : VR ρ (.ref i) v) :
    ∃ p vs, ρ[i]? = some p ∧ p.more = [] ∧ v = .ref p.a ∧ VRs ρ xs vs ∧ TT h p.a vs.toArray := by
  obtain ⟨p, hp, rfl⟩ := hv
  obtain ⟨p', hp', e, vs, h1, h2⟩ := r.objs.get ho
  rw [hp] at hp'; cases hp'
  exact ⟨p, vs, hp, e, rfl, h1, h2⟩

/-- a list turned -/
theorem Rel.setList {X : List Addr} {os : List AO} {ρ : List Pl} {h h' : Heap} {i : Nat} {p : Pl} {xs : List AV} {vs : List Value} (r : Rel c X os ρ h) (hp : ρ[i]? = some p) (hm : p.more = []) (hl : LL h' p.a vs.toArray) (hs : Heap.SameBut p.a h h') (hv : VRs ρ xs vs) :
    Rel c X (os.set i (.list xs)) ρ h' := r.setObj hp (fun a ha => hs.2 a fun e => ha (by subst e; exact List.mem_cons_self)) hs.1 ⟨hm, vs, hv, hl⟩
theorem Reach.set {ρ : List Pl} {h h' : Heap} {i : Nat} {p : Pl} (hp : ρ[i]? = some p) (hs : Heap.SameBut p.a h h') : Reach [] ρ h ρ h' :=
  ⟨⟨[], by simp, by simp [foot]⟩, fun a o e ha => (hs.2 a fun q => ha (by subst q; exact foot_mem_of_get hp _ List.mem_cons_self)).trans e, Nat.le_of_eq hs.1.symm⟩

theorem append_ll {A : Around} {E : Value → Shared → Prop} {s : Shared} {l : Addr} {its : Array Value} {x : Value} {Q : Value → Shared → Prop} (hl : LL s.heap l its) (hQ : ∀ h', LL h' l (its.push x) → Heap.SameBut l s.heap h' → Q .none { s with heap := h' }) (hsz : its.size ≤ sizeLine) :
    wpAny c.M A (call (.builtin "list.append") [.ref l, x]) Q E s := by
  obtain ⟨n, ho⟩ := id hl
  refine wpAny_call_entry slot_list_append hl.isList.typeIs entry_list_append ?_ (args_list_append _ _)
  show wpAny _ _ (updateSeq l (·.push x) >>= fun _ => ret .none) _ _ s
  refine wpAny_bind ?_
  exact wpAny_updateSeq ho rfl (wpAny_pure ⟨.none, rfl, hQ _ ⟨_, Heap.get?_update_self _ ho rfl⟩ (Heap.SameBut.update ..)⟩)

theorem append_l {os : List AO} {i : Nat} {xs : List AV} {v : AV} (ho : os[i]? = some (.list xs)) (hz : xs.length ≤ sizeLine) :
    CallR c n (.builtin "list.append") [.ref i, v] os .none (os.set i (.list (xs ++ [v]))) := fun A ρ s zs rm r hx Q E hq => by
  obtain ⟨a, b, rfl, ha, hb⟩ := VRs.d2 hx
  obtain ⟨p, vs, hp, hm, rfl, hvs, hl⟩ := r.list ho ha
  refine append_ll hl (fun h' hl' hs => hq _ h' s.toks ρ (Reach.set hp hs) ⟨r.setList hp hm ?_ hs (hvs.append (ws := [b]) ⟨hb, trivial⟩), rfl⟩) (by rw [List.size_toArray, ← hvs.length]; exact hz)
  simpa using hl'
end
end Mine
end

section
open PySem PySem.W PyProof.Rows
set_option linter.unusedVariables false
namespace Mine

section
variable {c : Cx} {n : Nat} {fd : FD} {σ σ₁ σ₂ σ₃ : S} {X : List Addr} {A : Around} {ρ : List Pl} {s : Shared}

theorem Run.wp {α : Type} {t : Sem α} {P : List Pl → Heap → α → Prop}
    (h : ∀ Q E, (∀ x h' tk' ρ', (s.heap.objs.size ≤ h'.objs.size → Reach X ρ s.heap ρ' h' ∧ P ρ' h' x) → ∀ {dr : Drawn}, Q x { s with heap := h', toks := tk', drawn := dr }) → wpAny c.M A t Q E s) : Run c X A ρ s t P :=
  fun Q E hq => wpAny_size (h _ _ fun x h' tk' ρ' k => fun sz => hq x h' tk' ρ' (k sz).1 (k sz).2)

/-! ### arguments -/
theorem Evs.nil : Evs c n fd [] σ [] σ := fun _ _ _ _ _ _ i => Run.pure ⟨i, trivial⟩
theorem Evs.cons {e : Expr} {es : List Expr} {v : AV} {vs : List AV} (h1 : Ev c n fd e σ v σ₁) (h2 : Evs c n fd es σ₁ vs σ₂)
    (he : ∀ env, starEach (e :: es) env = (false, eval e env) :: starEach es env := by intro _; rfl) : Evs c n fd (e :: es) σ (v :: vs) σ₂ := fun pos env A ρ s rm i => by
  rw [he]
  show Run c _ A ρ s (do
    let v ← eval e env
    let here ← (Pure.pure [v] : Sem (List Value))
    return here ++ (← PySem.holding here (spliced (backTo pos (starEach es env))))) _
  refine Run.bind (h1 env A ρ s rm i) fun x hx tk ρ₁ q₁ p₁ => ?_
  refine Run.bind (P := fun ρ' h' l => l = [x] ∧ In c fd σ₁ env ρ' h' ∧ VR ρ' v x) (Run.pure ⟨rfl, p₁⟩) fun l hl tk₂ ρ₂ q₂ p₂ => ?_
  obtain ⟨rfl, i₂, hv⟩ := p₂
  refine Run.bind (Run.holding (h2 pos env A ρ₂ _ rm i₂)) fun xs hxs tk₃ ρ₃ q₃ p₃ => Run.pure ⟨p₃.1, hv.reach q₃, p₃.2⟩

theorem Run.evalArgs0 {f : Value} {P : List Pl → Heap → List Value → Prop} (h : Run c X A ρ s (spliced []) P) :
    Run c X A ρ s (PySem.evalArgs f true [] []) fun ρ' h' a => ∃ vs, a = ⟨vs, []⟩ ∧ P ρ' h' vs := fun Q E hq => by
  unfold PySem.evalArgs
  show wpAny c.M A (spliced [] >>= _) Q E s
  refine wpAny_bind (h _ _ fun vs h' tk' ρ' r p => ?_)
  refine wpAny_bind (wpAny_pure ?_)
  refine wpAny_holding ?_
  exact wpAny_bind (wpAny_pure (wpAny_bind (wpAny_pure (wpAny_pure (hq _ h' tk' ρ' r ⟨vs, rfl, p⟩)))))
theorem Run.evalArgs1 {f : Value} {x : Sem Value} {rest : List (Bool × Sem Value)} {P : List Pl → Heap → List Value → Prop} (h : Run c X A ρ s (spliced ((false, x) :: rest)) P) :
    Run c X A ρ s (PySem.evalArgs f true ((false, x) :: rest) []) fun ρ' h' a => ∃ vs, a = ⟨vs, []⟩ ∧ P ρ' h' vs :=
  fun Q E hq => Calls.evalArgs_plain (h _ E fun vs h' tk' ρ' r p => hq _ h' tk' ρ' r ⟨vs, rfl, p⟩)

/-- the arguments of a call: none, or the first one plain -/
inductive Plain1 : List Expr → Prop
  | nil : Plain1 []
  | cons {e : Expr} {es : List Expr} (h : ∀ env, starEach (e :: es) env = (false, eval e env) :: starEach es env) : Plain1 (e :: es)

theorem Evs.args {es : List Expr} {vs : List AV} {f : Value} {pos : Pos} {env : Env} (h : Evs c n fd es σ vs σ₁) (hp : Plain1 es) (rm : Room A n) (i : In c fd σ env ρ s.heap) :
    Run c [env.locals] A ρ s (PySem.evalArgs f true (backTo pos (starEach es env)) []) fun ρ' h' a => ∃ xs, a = ⟨xs, []⟩ ∧ In c fd σ₁ env ρ' h' ∧ VRs ρ' vs xs := by
  have h' := h pos env A ρ s rm i
  cases hp with
  | nil => exact Run.evalArgs0 h'
  | cons he =>
    rw [he] at h' ⊢
    exact Run.evalArgs1 h'

/-- what is called -/
inductive Callee (c : Cx) : Value → Prop
  | bi (id : String) : Callee c (.builtin id)
  | ty (T : String) : Callee c (.type T)
  | fn {a : Addr} {o : Obj} {d : FuncData} (h : c.hb.get? a = some o) (e : o.data = .func d) : Callee c (.ref a)
  | kp {f : Value} (h : keepIn c.K f = true) : Callee c f

theorem Run.callWith {pos : Pos} {f : Value} {first : List Value} {args : List (Bool × Sem Value)} {P : List Pl → Heap → List Value → Prop} {P' : List Pl → Heap → Value → Prop} (hc : Callee c f) (hs : args.any (·.1) = true → ∃ a o d, f = .ref a ∧ c.hb.get? a = some o ∧ o.data = .func d)
    (h : Run c X A ρ s (PySem.evalArgs f true args []) fun ρ' h' a => ∃ vs, a = ⟨vs, []⟩ ∧ P ρ' h' vs) (hk : ∀ ρ' h' vs, P ρ' h' vs → Keeps c.hb h')
    (k : ∀ vs h₁ tk ρ₁, Reach X ρ s.heap ρ₁ h₁ → P ρ₁ h₁ vs → ∀ {dr : Drawn}, Run c X A ρ₁ { s with heap := h₁, toks := tk, drawn := dr } (call f (first ++ vs)) P') : Run c X A ρ s (PySem.callWith pos f first args []) P' := by
  have body : ∀ (Q : Value → Shared → Prop) (E : Value → Shared → Prop), (∀ x h' tk' ρ', Reach X ρ s.heap ρ' h' → P' ρ' h' x → ∀ {dr : Drawn}, Q x { s with heap := h', toks := tk', drawn := dr }) →
      ∀ vs h₁ tk ρ₁, Reach X ρ s.heap ρ₁ h₁ → P ρ₁ h₁ vs → ∀ {dr : Drawn}, wpAny c.M A (call f (first ++ vs)) Q E { s with heap := h₁, toks := tk, drawn := dr } :=
    fun Q E hq vs h₁ tk ρ₁ r p => k vs h₁ tk ρ₁ r p Q E fun y h₂ tk₂ ρ₂ r₂ p₂ => hq y h₂ tk₂ ρ₂ (r.trans r₂) p₂
  intro Q E hq
  cases hc with
  | bi id =>
    have hp : args.any (·.1) = false := by cases e : args.any (·.1) <;> first | rfl | (obtain ⟨a, o, d, h, _⟩ := hs e; cases h)
    exact Calls.callWith_builtin hp (h _ E fun a h₁ tk ρ₁ r p => by obtain ⟨vs, rfl, p⟩ := p; exact body Q E hq vs h₁ tk ρ₁ r p)
  | ty T =>
    have hp : args.any (·.1) = false := by cases e : args.any (·.1) <;> first | rfl | (obtain ⟨a, o, d, h, _⟩ := hs e; cases h)
    exact PySem.callWith_type hp (h _ E fun a h₁ tk ρ₁ r p => by obtain ⟨vs, rfl, p⟩ := p; exact body Q E hq vs h₁ tk ρ₁ r p)
  | fn ho hd =>
    exact Calls.callWith_function (h _ E fun a h₁ tk ρ₁ r p => by obtain ⟨vs, rfl, p⟩ := p; exact ⟨⟨hk _ _ _ p _ _ ho, hd⟩, body Q E hq vs h₁ tk ρ₁ r p⟩)
  | kp hf =>
    cases e : args.any (·.1) with
    | false => exact callWith_of (P := fun h => c.K.In h) (by rw [e]; rfl) (fun h X => keeps_K hf h X) (h _ E fun a h₁ tk ρ₁ r p => by obtain ⟨vs, rfl, p⟩ := p; exact ⟨c.inK.keeps (hk _ _ _ p), body Q E hq vs h₁ tk ρ₁ r p⟩)
    | true =>
      obtain ⟨a, o, d, rfl, ho, hd⟩ := hs e
      exact Calls.callWith_function (h _ E fun a h₁ tk ρ₁ r p => by obtain ⟨vs, rfl, p⟩ := p; exact ⟨⟨hk _ _ _ p _ _ ho, hd⟩, body Q E hq vs h₁ tk ρ₁ r p⟩)

theorem starAny {es : List Expr} {pos : Pos} {env : Env} (h : ∀ env, (starEach es env).any (·.1) = false) : (backTo pos (starEach es env)).any (·.1) = false := by
  have := h env
  unfold backTo
  rw [List.any_map]
  exact this

/-- f(..): a name that is called -/
theorem Ev.call {x : Str} {p pos : Pos} {es : List Expr} {f : Value} {vs : List AV} {v : AV} {os : List AO} (h0 : Ev c n fd (.Name x p) σ (.lit f) σ₁) (h1 : Evs c n fd es σ₁ vs σ₂) (hc : Callee c f) (h2 : CallR c n f vs σ₂.os v os)
    (hp : Plain1 es) (hs : (∀ env, (starEach es env).any (·.1) = false) ∨ ∃ a o d, f = .ref a ∧ c.hb.get? a = some o ∧ o.data = .func d) : Ev c n fd (.Call (.Name x p) es [] pos) σ v ⟨σ₂.vs, os⟩ := fun env A ρ s rm i => by
  rw [arm_eval_Call_Name']
  refine Run.bind (h0 env A ρ s rm i) fun g hg tk ρ₁ q₁ p₁ => ?_
  obtain ⟨i₁, rfl⟩ := p₁
  refine Run.callWith (P := fun ρ' h' xs => In c fd σ₂ env ρ' h' ∧ VRs ρ' vs xs) hc (fun e => ?_) (h1.args hp rm i₁) (fun _ _ _ p => p.1.rel.keep) fun xs h₁ tk₂ ρ₂ q₂ p₂ => p₂.1.op (h2 A ρ₂ _ xs rm p₂.1.rel.none p₂.2)
  rcases hs with hs | hs
  · rw [starAny hs] at e; cases e
  · exact hs

/-- how a method is found: the function, the object ahead of the arguments -/
noncomputable def Mth (c : Cx) (n : Nat) (a : AV) (name : Str) (os : List AO) (f : Value) : Prop :=
  ∀ A ρ s x pl, Room A n → Rel c [] os ρ s.heap → VR ρ a x → Run c [] A ρ s (getMethod x name pl) fun ρ' h' r => Rel c [] os ρ' h' ∧ r = (f, [x])

theorem In.mth {env : Env} {t : Sem (Value × List Value)} {r : Value × List Value} (x : In c fd σ env ρ s.heap)
    (h : Run c [] A ρ s t fun ρ' h' y => Rel c [] σ.os ρ' h' ∧ y = r) : Run c [env.locals] A ρ s t fun ρ' h' y => In c fd σ env ρ' h' ∧ y = r :=
  fun Q E hq => h Q E fun y h' tk' ρ' r p => hq y h' tk' ρ' (r.more (by simp)) ⟨x.lift r p.1, p.2⟩

/-- o.name(..) -/
theorem Ev.meth {o : Expr} {name : Str} {apos pos : Pos} {es : List Expr} {f : Value} {a : AV} {vs : List AV} {v : AV} {os : List AO} (h0 : Ev c n fd o σ a σ₁) (hm : Mth c n a name σ₁.os f) (h1 : Evs c n fd es σ₁ vs σ₂) (hc : Callee c f) (h2 : CallR c n f (a :: vs) σ₂.os v os)
    (hp : Plain1 es) (hs : ∀ env, (starEach es env).any (·.1) = false) (hline : (apos.endLine == pos.line) = true) (hfew : es.length < 30)
    (hbase : ∀ env, attributeBase o name env (eval o env) = eval o env) : Ev c n fd (.Call (.Attribute o name apos) es [] pos) σ v ⟨σ₂.vs, os⟩ := fun env A ρ s rm i => by
  rw [arm_eval_Call, hbase]
  refine Run.bind (h0 env A ρ s rm i) fun x hx tk ρ₁ q₁ p₁ => ?_
  refine Run.stand ?_
  have hform : methodCallForm (es.length + ([] : List Keyword).length) (backTo pos (starEach es env)) (backToKw pos (keywordEach [] env)) = true := by
    unfold methodCallForm
    have h1 : (backTo pos (starEach es env)).all (fun x => !x.1) = true := by
      have := starAny (pos := pos) (env := env) hs
      rw [List.all_eq_true]; intro y hy
      have := List.any_eq_false.mp this y hy
      simpa using this
    rw [h1]
    show (true && true && decide (es.length + 0 + (if ([] : List (Option Str × Sem Value)).isEmpty then 0 else 1) < 30)) = true
    simpa using hfew
  have hpos : methodCallPos true o env apos pos = Pure.pure pos := by unfold methodCallPos; simp [hline]
  unfold methodCall
  rw [hform]
  refine Run.bind (Run.holding (p₁.1.mth (hm A ρ₁ _ x _ rm p₁.1.rel.none p₁.2))) fun r hr tk₂ ρ₂ q₂ p₂ => ?_
  obtain ⟨i₂, rfl⟩ := p₂
  refine Run.bind (P := fun ρ' h' q => q = pos ∧ In c fd σ₁ env ρ' h' ∧ VR ρ' a x) (Run.of_eq hpos (Run.pure ⟨rfl, i₂, p₁.2.reach q₂⟩)) fun q hq tk₃ ρ₃ q₃ p₃ => ?_
  obtain ⟨rfl, i₃, ha⟩ := p₃
  refine Run.callWith (P := fun ρ' h' xs => (In c fd σ₂ env ρ' h' ∧ VRs ρ' vs xs) ∧ VR ρ' a x) hc (fun e => ?_) ?_ (fun _ _ _ p => p.1.1.rel.keep) fun xs h₁ tk₂ ρ₂ q₂ p₂ => p₂.1.1.op (h2 A ρ₂ _ (x :: xs) rm p₂.1.1.rel.none ⟨p₂.2, p₂.1.2⟩)
  · rw [starAny hs] at e; cases e
  · exact (h1.args hp rm i₃).mono fun a' h' ρ' q' ⟨xs, e, p⟩ => ⟨xs, e, p, ha.reach q'⟩
end
end Mine
end

section
open PySem PySem.W PyProof.Rows
set_option linter.unusedVariables false
namespace Mine

section
variable {c : Cx} {n : Nat} {fd : FD} {σ σ₁ σ₂ σ₃ : S} {X : List Addr} {A : Around} {ρ : List Pl} {s : Shared}

/-! ### leaving objects behind -/

/-- the first k objects alone -/
theorem ORs.take {ρ' : List Pl} {h : Heap} (k : Nat) : ∀ {os : List AO} {ps : List Pl}, ORs c ρ' os ps h → ORs c ρ' (os.take k) (ps.take k) h := by
  induction k with
  | zero => intro os ps _; simp; exact trivial
  | succ k ih =>
    intro os ps x
    cases os <;> cases ps <;> first | exact x.elim | exact trivial | exact ⟨x.1, ih x.2⟩

theorem Rel.cut {os os₁ : List AO} {ρ ρ₁ : List Pl} {h : Heap} (r : Rel c X (os ++ os₁) (ρ ++ ρ₁) h) (hl : os.length = ρ.length) (hr : ∀ o ∈ os, ∀ i ∈ o.refs, i < ρ.length) : Rel c X os ρ h := by
  have ho := r.objs.take os.length
  rw [List.take_left, hl, List.take_left] at ho
  have hf := foot_append ρ ρ₁
  refine ⟨ho.ext fun o hm i hi p hp => ?_, ?_, r.keep, fun a ha => r.fresh a ?_, fun a ha => r.live a ?_⟩
  · rw [List.getElem?_append_left (hr o hm i hi)] at hp; exact hp
  · have := r.nodup
    rw [hf, ← List.append_assoc] at this
    exact (List.nodup_append.mp this).1
  · rw [hf, ← List.append_assoc]; exact List.mem_append_left _ ha
  · rw [hf, ← List.append_assoc]; exact List.mem_append_left _ ha

theorem foot_pick {ρ : List Pl} {j : Nat} {p : Pl} (h : ρ[j]? = some p) : (p.a :: p.more).Sublist (foot ρ) := by
  induction ρ generalizing j with
  | nil => simp at h
  | cons q r ih =>
    cases j with
    | zero => simp at h; subst h; exact List.sublist_append_left _ _
    | succ j => simp at h; exact (ih h).trans (List.sublist_append_right _ _)

/-- the first objects, and one of those behind them -/
theorem Rel.pick {os os₁ : List AO} {ρ ρ₁ : List Pl} {h : Heap} {j : Nat} {o : AO} (r : Rel c X (os ++ os₁) (ρ ++ ρ₁) h) (hl : os.length = ρ.length) (hr : ∀ o ∈ os, ∀ i ∈ o.refs, i < ρ.length) (ho : os₁[j]? = some o) (hro : ∀ i ∈ o.refs, i < ρ.length) :
    ∃ p, ρ₁[j]? = some p ∧ Rel c X (os ++ [o]) (ρ ++ [p]) h := by
  have hj : (os ++ os₁)[os.length + j]? = some o := by rw [List.getElem?_append_right (Nat.le_add_right _ _)]; simpa using ho
  obtain ⟨p, hp, hor⟩ := r.objs.get hj
  have hp' : ρ₁[j]? = some p := by
    rw [hl, List.getElem?_append_right (Nat.le_add_right _ _)] at hp; simpa using hp
  have r0 := r.cut hl hr
  have sub : (p.a :: p.more).Sublist (foot ρ₁) := foot_pick hp'
  have ff : foot (ρ ++ [p]) = foot ρ ++ (p.a :: p.more) := by rw [foot_append]; simp [foot]
  have sub' : (X ++ foot (ρ ++ [p])).Sublist (X ++ foot (ρ ++ ρ₁)) := by
    rw [ff, foot_append]
    exact List.Sublist.append (List.Sublist.refl _) (List.Sublist.append (List.Sublist.refl _) sub)
  refine ⟨p, hp', ?_, sub'.nodup r.nodup, r.keep, fun a ha => r.fresh a (sub'.subset ha), fun a ha => r.live a (sub'.subset ha)⟩
  refine (r0.objs.mono [p]).append ⟨hor.ext fun i hi q hq => ?_, trivial⟩
  rw [List.getElem?_append_left (hro i hi)] at hq
  exact getElem?_mono hq

/-! ### a def that is called -/

/-- names and values, pair by pair -/
noncomputable def KV (ρ : List Pl) : List (Str × AV) → List (Str × Value) → Prop
  | [], [] => True
  | x :: xs, v :: vs => x.1 = v.1 ∧ VR ρ x.2 v.2 ∧ KV ρ xs vs
  | _, _ => False
theorem KV.append {xs : List (Str × AV)} {vs : List (Str × Value)} {ys : List (Str × AV)} {ws : List (Str × Value)} (h : KV ρ xs vs) (h' : KV ρ ys ws) : KV ρ (xs ++ ys) (vs ++ ws) := by
  induction xs generalizing vs with
  | nil => cases vs with
    | nil => exact h'
    | cons v vs => exact h.elim
  | cons x xs ih => cases vs with
    | nil => exact h.elim
    | cons v vs => exact ⟨h.1, h.2.1, ih h.2.2⟩
theorem KV.reverse : ∀ {xs : List (Str × AV)} {vs : List (Str × Value)}, KV ρ xs vs → KV ρ xs.reverse vs.reverse
  | [], [], _ => trivial
  | _ :: _, _ :: _, h => by
    rw [List.reverse_cons, List.reverse_cons]
    exact KV.append (KV.reverse h.2.2) ⟨h.1, h.2.1, trivial⟩
theorem KV.lookup {y : Str} {v : AV} : ∀ {xs : List (Str × AV)} {vs : List (Str × Value)}, KV ρ xs vs → xs.lookup y = some v → ∃ v', vs.lookup y = some v' ∧ VR ρ v v'
  | (a, b) :: xs, (a', b') :: vs, h, e => by
    obtain ⟨h1, h2, h3⟩ := h
    dsimp only at h1 h2; subst h1
    rw [List.lookup_cons] at e ⊢
    cases hy : y == a with
    | true => rw [hy] at e; cases e; exact ⟨b', rfl, h2⟩
    | false => rw [hy] at e; exact KV.lookup h3 e
theorem KV.zip : ∀ {ps : List Str} {xs : List AV} {vs : List Value}, VRs ρ xs vs → KV ρ (ps.zip xs) (ps.zip vs)
  | [], _, _, _ => trivial
  | _ :: _, [], [], _ => trivial
  | _ :: _, _ :: _, _ :: _, h => ⟨rfl, h.1, KV.zip h.2⟩

theorem Room.deeper {A : Around} {n : Nat} {env : Env} (r : Room A (n + 1)) : Room (A.deeper env) n :=
  ⟨r.handled, by have := r.depth; show A.depth + 1 + n < _; omega, by have := r.units; show A.units + 3 + 20 * n + 100 < _; omega⟩
theorem Room.lt {A : Around} {n : Nat} (r : Room A n) : A.depth < recursionLimit := by have := r.depth; omega

/-- what a def's body leaves of the objects -/
inductive Back (os : List AO) : AV → List AO → AV → List AO → Prop
  /-- a value that lies in itself; of the objects the elder ones are left -/
  | val {v : AV} {os' os₁ : List AO} (h : os'.length = os.length) (hr : ∀ o ∈ os', ∀ i ∈ o.refs, i < os.length) (hv : v.refs = []) : Back os v (os' ++ os₁) v os'
  /-- an object that the body made -/
  | obj {os' os₁ : List AO} {j : Nat} {o : AO} (h : os'.length = os.length) (hr : ∀ o ∈ os', ∀ i ∈ o.refs, i < os.length) (ho : os₁[j]? = some o) (hro : ∀ i ∈ o.refs, i < os.length) : Back os (.ref (os.length + j)) (os' ++ os₁) (.ref os.length) (os' ++ [o])
  /-- all of them -/
  | all {v : AV} {os₁ : List AO} : Back os v os₁ v os₁

theorem Back.run {os os₁ os₂ : List AO} {v v' : AV} {ρ₁ : List Pl} {h h₁ : Heap} {x : Value} (b : Back os v os₁ v' os₂) (hl : os.length = ρ.length) (r : Rel c X os₁ (ρ ++ ρ₁) h₁) (hv : VR (ρ ++ ρ₁) v x) (hf : ∀ a ∈ foot ρ₁, h.objs.size ≤ a) :
    ∃ new, Rel c X os₂ (ρ ++ new) h₁ ∧ VR (ρ ++ new) v' x ∧ ∀ a ∈ foot new, h.objs.size ≤ a := by
  cases b with
  | all => exact ⟨ρ₁, r, hv, hf⟩
  | val hl' hr hv' =>
    rw [hl] at hl' hr
    refine ⟨[], by simpa using r.cut hl' hr, ?_, by simp [foot]⟩
    cases v <;> first | exact hv | cases hv'
  | obj hl' hr ho hro =>
    rw [hl] at hl' hr hro
    obtain ⟨p, hp, r'⟩ := r.pick hl' hr ho hro
    refine ⟨[p], r', ?_, fun a ha => hf a (foot_mem_of_get hp a (by simpa [foot] using ha))⟩
    obtain ⟨q, hq, rfl⟩ := hv
    rw [hl, List.getElem?_append_right (Nat.le_add_right _ _)] at hq
    rw [Nat.add_sub_cancel_left, hp] at hq
    cases hq
    exact ⟨p, by rw [hl]; simp, rfl⟩

structure DefAt (c : Cx) (a : Addr) (d : FuncData) (body : List Stmt) : Prop where
  there : ∃ o, c.hb.get? a = some o ∧ o.data = .func d
  code : c.hb.CodeRec d.code d.qualname
  body : d.body = .stmts body
  glob : d.globals = mainGlobals
  blt : d.builtins = builtinsNs
  co : d.scope.isCoroutine = false
  gen : d.scope.isGenerator = false
  kind : d.scope.kind = .function
theorem CallR.of_def {a : Addr} {d : FuncData} {body : List Stmt} {ps : List Str} {args : List AV} {os os' : List AO} {v v' : AV} (D : DefAt c a d body)
    (hcell : ∀ x ∈ d.scope.names, x.2 ≠ .cell) (hbind : ∀ xs : List Value, xs.length = args.length → bindArgs d ⟨xs, []⟩ = Pure.pure (ps.zip xs)) (hloc : ∀ x ∈ ps, d.scope.names.lookup x = some .local)
    (h : Exs c n ⟨d.scope, [], Option.none⟩ body ⟨(ps.zip args).reverse, os⟩ (.ret v) σ') (hb : Back os v σ'.os v' os') : CallR c (n + 1) (.ref a) args os v' os' := fun A ρ s xs rm r hx => by
  obtain ⟨o, ho, hd⟩ := D.there
  refine Run.wp fun Q E hq => wpAny_call ?_
  have hlen := hx.length
  refine codeAny_call_def (binds := ps.zip xs) rm.lt (r.keep _ _ ho) hd (c.nolimit.keeps r.keep) (D.code.keeps r.keep) D.body (BindsTo.of_eq (hbind xs hlen.symm)) hcell (fun x hx' => hloc x.1 (List.of_mem_zip (a := x.1) (b := x.2) hx').1) (fun h₀ hns hk => ?_) D.co D.gen D.kind
  have hL : ∀ a o, s.heap.get? a = some o → a ≠ s.heap.objs.size := fun a o e he => by rw [he] at e; exact absurd (Heap.lt_size e) (Nat.lt_irrefl _)
  have fresh : c.hb.get? s.heap.objs.size = Option.none := by
    cases e : c.hb.get? s.heap.objs.size with
    | none => rfl
    | some o => exact absurd rfl (hL _ _ (r.keep _ _ e))
  have r0 : Rel c [s.heap.objs.size] os ρ h₀ := by
    refine ⟨r.objs.loc (fun b o e => hk b o (r.keep b o e)) fun a _ o e => hk a o e, ?_, fun b o e => hk b o (r.keep b o e), fun a ha => ?_, fun a ha => ?_⟩
    · refine List.nodup_cons.mpr ⟨fun hm => ?_, by simpa using r.nodup⟩
      exact absurd (r.live _ (by simpa using hm)) (Nat.lt_irrefl _)
    · rcases List.mem_cons.mp ha with rfl | ha
      · exact fresh
      · exact r.fresh a (by simpa using ha)
    · rcases List.mem_cons.mp ha with rfl | ha
      · exact hns.lt
      · have := r.live a (by simpa using ha)
        exact Nat.lt_trans this hns.lt
  have i0 : In c ⟨d.scope, [], Option.none⟩ ⟨(ps.zip args).reverse, os⟩ (callEnv d s.heap.objs.size a) ρ h₀ :=
    ⟨r0, rfl, D.glob, D.blt, (fun _ e => by cases e), fun x i e => (by cases e), _, hns, fun x u e => KV.lookup (KV.reverse (KV.zip hx)) e⟩
  refine (h (callEnv d s.heap.objs.size a) _ ρ { s with heap := h₀, toks := s.toks + (ps.zip xs).length } rm.deeper i0) _ _ fun f h₁ tk₁ ρ₁ q₁ p₁ => ?_
  obtain ⟨i₁, y, rfl, hy⟩ := p₁
  obtain ⟨new, rfl, hnew⟩ := q₁.grow
  refine hq y h₁ tk₁ (ρ ++ (hb.run (h := s.heap) (X := []) r.objs.length i₁.rel.none hy (fun a ha => Nat.le_trans (Nat.le_of_lt hns.lt) (hnew a ha))).choose) fun sz => ?_
  obtain ⟨g1, g2, g3⟩ := (hb.run (h := s.heap) (X := []) r.objs.length i₁.rel.none hy (fun a ha => Nat.le_trans (Nat.le_of_lt hns.lt) (hnew a ha))).choose_spec
  refine ⟨⟨⟨_, rfl, g3⟩, fun b ob e hb' => ?_, sz⟩, g1, g2⟩
  exact q₁.keep b ob (hk b ob e) fun hm => by
    rcases List.mem_cons.mp hm with rfl | hm
    · exact hL _ _ e rfl
    · exact hb' (by simpa using hm)
end
end Mine
end

section
open PySem PySem.W PyProof.Rows
set_option linter.unusedVariables false
namespace Mine

/-! ### what is walked over -/
inductive Src where
  | list (i : Nat)
  | rng (lo hi : Int)
  | str (x : Str)

noncomputable def Src.item (os : List AO) (k : Nat) : Src → Option AV
  | .list i => match os[i]? with | some (.list xs) => xs[k]? | _ => .none
  | .rng lo hi => if lo + k < hi then some (.int (lo + k)) else .none
  | .str x => (x.cps[k]?).map fun ch => .str ⟨#[ch]⟩

/-- the source stands -/
noncomputable def Src.Ok (os : List AO) : Src → Prop
  | .list i => ∃ xs, os[i]? = some (.list xs)
  | .rng lo hi => True
  | .str x => True

noncomputable def ItAt (src : Src) (k : Nat) (it : Addr) (ρ : List Pl) (h : Heap) : Prop := match src with
  | .list i => ∃ p, ρ[i]? = some p ∧ h.IsListIter it p.a k
  | .rng lo hi => IsRangeIter h it (lo + k) (if hi ≤ lo then 0 - k else hi - lo - k) 1
  | .str x => ∃ ty t, (ty = "str_ascii_iterator" ∨ ty = "str_iterator") ∧ h.IsStrIter it ty x t k

theorem ItAt.keep {src : Src} {k : Nat} {it : Addr} {ρ ρ' : List Pl} {X : List Addr} {h h' : Heap} (x : ItAt src k it ρ h) (q : Reach X ρ h ρ' h') (hn : it ∉ X ++ foot ρ) : ItAt src k it ρ' h' := by
  obtain ⟨new, rfl⟩ := q.pref
  cases src with
  | list i => obtain ⟨p, hp, o, ho, r⟩ := x; exact ⟨p, getElem?_mono hp, o, q.keep _ _ ho hn, r⟩
  | rng lo hi => exact q.keep _ _ x hn
  | str z => obtain ⟨ty, t, hty, o, ho, r⟩ := x; exact ⟨ty, t, hty, o, q.keep _ _ ho hn, r⟩
theorem ItAt.lt {src : Src} {k : Nat} {it : Addr} {ρ : List Pl} {h : Heap} (x : ItAt src k it ρ h) : it < h.objs.size := by
  cases src with
  | list i => obtain ⟨p, hp, o, ho, r⟩ := x; exact Heap.lt_size ho
  | rng lo hi => exact Heap.lt_size x
  | str z => obtain ⟨ty, t, hty, o, ho, r⟩ := x; exact Heap.lt_size ho

section
variable {c : Cx} {n : Nat} {fd : FD} {σ σ₁ σ₂ σ₃ : S} {X : List Addr} {A : Around} {ρ : List Pl} {s : Shared} {os : List AO} {E : Value → Shared → Prop}

theorem next_item {src : Src} {k : Nat} {it : Addr} {v : AV} {Q : Option Value → Shared → Prop} (r : Rel c X os ρ s.heap) (hi : ItAt src k it ρ s.heap) (hv : src.item os k = some v)
    (hQ : ∀ x h' tk, VR ρ v x → ItAt src (k + 1) it ρ h' → Heap.SameBut it s.heap h' → Q (some x) { s with heap := h', toks := tk }) : wpAny c.M A (pyNext (.ref it)) Q E s := by
  cases src with
  | list i =>
    obtain ⟨p, hp, hl⟩ := hi
    dsimp only [Src.item] at hv
    cases ho : os[i]? with
    | none => rw [ho] at hv; cases hv
    | some o =>
      rw [ho] at hv
      cases o with
      | list xs =>
        obtain ⟨p', vs, hp', _, e, hvs, hpl⟩ := r.list ho ⟨p, hp, rfl⟩
        rw [hp] at hp'; cases hp'
        obtain ⟨x, hx, hvx⟩ := hvs.get hv
        exact wpAny_pyNext_list_item hl hpl.isList (by simpa using hx) fun h' hit hs => hQ x h' s.toks hvx ⟨p, hp, hit⟩ hs
      | _ => cases hv
  | rng lo hi' =>
    dsimp only [Src.item] at hv
    by_cases hlt : lo + k < hi'
    · rw [if_pos hlt] at hv; cases hv
      have hi0 : IsRangeIter s.heap it (lo + k) (hi' - lo - k) 1 := by
        have := hi; dsimp only [ItAt] at this; rw [if_neg (by omega)] at this; exact this
      refine wpAny_pyNext_range_item hi0 (by omega) fun h' hit hs => hQ _ h' _ ⟨_, rfl⟩ ?_ hs
      show IsRangeIter h' it (lo + ((k + 1 : Nat) : Int)) (if hi' ≤ lo then 0 - ((k + 1 : Nat) : Int) else hi' - lo - ((k + 1 : Nat) : Int)) 1
      rw [if_neg (by omega)]
      have e1 : lo + ((k + 1 : Nat) : Int) = lo + k + 1 := by omega
      have e2 : hi' - lo - ((k + 1 : Nat) : Int) = hi' - lo - k - 1 := by omega
      rw [e1, e2]; exact hit
    · rw [if_neg hlt] at hv; cases hv
  | str z =>
    obtain ⟨ty, t, hty, hl⟩ := hi
    dsimp only [Src.item] at hv
    cases hc : z.cps[k]? with
    | none => rw [hc] at hv; cases hv
    | some ch =>
      rw [hc] at hv; cases hv
      rcases hty with rfl | rfl
      · exact wpAny_pyNext_ascii_item hl hc fun h' hit hs => hQ _ h' _ ⟨_, rfl⟩ ⟨_, t, .inl rfl, hit⟩ hs
      · exact wpAny_pyNext_wide_item hl hc fun h' hit hs => hQ _ h' _ ⟨_, rfl⟩ ⟨_, t, .inr rfl, hit⟩ hs

theorem next_end {src : Src} {k : Nat} {it : Addr} {Q : Option Value → Shared → Prop} (hh : A.handled = .none) (r : Rel c X os ρ s.heap) (ok : src.Ok os) (hi : ItAt src k it ρ s.heap) (hv : src.item os k = .none)
    (hQ : ∀ h', Heap.ExtBut it s.heap h' → Q .none { s with heap := h' }) : wpAny c.M A (pyNext (.ref it)) Q E s := by
  cases src with
  | list i =>
    obtain ⟨p, hp, hl⟩ := hi
    obtain ⟨xs, ho⟩ := ok
    dsimp only [Src.item] at hv
    rw [ho] at hv
    obtain ⟨p', vs, hp', _, e, hvs, hpl⟩ := r.list ho ⟨p, hp, rfl⟩
    rw [hp] at hp'; cases hp'
    refine wpAny_pyNext_list_end hh hl hpl.isList ?_ hQ
    have h1 : xs.length ≤ k := List.getElem?_eq_none_iff.mp hv
    rw [hvs.length] at h1
    simpa using h1
  | rng lo hi' =>
    dsimp only [Src.item] at hv
    by_cases hlt : lo + k < hi'
    · rw [if_pos hlt] at hv; cases hv
    · dsimp only [ItAt] at hi
      refine wpAny_pyNext_range_end hh hi ?_ hQ
      split <;> omega
  | str z =>
    obtain ⟨ty, t, hty, hl⟩ := hi
    dsimp only [Src.item] at hv
    cases hc : z.cps[k]? with
    | some ch => rw [hc] at hv; cases hv
    | none =>
      rcases hty with rfl | rfl
      · exact wpAny_pyNext_ascii_end hh hl hc hQ
      · exact wpAny_pyNext_wide_end hh hl hc hQ

/-- one turn of a loop -/
theorem codeAny_for_turn {R : Result → Shared → Prop} {x : Str} {px : Pos} {it : Addr} {body : List Stmt} {env : Env}
    (turn : wpAny c.M A (pyNext (.ref it)) (fun r s₁ => match r with
      | .none => R (.ok .next) s₁
      | some v => wpAny c.M A (storeName env x v) (fun _ s₂ => wpAny c.M A (execs body env) (fun f s₃ => match f with
            | .next | .cont => codeAny c.M A (.forLoop (.Name x px) (.ref it) body [] env) R s₃
            | .brk => R (.ok .next) s₃
            | .ret v => R (.ok (.ret v)) s₃) (notedBy c.M A env fun e s' => R (.error e) s') s₂) (notedBy c.M A env fun e s' => R (.error e) s') s₁) (notedBy c.M A env fun e s' => R (.error e) s') s) :
    codeAny c.M A (.forLoop (.Name x px) (.ref it) body [] env) R s := by
  refine codeAny_of_tree ?_
  rw [Around.under_of_weight (by rfl) (by rfl)]
  show wpAny _ A ((forTurn (.Name x px) (.ref it) body [] env).onRaise (fun x => do noteFrame x env; theTreesLotGoes x)) _ _ s
  refine wpAny_noted ?_
  simp only [forTurn]
  refine wpAny_bind (wpAny_standAt (wpAny_bind (wpAny_onRaise (wpAny_mono turn (fun r s₁ h₁ => ?_) fun _ _ h' => wpAny_standAt h'))))
  cases r with
  | none => exact wpAny_pure (And.intro rfl (codeAny_block (wpAny_execs_nil h₁)))
  | some v =>
    refine wpAny_bind (wpAny_pure (a := ()) ?_)
    refine wpAny_bind (wpAny_mono (wpAny_assign_Name (pos := px) h₁) (fun _ s₂ h₂ => wpAny_bind (wpAny_mono h₂ (fun f s₃ h₃ => ?_) fun _ _ h' => h')) fun _ _ h' => h')
    cases f with
    | next => exact wpAny_pure (And.intro rfl h₃)
    | cont => exact wpAny_pure (And.intro rfl h₃)
    | brk => exact wpAny_pure h₃
    | ret v => exact wpAny_pure h₃

noncomputable def Lp (c : Cx) (n : Nat) (fd : FD) (x : Str) (body : List Stmt) (src : Src) (k : Nat) (σ : S) (f : AF) (σ' : S) : Prop :=
  ∀ env A ρ s it px R, Room A n → In c fd σ env ρ s.heap → ItAt src k it ρ s.heap → it ∉ env.locals :: foot ρ → c.hb.get? it = .none →
    (∀ fl h' tk' ρ', Reach [it, env.locals] ρ s.heap ρ' h' → In c fd σ' env ρ' h' → FR ρ' f fl → ∀ {dr : Drawn}, R (.ok fl) { s with heap := h', toks := tk', drawn := dr }) →
    codeAny c.M A (.forLoop (.Name x px) (.ref it) body [] env) R s

/-- the iterator alone turned -/
theorem In.iter {env : Env} {it : Addr} {h h' : Heap} (i : In c fd σ env ρ h) (hn : it ∉ env.locals :: foot ρ) (hb : c.hb.get? it = .none) (k : Heap.ExtBut it h h') (sz : h.objs.size ≤ h'.objs.size) : In c fd σ env ρ h' := by
  have kb : Keeps c.hb h' := fun a o e => k a o (fun q => by subst q; rw [hb] at e; cases e) (i.rel.keep a o e)
  refine ⟨⟨i.rel.objs.loc kb fun a ha o e => k a o (fun q => hn (by subst q; exact List.mem_cons_of_mem _ ha)) e, i.rel.nodup, kb, i.rel.fresh, fun a ha => Nat.lt_of_lt_of_le (i.rel.live a ha) sz⟩, i.fre.scope, i.fre.glob, i.fre.blt, i.fre.cq, i.fre.cells, ?_⟩
  obtain ⟨m, hm, r⟩ := i.fre.ns
  exact ⟨m, hm.extBut k (fun q => hn (by rw [← q]; exact List.mem_cons_self)), r⟩

theorem Reach.iter {X : List Addr} {it : Addr} {h h' : Heap} (hm : it ∈ X) (k : Heap.ExtBut it h h') (sz : h.objs.size ≤ h'.objs.size) : Reach X ρ h ρ h' :=
  ⟨⟨[], by simp, by simp [foot]⟩, fun a o e ha => k a o (fun q => ha (by subst q; exact List.mem_append_left _ hm)) e, sz⟩

theorem Lp.done {x : Str} {body : List Stmt} {src : Src} {k : Nat} (hv : src.item σ.os k = .none) (ok : src.Ok σ.os) : Lp c n fd x body src k σ .next σ := fun env A ρ s it px R rm i hi hn hb hR => by
  refine codeAny_size (codeAny_for_turn (next_end rm.handled i.rel ok hi hv fun h' hk => fun sz => ?_))
  exact hR _ h' s.toks ρ (Reach.iter List.mem_cons_self hk sz) (i.iter hn hb hk sz) rfl

theorem fresh_not {X : List Addr} {ρ ρ' : List Pl} {h h' : Heap} {a : Addr} (q : Reach X ρ h ρ' h') (hlt : a < h.objs.size) (hn : a ∉ foot ρ) : a ∉ foot ρ' := by
  obtain ⟨new, rfl, hf⟩ := q.grow
  rw [foot_append]
  intro hm
  rcases List.mem_append.mp hm with hm | hm
  · exact hn hm
  · exact absurd hlt (Nat.not_lt.mpr (hf a hm))

/-- one turn: the item stored, the body run -/
theorem Lp.turn {x : Str} {body : List Stmt} {src : Src} {k : Nat} {v : AV} {f₁ f : AF} (hv : src.item σ.os k = some v) (hs : Sto fd x v σ σ₁) (hb : Exs c n fd body σ₁ f₁ σ₂) (hk : fd.scope.kind = .function)
    (go : (f₁ = .next ∨ f₁ = .cont) → Lp c n fd x body src (k + 1) σ₂ f σ₃) (ends : ¬ (f₁ = .next ∨ f₁ = .cont) → σ₃ = σ₂ ∧ f = (match f₁ with | .brk => .next | g => g)) : Lp c n fd x body src k σ f σ₃ := fun env A ρ s it px R rm i hi hn hb' hR => by
  refine codeAny_for_turn (next_item i.rel hi hv fun y h₁ tk₁ hy hi₁ hs₁ => ?_)
  have i₁ := i.iter hn hb' hs₁.extBut (Nat.le_of_eq hs₁.1.symm)
  have q₁ : Reach [it, env.locals] ρ s.heap ρ h₁ := Reach.iter List.mem_cons_self hs₁.extBut (Nat.le_of_eq hs₁.1.symm)
  refine hs.run (s := { s with heap := h₁, toks := tk₁, drawn := _ }) i₁ hy hk _ _ fun _ h₂ tk₂ ρ₂ q₂ i₂ => ?_
  have hn₂ : it ∉ env.locals :: foot ρ₂ := fun hm => by
    rcases List.mem_cons.mp hm with e | hm
    · exact hn (by rw [e]; exact List.mem_cons_self)
    · exact fresh_not q₂ hi₁.lt (fun q => hn (List.mem_cons_of_mem _ q)) hm
  have hi₂ := hi₁.keep q₂ hn
  intro dr
  refine hb env A ρ₂ { s with heap := h₂, toks := tk₂, drawn := _ } rm i₂ _ _ fun fl h₃ tk₃ ρ₃ q₃ p₃ => ?_
  intro dr
  have hn₃ : it ∉ env.locals :: foot ρ₃ := fun hm => by
    rcases List.mem_cons.mp hm with e | hm
    · exact hn₂ (by rw [e]; exact List.mem_cons_self)
    · exact fresh_not q₃ hi₂.lt (fun q => hn₂ (List.mem_cons_of_mem _ q)) hm
  have hi₃ := hi₂.keep q₃ hn₂
  have qq : Reach [it, env.locals] ρ s.heap ρ₃ h₃ := (q₁.trans (q₂.more (by simp))).trans (q₃.more (by simp))
  obtain ⟨i₃, hf⟩ := p₃
  cases f₁ with
  | next =>
    cases hf
    exact go (.inl rfl) env A ρ₃ { s with heap := h₃, toks := tk₃, drawn := _ } it px R rm i₃ hi₃ hn₃ hb' fun fl' h' tk' ρ' q' i' hf' => hR fl' h' tk' ρ' (qq.trans q') i' hf'
  | cont =>
    cases hf
    exact go (.inr rfl) env A ρ₃ { s with heap := h₃, toks := tk₃, drawn := _ } it px R rm i₃ hi₃ hn₃ hb' fun fl' h' tk' ρ' q' i' hf' => hR fl' h' tk' ρ' (qq.trans q') i' hf'
  | brk =>
    cases hf
    obtain ⟨rfl, rfl⟩ := ends (by rintro (h | h) <;> cases h)
    exact hR _ h₃ tk₃ ρ₃ qq i₃ rfl
  | ret u =>
    obtain ⟨z, rfl, hz⟩ := hf
    obtain ⟨rfl, rfl⟩ := ends (by rintro (h | h) <;> cases h)
    exact hR _ h₃ tk₃ ρ₃ qq i₃ ⟨z, rfl, hz⟩

theorem Lp.step {x : Str} {body : List Stmt} {src : Src} {k : Nat} {v : AV} {f : AF} (hv : src.item σ.os k = some v) (hs : Sto fd x v σ σ₁) (hb : Exs c n fd body σ₁ .next σ₂) (go : Lp c n fd x body src (k + 1) σ₂ f σ₃) (hk : fd.scope.kind = .function := by rfl) : Lp c n fd x body src k σ f σ₃ :=
  Lp.turn hv hs hb hk (fun _ => go) fun h => absurd (.inl rfl) h
theorem Lp.ret {x : Str} {body : List Stmt} {src : Src} {k : Nat} {v u : AV} (hv : src.item σ.os k = some v) (hs : Sto fd x v σ σ₁) (hb : Exs c n fd body σ₁ (.ret u) σ₂) (hk : fd.scope.kind = .function := by rfl) : Lp c n fd x body src k σ (.ret u) σ₂ :=
  Lp.turn hv hs hb hk (fun h => by rcases h with h | h <;> cases h) fun _ => ⟨rfl, rfl⟩

/-- what a value is walked as -/
inductive Itr (os : List AO) : AV → Src → Prop
  | list {i : Nat} {xs : List AV} (h : os[i]? = some (.list xs)) : Itr os (.ref i) (.list i)
  | rng {i : Nat} {lo hi : Int} (h : os[i]? = some (.rng lo hi)) (hs : Builtin.Range.small lo hi 1 = true) : Itr os (.ref i) (.rng lo hi)
  | str {x : Str} : Itr os (.str x) (.str x)

theorem iter_run {a : AV} {src : Src} {v : Value} {Q : Value → Shared → Prop} (h : Itr os a src) (r : Rel c X os ρ s.heap) (hv : VR ρ a v)
    (hQ : ∀ ob, ItAt src 0 s.heap.objs.size ρ (s.heap.push ob) → Q (.ref s.heap.objs.size) { s with heap := s.heap.push ob }) : wpAny c.M A (pyIter v) Q E s := by
  cases h with
  | list ho =>
    obtain ⟨p, vs, hp, _, rfl, hvs, hpl⟩ := r.list ho hv
    exact wpAny_pyIter_list hpl.isList (hQ _ ⟨p, hp, _, Heap.get?_push_size _ rfl, rfl, rfl⟩)
  | @rng i lo hi ho hs =>
    obtain ⟨p, hp, rfl⟩ := hv
    obtain ⟨p', hp', hm', t, u, w, hr⟩ := r.objs.get ho
    rw [hp] at hp'; cases hp'
    refine wpAny_pyIter_range hr hs (hQ _ ?_)
    have e2 : Builtin.Range.rangeSize lo hi 1 = if hi ≤ lo then 0 - ((0 : Nat) : Int) else hi - lo - ((0 : Nat) : Int) := by
      unfold Builtin.Range.rangeSize
      by_cases hl : lo < hi
      · simp [hl] <;> omega
      · simp [hl] <;> omega
    have e3 : lo + ((0 : Nat) : Int) = lo := by omega
    dsimp only [ItAt]
    rw [← e2, e3]
    exact Heap.get?_push_size _ rfl
  | str =>
    obtain ⟨t, rfl⟩ := hv
    rename_i x
    cases ha : x.cps.all (· < 128)
    · exact wpAny_pyIter_wide ha (hQ _ ⟨_, t, .inr rfl, _, Heap.get?_push_size _ rfl, rfl, rfl⟩)
    · exact wpAny_pyIter_ascii ha (hQ _ ⟨_, t, .inl rfl, _, Heap.get?_push_size _ rfl, rfl, rfl⟩)

theorem Ex.for {x : Str} {px pos : Pos} {iter : Expr} {body : List Stmt} {a : AV} {src : Src} {f : AF} (h1 : Ev c n fd iter σ a σ₁) (hi : Itr σ₁.os a src) (h2 : Lp c n fd x body src 0 σ₁ f σ₂)
    (hs : ∀ env v, foldedSetIterable iter env v = Pure.pure v := by intro _ _; rfl) : Ex c n fd (.For (.Name x px) iter body [] pos) σ f σ₂ := fun env A ρ s rm i => by
  rw [exec_For]
  refine Run.stand (Run.bind (h1 env A ρ s rm i) fun v h₁ tk₁ ρ₁ q₁ p₁ => ?_)
  refine Run.bind (P := fun ρ' h' u => u = v ∧ In c fd σ₁ env ρ' h' ∧ VR ρ' a v) (Run.of_eq (hs env v) (Run.pure ⟨rfl, p₁⟩)) fun u h₂ tk₂ ρ₂ q₂ p₂ => ?_
  obtain ⟨rfl, p₂⟩ := p₂
  refine Run.stand ?_
  refine Run.wp fun Q E hq => wpAny_bind (wpAny_holding (iter_run hi p₂.1.rel p₂.2 fun ob hit => wpAny_runOwn ?_))
  dsimp only at hit
  have hnew : h₂.objs.size ∉ env.locals :: foot ρ₂ := fun hm => absurd (p₂.1.rel.live _ hm) (Nat.lt_irrefl _)
  have hb : c.hb.get? h₂.objs.size = .none := by
    cases e : c.hb.get? h₂.objs.size with
    | none => rfl
    | some o => exact absurd (Heap.lt_size (p₂.1.rel.keep _ _ e)) (Nat.lt_irrefl _)
  have i' : In c fd σ₁ env ρ₂ (h₂.push ob) := p₂.1.lift (Reach.waste [] ρ₂ h₂ ob) (p₂.1.rel.none.waste ob)
  refine h2 env _ ρ₂ { s with heap := h₂.push ob, toks := tk₂, drawn := _ } _ px _ rm i' hit hnew hb fun fl h' tk' ρ' q' ii hf => hq fl h' tk' ρ' fun sz => ⟨⟨?_, fun b o e hn => ?_, sz⟩, ii, hf⟩
  · obtain ⟨new, e, hf⟩ := q'.grow
    exact ⟨new, e, fun a ha => Nat.le_trans (Nat.le_of_lt (by show h₂.objs.size < (h₂.push ob).objs.size; rw [Heap.size_push]; exact Nat.lt_succ_self _)) (hf a ha)⟩
  · refine q'.keep b o (Heap.get?_push_of_some _ e) fun hm => ?_
    rcases List.mem_cons.mp hm with hm | hm
    · exact absurd (Heap.lt_size e) (by rw [hm]; exact Nat.lt_irrefl _)
    · exact hn hm
end
end Mine
end

section
open PySem PySem.W PyProof.Rows
set_option linter.unusedVariables false
namespace Mine

theorem compTurn_at (elt target iter : Expr) (gens : List Comprehension) (scope : Scope) (pos : Pos) (d : Nat) (it acc : Value) (env : Env) (hg : gens[d]? = some ⟨target, iter, [], 0⟩) (hn : gens[d + 1]? = none) :
    compTurn (.ListComp elt gens scope pos) d it acc env = (standAt iter.pos >>= fun _ => pyNext it >>= fun r => match r with
      | none => pure (.done .next)
      | some v => letOwnedTupleGo target it v >>= fun _ => assign target env v >>= fun _ =>
        (eval elt env >>= fun x => call (.builtin "list.append") [acc, x] >>= fun _ => pure ()) >>= fun _ =>
          again (.compLoop (.ListComp elt gens scope pos) d it acc env)) := by
  unfold compTurn
  simp only [hg, hn]
  rfl

theorem compTurn_if (elt target iter t : Expr) (gens : List Comprehension) (scope : Scope) (pos : Pos) (d : Nat) (it acc : Value) (env : Env) (hg : gens[d]? = some ⟨target, iter, [t], 0⟩) (hn : gens[d + 1]? = none) :
    compTurn (.ListComp elt gens scope pos) d it acc env = (standAt iter.pos >>= fun _ => pyNext it >>= fun r => match r with
      | none => pure (.done .next)
      | some v => letOwnedTupleGo target it v >>= fun _ => assign target env v >>= fun _ =>
        (forIn [t] true fun c r => if r = true then do let ok ← isTrue c env (eval c env); pure (ForInStep.yield ok) else pure (ForInStep.yield r)) >>= fun ok => if ok = true then
        (eval elt env >>= fun x => call (.builtin "list.append") [acc, x] >>= fun _ => pure ()) >>= fun _ =>
          again (.compLoop (.ListComp elt gens scope pos) d it acc env)
        else again (.compLoop (.ListComp elt gens scope pos) d it acc env)) := by
  unfold compTurn
  simp only [hg, hn]
  rfl

theorem compTurn_more (elt target iter target' iter' : Expr) (ifs' : List Expr) (gens : List Comprehension) (scope : Scope) (pos : Pos) (d : Nat) (it acc : Value) (env : Env) (hg : gens[d]? = some ⟨target, iter, [], 0⟩) (hn : gens[d + 1]? = some ⟨target', iter', ifs', 0⟩) :
    compTurn (.ListComp elt gens scope pos) d it acc env = (standAt iter.pos >>= fun _ => pyNext it >>= fun r => match r with
      | none => pure (.done .next)
      | some v => letOwnedTupleGo target it v >>= fun _ => assign target env v >>= fun _ =>
        eval iter' env >>= fun x => standAt iter'.pos >>= fun _ => foldedSetIterable iter' env x >>= fun x => holding [x] (pyIter x) >>= fun it' =>
          runOwn (.compStart (.ListComp elt gens scope pos) (d + 1) it' acc env) env >>= fun _ =>
          again (.compLoop (.ListComp elt gens scope pos) d it acc env)) := by
  unfold compTurn
  simp only [hg, hn]
  rfl
end Mine
end

section
open PySem PySem.W PyProof.Rows
set_option linter.unusedVariables false
namespace Mine

structure Hid (c : Cx) (env : Env) (ρ : List Pl) (h : Heap) (it al : Addr) (src : Src) (k : Nat) (acc : List AV) (vs : List Value) : Prop where
  i : ItAt src k it ρ h
  ni : it ∉ env.locals :: foot ρ
  bi : c.hb.get? it = none
  hv : VRs ρ acc vs
  hl : LL h al vs.toArray
  nl : al ∉ it :: env.locals :: foot ρ
  bl : c.hb.get? al = none

section
variable {c : Cx} {n : Nat} {fd : FD} {σ σ₁ σ₂ σ₃ σ₄ : S} {X : List Addr} {A : Around} {ρ : List Pl} {s : Shared} {os : List AO} {E : Value → Shared → Prop}

theorem Hid.keep {env : Env} {ρ' : List Pl} {h h' : Heap} {it al : Addr} {src : Src} {k : Nat} {acc : List AV} {vs : List Value} (x : Hid c env ρ h it al src k acc vs) (q : Reach [env.locals] ρ h ρ' h') : Hid c env ρ' h' it al src k acc vs := by
  have nl' : al ∉ env.locals :: foot ρ := fun hm => x.nl (List.mem_cons_of_mem _ hm)
  have up : ∀ a, a < h.objs.size → a ∉ env.locals :: foot ρ → a ∉ env.locals :: foot ρ' := fun a hlt hn hm => by
    rcases List.mem_cons.mp hm with e | hm
    · exact hn (by rw [e]; exact List.mem_cons_self)
    · exact fresh_not q hlt (fun y => hn (List.mem_cons_of_mem _ y)) hm
  refine ⟨x.i.keep q x.ni, up it x.i.lt x.ni, x.bi, x.hv.reach q, x.hl.of fun o ho => q.keep _ _ ho nl', fun hm => ?_, x.bl⟩
  rcases List.mem_cons.mp hm with e | hm
  · exact x.nl (by rw [e]; exact List.mem_cons_self)
  · exact up al x.hl.lt nl' hm

noncomputable def Cp (c : Cx) (n : Nat) (fd : FD) (elt : Expr) (gens : List Comprehension) (scope : Scope) (pos : Pos) (d : Nat) (src : Src) (k : Nat) (σ : S) (acc : List AV) (σ' : S) (acc' : List AV) : Prop :=
  ∀ env A ρ s it al vs R, Room A n → In c fd σ env ρ s.heap → Hid c env ρ s.heap it al src k acc vs →
    (∀ h' tk' ρ' vs', Reach [it, al, env.locals] ρ s.heap ρ' h' → In c fd σ' env ρ' h' → VRs ρ' acc' vs' → LL h' al vs'.toArray → ∀ {dr : Drawn}, R (.ok .next) { s with heap := h', toks := tk', drawn := dr }) →
    codeAny c.M A (.compLoop (.ListComp elt gens scope pos) d (.ref it) (.ref al) env) R s

theorem codeAny_comp {elt : Expr} {gens : List Comprehension} {scope : Scope} {pos : Pos} {d : Nat} {it acc : Value} {env : Env} {R : Result → Shared → Prop}
    (h : wpAny c.M A (compTurn (.ListComp elt gens scope pos) d it acc env) (fun fin s' => match fin with | .done f => R (.ok f) s' | .again c' => c'.quiet = true ∧ codeAny c.M A c' R s') (notedBy c.M A env fun e s' => R (.error e) s') s) :
    codeAny c.M A (.compLoop (.ListComp elt gens scope pos) d it acc env) R s := by
  refine codeAny_of_tree ?_
  rw [Around.under_of_weight (by rfl) (by rfl)]
  show wpAny _ A ((compTurn (.ListComp elt gens scope pos) d it acc env).onRaise (fun x => do noteFrame x env; theTreesLotGoes x)) _ _ s
  exact wpAny_noted h

/-- the iterator and the list that is filled alone turned -/
theorem Hid.next {env : Env} {h h' : Heap} {it al : Addr} {src : Src} {k : Nat} {acc : List AV} {vs : List Value} (x : Hid c env ρ h it al src k acc vs) (hi : ItAt src (k + 1) it ρ h') (hs : Heap.SameBut it h h') : Hid c env ρ h' it al src (k + 1) acc vs := by
  exact ⟨hi, x.ni, x.bi, x.hv, x.hl.of fun o ho => (hs.2 al fun e => x.nl (by rw [e]; exact List.mem_cons_self)).trans ho, x.nl, x.bl⟩
theorem Hid.app {env : Env} {h h' : Heap} {it al : Addr} {src : Src} {k : Nat} {acc : List AV} {vs : List Value} {u : AV} {y : Value} (x : Hid c env ρ h it al src k acc vs) (hu : VR ρ u y) (hl : LL h' al (vs ++ [y]).toArray) (hs : Heap.SameBut al h h') : Hid c env ρ h' it al src k (acc ++ [u]) (vs ++ [y]) := by
  refine ⟨?_, x.ni, x.bi, x.hv.append (ws := [y]) ⟨hu, trivial⟩, hl, x.nl, x.bl⟩
  have hne : it ≠ al := fun e => x.nl (by rw [e]; exact List.mem_cons_self)
  have := x.i
  cases src with
  | list i => obtain ⟨p, hp, o, ho, r⟩ := this; exact ⟨p, hp, o, (hs.2 it hne).trans ho, r⟩
  | rng lo hi => exact (hs.2 it hne).trans this
  | str z => obtain ⟨ty, t, hty, o, ho, r⟩ := this; exact ⟨ty, t, hty, o, (hs.2 it hne).trans ho, r⟩
theorem Reach.one {X : List Addr} {a : Addr} {h h' : Heap} (hm : a ∈ X) (k : Heap.SameBut a h h') : Reach X ρ h ρ h' := Reach.iter hm k.extBut (Nat.le_of_eq k.1.symm)

theorem comp_end {env : Env} {elt : Expr} {gens : List Comprehension} {scope : Scope} {pos : Pos} {d : Nat} {src : Src} {k : Nat} {acc : List AV} {vs : List Value} {it al : Addr} {R : Result → Shared → Prop} {Q : Option Value → Shared → Prop} (hh : A.handled = none) (i : In c fd σ env ρ s.heap) (x : Hid c env ρ s.heap it al src k acc vs)
    (hv : src.item σ.os k = none) (ok : src.Ok σ.os) (hR : ∀ h' tk' ρ' vs', Reach [it, al, env.locals] ρ s.heap ρ' h' → In c fd σ env ρ' h' → VRs ρ' acc vs' → LL h' al vs'.toArray → ∀ {dr : Drawn}, R (.ok .next) { s with heap := h', toks := tk', drawn := dr })
    (hQ : ∀ s', (s.heap.objs.size ≤ s'.heap.objs.size → R (.ok .next) s') → Q none s') : wpAny c.M A (pyNext (.ref it)) Q E s := by
  refine next_end hh i.rel ok x.i hv fun h' hk => hQ _ fun sz => ?_
  exact hR h' s.toks ρ vs (Reach.iter List.mem_cons_self hk sz) (i.iter x.ni x.bi hk sz) x.hv (x.hl.of fun o ho => hk _ _ (fun e => x.nl (by rw [e]; exact List.mem_cons_self)) ho)

/-- the turn's head: the next item, stored -/
theorem comp_item {env : Env} {src : Src} {k : Nat} {acc : List AV} {vs : List Value} {it al : Addr} {x : Str} {px : Pos} {v : AV} {Q : Option Value → Shared → Prop} (i : In c fd σ env ρ s.heap) (w : Hid c env ρ s.heap it al src k acc vs) (hv : src.item σ.os k = some v) (hs : Sto fd x v σ σ₁) (hk : fd.scope.kind = .function)
    (hQ : ∀ y h₁ tk₁, (∀ Q' E', (∀ h₂ tk₂ ρ₂, Reach [it, al, env.locals] ρ s.heap ρ₂ h₂ → In c fd σ₁ env ρ₂ h₂ → Hid c env ρ₂ h₂ it al src (k + 1) acc vs → ∀ {dr : Drawn}, Q' () { s with heap := h₂, toks := tk₂, drawn := dr }) → wpAny c.M A (assign (.Name x px) env y) Q' E' { s with heap := h₁, toks := tk₁ }) →
      Q (some y) { s with heap := h₁, toks := tk₁ }) : wpAny c.M A (pyNext (.ref it)) Q E s := by
  refine next_item i.rel w.i hv fun y h₁ tk₁ hy hi₁ hs₁ => hQ y h₁ tk₁ fun Q' E' hq' => wpAny_assign_Name ?_
  have i₁ := i.iter w.ni w.bi hs₁.extBut (Nat.le_of_eq hs₁.1.symm)
  have w₁ := w.next hi₁ hs₁
  have q₁ : Reach [it, al, env.locals] ρ s.heap ρ h₁ := Reach.one List.mem_cons_self hs₁
  refine hs.run (s := { s with heap := h₁, toks := tk₁, drawn := _ }) i₁ hy hk _ _ fun _ h₂ tk₂ ρ₂ q₂ i₂ => ?_
  exact hq' h₂ tk₂ ρ₂ (q₁.trans (q₂.more (by simp))) i₂ (w₁.keep q₂)

theorem Cp.done {elt : Expr} {gens : List Comprehension} {scope : Scope} {pos : Pos} {d : Nat} {src : Src} {k : Nat} {acc : List AV} {x : Str} {px : Pos} {iter : Expr} {ifs : List Expr} (hg : gens[d]? = some ⟨.Name x px, iter, ifs, 0⟩) (hv : src.item σ.os k = none) (ok : src.Ok σ.os) : Cp c n fd elt gens scope pos d src k σ acc σ acc :=
  fun env A ρ s it al vs R rm i w hR => by
    refine codeAny_size (codeAny_comp ?_)
    unfold compTurn
    simp only [hg]
    refine wpAny_bind (wpAny_standAt (wpAny_bind ?_))
    exact comp_end (elt := elt) (gens := gens) (scope := scope) (pos := pos) (d := d) rm.handled i w hv ok hR fun s' h' => wpAny_pure h'

/-- the element put behind -/
theorem comp_app {env : Env} {src : Src} {k : Nat} {acc : List AV} {vs : List Value} {it al : Addr} {elt : Expr} {u : AV} {Q : Unit → Shared → Prop} (rm : Room A n) (i : In c fd σ env ρ s.heap) (w : Hid c env ρ s.heap it al src k acc vs) (he : Ev c n fd elt σ u σ₁) (hz : acc.length ≤ sizeLine)
    (hQ : ∀ h₂ tk₂ ρ₂ vs', Reach [it, al, env.locals] ρ s.heap ρ₂ h₂ → In c fd σ₁ env ρ₂ h₂ → Hid c env ρ₂ h₂ it al src k (acc ++ [u]) vs' → ∀ {dr : Drawn}, Q () { s with heap := h₂, toks := tk₂, drawn := dr }) :
    wpAny c.M A (eval elt env >>= fun x => call (.builtin "list.append") [.ref al, x] >>= fun _ => pure ()) Q E s := by
  refine wpAny_bind (he env A ρ s rm i _ _ fun y h₁ tk₁ ρ₁ q₁ p₁ => ?_)
  intro dr
  have w₁ := w.keep q₁
  refine wpAny_bind (append_ll (c := c) w₁.hl (fun h₂ hl₂ hs₂ => wpAny_pure ?_) (by rw [List.size_toArray, ← w₁.hv.length]; exact hz))
  have w₂ := w₁.app p₁.2 (by simpa using hl₂) hs₂
  refine hQ h₂ tk₁ ρ₁ _ ((q₁.more (by simp)).trans (Reach.one (by simp) hs₂)) ?_ w₂
  exact p₁.1.iter (fun hm => w₁.nl (List.mem_cons_of_mem _ hm)) w₁.bl hs₂.extBut (Nat.le_of_eq hs₂.1.symm)

theorem Cp.step {elt : Expr} {gens : List Comprehension} {scope : Scope} {pos : Pos} {d : Nat} {src : Src} {k : Nat} {acc acc' : List AV} {x : Str} {px : Pos} {iter : Expr} {v u : AV} (hv : src.item σ.os k = some v) (hs : Sto fd x v σ σ₁) (he : Ev c n fd elt σ₁ u σ₂) (go : Cp c n fd elt gens scope pos d src (k + 1) σ₂ (acc ++ [u]) σ₃ acc') (hz : acc.length ≤ sizeLine)
    (hg : gens[d]? = some ⟨.Name x px, iter, [], 0⟩) (hn : gens[d + 1]? = none) (hk : fd.scope.kind = .function := by rfl) : Cp c n fd elt gens scope pos d src k σ acc σ₃ acc' :=
  fun env A ρ s it al vs R rm i w hR => by
    refine codeAny_comp ?_
    rw [compTurn_at elt _ iter gens scope pos d _ _ env hg hn]
    refine wpAny_bind (wpAny_standAt (wpAny_bind (comp_item i w hv hs hk fun y h₁ tk₁ st => wpAny_bind (wpAny_pure (a := ()) (wpAny_bind (st _ _ fun h₂ tk₂ ρ₂ q₂ i₂ w₂ => ?_))))))
    refine wpAny_bind (comp_app (s := { s with heap := h₂, toks := tk₂, drawn := _ }) rm i₂ w₂ he hz fun h₃ tk₃ ρ₃ vs' q₃ i₃ w₃ => wpAny_pure (And.intro rfl ?_))
    exact go env A ρ₃ { s with heap := h₃, toks := tk₃, drawn := _ } it al vs' R rm i₃ w₃ fun h' tk' ρ' vs'' q' => hR h' tk' ρ' vs'' ((q₂.trans q₃).trans q')

theorem forIn_one {env : Env} {t : Expr} {b : Bool} {Q : Bool → Shared → Prop} (rm : Room A n) (i : In c fd σ env ρ s.heap) (ht : Tst c n fd t σ b σ₁) (hQ : ∀ h₂ tk₂ ρ₂, Reach [env.locals] ρ s.heap ρ₂ h₂ → In c fd σ₁ env ρ₂ h₂ → ∀ {dr : Drawn}, Q b { s with heap := h₂, toks := tk₂, drawn := dr }) :
    wpAny c.M A (forIn [t] true fun c r => if r = true then do let ok ← isTrue c env (eval c env); pure (ForInStep.yield ok) else pure (ForInStep.yield r)) Q E s := by
  rw [List.forIn_cons]
  refine wpAny_bind ?_
  rw [if_pos rfl]
  refine wpAny_bind (ht env A ρ s rm i _ _ fun y h₁ tk₁ ρ₁ q₁ p₁ => ?_)
  obtain ⟨i₁, rfl⟩ := p₁
  refine wpAny_pure ?_
  dsimp only
  rw [List.forIn_nil]
  exact wpAny_pure (hQ h₁ tk₁ ρ₁ q₁ i₁)

theorem Cp.stepT {elt t : Expr} {gens : List Comprehension} {scope : Scope} {pos : Pos} {d : Nat} {src : Src} {k : Nat} {acc acc' : List AV} {x : Str} {px : Pos} {iter : Expr} {v u : AV} (hv : src.item σ.os k = some v) (hs : Sto fd x v σ σ₁) (ht : Tst c n fd t σ₁ true σ₂) (he : Ev c n fd elt σ₂ u σ₃) (go : Cp c n fd elt gens scope pos d src (k + 1) σ₃ (acc ++ [u]) σ₄ acc') (hz : acc.length ≤ sizeLine)
    (hg : gens[d]? = some ⟨.Name x px, iter, [t], 0⟩) (hn : gens[d + 1]? = none) (hk : fd.scope.kind = .function := by rfl) : Cp c n fd elt gens scope pos d src k σ acc σ₄ acc' :=
  fun env A ρ s it al vs R rm i w hR => by
    refine codeAny_comp ?_
    rw [compTurn_if elt _ iter t gens scope pos d _ _ env hg hn]
    refine wpAny_bind (wpAny_standAt (wpAny_bind (comp_item i w hv hs hk fun y h₁ tk₁ st => wpAny_bind (wpAny_pure (a := ()) (wpAny_bind (st _ _ fun h₂ tk₂ ρ₂ q₂ i₂ w₂ => ?_))))))
    refine wpAny_bind (forIn_one (s := { s with heap := h₂, toks := tk₂, drawn := _ }) rm i₂ ht fun h₃ tk₃ ρ₃ q₃ i₃ => ?_)
    rw [if_pos rfl]
    refine wpAny_bind (comp_app (s := { s with heap := h₃, toks := tk₃, drawn := _ }) rm i₃ (w₂.keep q₃) he hz fun h₄ tk₄ ρ₄ vs' q₄ i₄ w₄ => wpAny_pure (And.intro rfl ?_))
    exact go env A ρ₄ { s with heap := h₄, toks := tk₄, drawn := _ } it al vs' R rm i₄ w₄ fun h' tk' ρ' vs'' q' => hR h' tk' ρ' vs'' (((q₂.trans (q₃.more (by simp))).trans q₄).trans q')

theorem Cp.stepF {elt t : Expr} {gens : List Comprehension} {scope : Scope} {pos : Pos} {d : Nat} {src : Src} {k : Nat} {acc acc' : List AV} {x : Str} {px : Pos} {iter : Expr} {v : AV} (hv : src.item σ.os k = some v) (hs : Sto fd x v σ σ₁) (ht : Tst c n fd t σ₁ false σ₂) (go : Cp c n fd elt gens scope pos d src (k + 1) σ₂ acc σ₃ acc')
    (hg : gens[d]? = some ⟨.Name x px, iter, [t], 0⟩) (hn : gens[d + 1]? = none) (hk : fd.scope.kind = .function := by rfl) : Cp c n fd elt gens scope pos d src k σ acc σ₃ acc' :=
  fun env A ρ s it al vs R rm i w hR => by
    refine codeAny_comp ?_
    rw [compTurn_if elt _ iter t gens scope pos d _ _ env hg hn]
    refine wpAny_bind (wpAny_standAt (wpAny_bind (comp_item i w hv hs hk fun y h₁ tk₁ st => wpAny_bind (wpAny_pure (a := ()) (wpAny_bind (st _ _ fun h₂ tk₂ ρ₂ q₂ i₂ w₂ => ?_))))))
    refine wpAny_bind (forIn_one (s := { s with heap := h₂, toks := tk₂, drawn := _ }) rm i₂ ht fun h₃ tk₃ ρ₃ q₃ i₃ => ?_)
    rw [if_neg Bool.false_ne_true]
    refine wpAny_pure (And.intro rfl ?_)
    exact go env A ρ₃ { s with heap := h₃, toks := tk₃, drawn := _ } it al vs R rm i₃ (w₂.keep q₃) fun h' tk' ρ' vs'' q' => hR h' tk' ρ' vs'' ((q₂.trans (q₃.more (by simp))).trans q')
end
end Mine
end

section
open PySem PySem.W PyProof.Rows
set_option linter.unusedVariables false
namespace Mine

section
variable {c : Cx} {n : Nat} {fd : FD} {σ σ₁ σ₂ σ₃ σ₄ : S} {X : List Addr} {A : Around} {ρ : List Pl} {s : Shared} {os : List AO} {E : Value → Shared → Prop}

theorem iter_again {src : Src} {k : Nat} {it : Addr} {Q : Value → Shared → Prop} (h : ItAt src k it ρ s.heap) (hq : Q (.ref it) s) : wpAny c.M A (pyIter (.ref it)) Q E s := by
  cases src with
  | list i => obtain ⟨p, hp, hl⟩ := h; exact wpAny_pyIter_listiter hl hq
  | rng lo hi => exact wpAny_pyIter_rangeiter h hq
  | str z =>
    obtain ⟨ty, t, hty, hl⟩ := h
    rcases hty with rfl | rfl
    · exact wpAny_pyIter_striter_ascii hl hq
    · exact wpAny_pyIter_striter_wide hl hq

theorem comp_start {elt : Expr} {gens : List Comprehension} {scope : Scope} {pos : Pos} {d : Nat} {src : Src} {k : Nat} {it : Addr} {acc : Value} {env : Env} {R : Result → Shared → Prop} {target iter : Expr} {ifs : List Expr} (hg : gens[d]? = some ⟨target, iter, ifs, 0⟩) (hi : ItAt src k it ρ s.heap)
    (h : codeAny c.M A (.compLoop (.ListComp elt gens scope pos) d (.ref it) acc env) R s) : codeAny c.M A (.compStart (.ListComp elt gens scope pos) d (.ref it) acc env) R s := by
  refine codeAny_of_tree ?_
  rw [Around.under_of_weight (by rfl) (by rfl)]
  show wpAny _ A ((compStart (.ListComp elt gens scope pos) d (.ref it) acc env).onRaise (fun x => do noteFrame x env; standAt theWindowsPlace)) _ _ s
  refine wpAny_notedAt ?_
  unfold compStart
  have e1 : clausesOf (.ListComp elt gens scope pos) = gens := rfl
  rw [e1, hg]
  show wpAny _ _ (ask >>= _) _ _ s
  refine wpAny_bind (wpAny_askSetting (wpAny_ite ?_))
  split
  · first
      | exact wpAny_bind (wpAny_pure (wpAny_pure (And.intro rfl h)))
      | exact wpAny_pure (And.intro rfl h)
  · refine wpAny_bind (wpAny_rule ?_)
    refine wpAny_bind (wpAny_standAt (wpAny_bind (iter_again hi (wpAny_pure (And.intro rfl h)))))

theorem Cp.nest {elt : Expr} {gens : List Comprehension} {scope : Scope} {pos : Pos} {d : Nat} {src src' : Src} {k : Nat} {acc acc₁ acc' : List AV} {x : Str} {px : Pos} {iter target' iter' : Expr} {ifs' : List Expr} {v a : AV} (hv : src.item σ.os k = some v) (hs : Sto fd x v σ σ₁) (he : Ev c n fd iter' σ₁ a σ₂) (hi : Itr σ₂.os a src')
    (inn : Cp c n fd elt gens scope pos (d + 1) src' 0 σ₂ acc σ₃ acc₁) (go : Cp c n fd elt gens scope pos d src (k + 1) σ₃ acc₁ σ₄ acc')
    (hg : gens[d]? = some ⟨.Name x px, iter, [], 0⟩) (hn : gens[d + 1]? = some ⟨target', iter', ifs', 0⟩) (hf : ∀ env v, foldedSetIterable iter' env v = Pure.pure v := by intro _ _; rfl) (hk : fd.scope.kind = .function := by rfl) : Cp c n fd elt gens scope pos d src k σ acc σ₄ acc' :=
  fun env A ρ s it al vs R rm i w hR => by
    refine codeAny_comp ?_
    rw [compTurn_more elt _ iter target' iter' ifs' gens scope pos d _ _ env hg hn]
    refine wpAny_bind (wpAny_standAt (wpAny_bind (comp_item i w hv hs hk fun y h₁ tk₁ st => wpAny_bind (wpAny_pure (a := ()) (wpAny_bind (st _ _ fun h₂ tk₂ ρ₂ q₂ i₂ w₂ => ?_))))))
    refine wpAny_bind (he env A ρ₂ { s with heap := h₂, toks := tk₂, drawn := _ } rm i₂ _ _ fun z h₃ tk₃ ρ₃ q₃ p₃ => ?_)
    intro dr
    have w₃ := w₂.keep q₃
    refine wpAny_bind (wpAny_standAt (wpAny_bind (wpAny_of_eq (hf env z) (wpAny_bind (wpAny_holding (iter_run hi p₃.1.rel p₃.2 fun ob hit => wpAny_bind (wpAny_runOwn ?_)))))))
    dsimp only at hit
    have i' : In c fd σ₂ env ρ₃ (h₃.push ob) := p₃.1.lift (Reach.waste [] ρ₃ h₃ ob) (p₃.1.rel.none.waste ob)
    have w' := w₃.keep (Reach.waste [env.locals] ρ₃ h₃ ob)
    have hlt : ∀ a, a ∈ env.locals :: foot ρ₃ → a ≠ h₃.objs.size := fun a ha e => absurd (p₃.1.rel.live a ha) (by rw [e]; exact Nat.lt_irrefl _)
    have hal : al < h₃.objs.size := w₃.hl.lt
    have hb : c.hb.get? h₃.objs.size = none := by
      cases e : c.hb.get? h₃.objs.size with
      | none => rfl
      | some o => exact absurd (Heap.lt_size (p₃.1.rel.keep _ _ e)) (Nat.lt_irrefl _)
    have wi : Hid c env ρ₃ (h₃.push ob) h₃.objs.size al src' 0 acc vs := by
      refine ⟨hit, fun hm => hlt _ hm rfl, hb, w'.hv, w'.hl, fun hm => ?_, w'.bl⟩
      rcases List.mem_cons.mp hm with e | hm
      · exact absurd hal (by rw [e]; exact Nat.lt_irrefl _)
      · exact w'.nl (List.mem_cons_of_mem _ hm)
    refine comp_start (s := { s with heap := h₃.push ob, toks := tk₃, drawn := _ }) hn hit (inn env _ ρ₃ { s with heap := h₃.push ob, toks := tk₃, drawn := _ } h₃.objs.size al vs _ rm i' wi fun h₄ tk₄ ρ₄ vs₄ q₄ i₄ hv₄ hl₄ => ?_)
    refine wpAny_pure (And.intro rfl ?_)
    have hni : it ∉ [h₃.objs.size, al, env.locals] ++ foot ρ₃ := fun hm => by
      rcases List.mem_cons.mp hm with e | hm
      · exact absurd w₃.i.lt (by rw [e]; exact Nat.lt_irrefl _)
      rcases List.mem_cons.mp hm with e | hm
      · exact w₃.nl (by rw [e]; exact List.mem_cons_self)
      · exact w₃.ni hm
    have hi₄ := w'.i.keep q₄ hni
    have up : ∀ a, a < (h₃.push ob).objs.size → a ∉ env.locals :: foot ρ₃ → a ∉ env.locals :: foot ρ₄ := fun a hl hn' hm => by
      rcases List.mem_cons.mp hm with e | hm
      · exact hn' (by rw [e]; exact List.mem_cons_self)
      · exact fresh_not q₄ hl (fun y => hn' (List.mem_cons_of_mem _ y)) hm
    have sz : h₃.objs.size < (h₃.push ob).objs.size := by rw [Heap.size_push]; exact Nat.lt_succ_self _
    have w₄ : Hid c env ρ₄ h₄ it al src (k + 1) acc₁ vs₄ := by
      refine ⟨hi₄, up it (Nat.lt_trans w₃.i.lt sz) w₃.ni, w₃.bi, hv₄, hl₄, fun hm => ?_, w₃.bl⟩
      rcases List.mem_cons.mp hm with e | hm
      · exact w₃.nl (by rw [e]; exact List.mem_cons_self)
      · exact up al (Nat.lt_trans hal sz) (fun q => w₃.nl (List.mem_cons_of_mem _ q)) hm
    have q₃₄ : Reach [it, al, env.locals] ρ₃ h₃ ρ₄ h₄ := by
      refine ⟨?_, fun b o e hn' => ?_, Nat.le_trans (Nat.le_of_lt sz) q₄.size⟩
      · obtain ⟨new, e, hf'⟩ := q₄.grow
        exact ⟨new, e, fun a ha => Nat.le_trans (Nat.le_of_lt sz) (hf' a ha)⟩
      · refine q₄.keep b o (Heap.get?_push_of_some _ e) fun hm => ?_
        rcases List.mem_cons.mp hm with e' | hm
        · exact absurd (Heap.lt_size e) (by rw [e']; exact Nat.lt_irrefl _)
        · exact hn' (List.mem_cons_of_mem _ hm)
    exact go env A ρ₄ { s with heap := h₄, toks := tk₄, drawn := _ } it al vs₄ R rm i₄ w₄ fun h' tk' ρ' vs'' q' => hR h' tk' ρ' vs'' (((q₂.trans (q₃.more (by simp))).trans q₃₄).trans q')

/-! ### the whole of it -/

noncomputable def relF (scope : Scope) (fd : FD) : Scope :=
  { scope with names := scope.names.map fun (n, k) => if (k == .free && fd.scope.kind == .function && fd.scope.names.lookup n == some .cell) then (n, .cell) else (n, k) }
theorem rel_of {scope : Scope} {env : Env} (h : env.scope = fd.scope) : relabel scope env = relF scope fd := by
  unfold relabel relF Env.kindOf; rw [h]

noncomputable def subCells (cells : List (Str × Nat)) : List (Str × NameKind) → List (Str × Nat)
  | [] => []
  | (x, k) :: r => if k == .free then (match cells.lookup x with | some i => (x, i) :: subCells cells r | none => subCells cells r) else subCells cells r

noncomputable def FD.sub (fd : FD) (scope : Scope) : FD := ⟨relF scope fd, subCells fd.cells scope.names, Option.none⟩

noncomputable def clOf (cells : List (Str × Addr)) : List (Str × NameKind) → List (Str × Addr) → List (Str × Addr)
  | [], acc => acc
  | (x, k) :: r, acc => if k == .free then (match cells.lookup x with | some a => clOf cells r ((x, a) :: acc) | none => clOf cells r acc) else clOf cells r acc

theorem closure_eq {scope : Scope} {env : Env} (h : ∀ x ∈ scope.names, x.2 = .free → (env.cells.lookup x.1).isSome = true) : closureFor scope env = Pure.pure (clOf env.cells scope.names []) := by
  have key : ∀ (names : List (Str × NameKind)) (acc : List (Str × Addr)), (∀ x ∈ names, x.2 = .free → (env.cells.lookup x.1).isSome = true) →
      (forIn names acc fun x (r : List (Str × Addr)) => (if x.2 == .free then do let a ← cellOf env x.1; pure (ForInStep.yield ((x.1, a) :: r)) else pure (ForInStep.yield r) : Sem (ForInStep (List (Str × Addr))))) = Pure.pure (clOf env.cells names acc) := by
    intro names
    induction names with
    | nil => intro acc _; rfl
    | cons q r ih =>
      intro acc hq
      obtain ⟨x, k⟩ := q
      have hr : ∀ y ∈ r, y.2 = .free → (env.cells.lookup y.1).isSome = true := fun y hy => hq y (List.mem_cons_of_mem _ hy)
      rw [List.forIn_cons]
      unfold clOf
      cases hk : k == NameKind.free with
      | false => simp only [hk, Bool.false_eq_true, if_false, pure_bind]; exact ih acc hr
      | true =>
        have hs := hq (x, k) List.mem_cons_self (beq_iff_eq.mp hk)
        obtain ⟨a, ha⟩ := Option.isSome_iff_exists.mp hs
        simp only [hk, if_true, cellOf, ha, pure_bind]
        exact ih _ hr
  have := key scope.names [] h
  unfold closureFor
  refine Eq.trans ?_ this
  refine Eq.trans (bind_pure _) ?_
  congr 1
end
end Mine
end

section
open PySem PySem.W PyProof.Rows
set_option linter.unusedVariables false
namespace Mine

theorem nlt {a b : Nat} (h : a < b) : a < b := h
theorem nle {a b : Nat} (h : a ≤ b) : a ≤ b := h
theorem neq {a b : Nat} (h : a = b) : a = b := h
section
variable {c : Cx} {n : Nat} {fd : FD} {σ σ₁ σ₂ σ₃ σ₄ : S} {X : List Addr} {A : Around} {ρ : List Pl} {s : Shared} {os : List AO} {E : Value → Shared → Prop}

theorem clOf_mem {cells : List (Str × Addr)} : ∀ {names : List (Str × NameKind)} {acc : List (Str × Addr)}, (∀ q ∈ acc, cells.lookup q.1 = some q.2) → ∀ q ∈ clOf cells names acc, cells.lookup q.1 = some q.2
  | [], _, h => h
  | (x, k) :: r, acc, h => by
    unfold clOf
    split
    · split
      · rename_i a ha
        exact clOf_mem fun q hq => by
          rcases List.mem_cons.mp hq with rfl | hq
          · exact ha
          · exact h q hq
      · exact clOf_mem h
    · exact clOf_mem h
theorem clOf_some {cells : List (Str × Addr)} {y : Str} : ∀ {names : List (Str × NameKind)} {acc : List (Str × Addr)}, ((acc.lookup y).isSome = true ∨ ((y, NameKind.free) ∈ names ∧ (cells.lookup y).isSome = true)) → ((clOf cells names acc).lookup y).isSome = true
  | [], _, h => by
    rcases h with h | ⟨h, _⟩
    · exact h
    · cases h
  | (x, k) :: r, acc, h => by
    unfold clOf
    by_cases hk : (k == NameKind.free) = true
    · rw [if_pos hk]
      cases hc : cells.lookup x with
      | none =>
        refine clOf_some ?_
        rcases h with h | ⟨h, h2⟩
        · exact .inl h
        · rcases List.mem_cons.mp h with e | h
          · cases e; rw [hc] at h2; cases h2
          · exact .inr ⟨h, h2⟩
      | some a =>
        refine clOf_some ?_
        rw [List.lookup_cons]
        cases hy : y == x with
        | true => exact .inl rfl
        | false =>
          rcases h with h | ⟨h, h2⟩
          · exact .inl h
          · rcases List.mem_cons.mp h with e | h
            · cases e; simp at hy
            · exact .inr ⟨h, h2⟩
    · rw [if_neg hk]
      refine clOf_some ?_
      rcases h with h | ⟨h, h2⟩
      · exact .inl h
      · rcases List.mem_cons.mp h with e | h
        · cases e; simp at hk
        · exact .inr ⟨h, h2⟩
theorem mem_of_lookup' {α : Type} {l : List (Str × α)} {y : Str} {a : α} (h : l.lookup y = some a) : (y, a) ∈ l := PySem.mem_of_lookup h

theorem subCells_free {cells : List (Str × Nat)} {y : Str} {i : Nat} : ∀ {names : List (Str × NameKind)}, (subCells cells names).lookup y = some i → (y, NameKind.free) ∈ names ∧ cells.lookup y = some i
  | [], h => by cases h
  | (x, k) :: r, h => by
    unfold subCells at h
    by_cases hk : (k == NameKind.free) = true
    · rw [if_pos hk] at h
      cases hc : cells.lookup x with
      | none =>
        rw [hc] at h
        obtain ⟨h1, h2⟩ := subCells_free h
        exact ⟨List.mem_cons_of_mem _ h1, h2⟩
      | some j =>
        rw [hc] at h
        dsimp only at h
        rw [List.lookup_cons] at h
        cases hy : y == x with
        | true =>
          rw [hy] at h; cases h
          have := beq_iff_eq.mp hy; subst this
          have := beq_iff_eq.mp hk; subst this
          exact ⟨List.mem_cons_self, hc⟩
        | false =>
          rw [hy] at h
          obtain ⟨h1, h2⟩ := subCells_free h
          exact ⟨List.mem_cons_of_mem _ h1, h2⟩
    · rw [if_neg hk] at h
      obtain ⟨h1, h2⟩ := subCells_free h
      exact ⟨List.mem_cons_of_mem _ h1, h2⟩

/-- what a comprehension's block must be -/
structure CompOk (fd : FD) (scope : Scope) : Prop where
  kind : scope.kind = .function
  names : ∀ x ∈ scope.names, x.2 = .local → scope.names.lookup x.1 = some .local
  cell : ∀ x ∈ scope.names, x.2 ≠ .cell
  free : ∀ x ∈ scope.names, x.2 = .free → (fd.cells.lookup x.1).isSome = true

theorem CompOk.env {scope : Scope} (k : CompOk fd scope) {env : Env} {vs : List (Str × AV)} {h : Heap} (f : Fre fd vs env ρ h) : ∀ x ∈ scope.names, x.2 = .free → (env.cells.lookup x.1).isSome = true := fun x hx e => by
  obtain ⟨i, hi⟩ := Option.isSome_iff_exists.mp (k.free x hx e)
  obtain ⟨p, _, hp⟩ := f.cells x.1 i hi
  rw [hp]; rfl

/-- the block's own frame -/
theorem CompOk.fre {scope : Scope} (k : CompOk fd scope) {env : Env} {vs : List (Str × AV)} {h h' : Heap} {L : Addr} {m : Str → Option Value} (f : Fre fd vs env ρ h) (hn : h'.Ns L m) :
    Fre (fd.sub scope) [] { newEnv scope L env.globals (clOf env.cells scope.names []) env.qual Option.none Value.none (some env) builtinsNs with scope := relabel scope env } ρ h' := by
  refine ⟨rel_of f.scope, f.glob, f.blt, (fun _ e => by cases e), fun x i e => ?_, m, hn, fun x v e => by cases e⟩
  obtain ⟨h1, h2⟩ := subCells_free e
  obtain ⟨p, hp, hc⟩ := f.cells x i h2
  refine ⟨p, hp, ?_⟩
  have hs : ((clOf env.cells scope.names []).lookup x).isSome = true := clOf_some (.inr ⟨h1, by rw [hc]; rfl⟩)
  obtain ⟨a, ha⟩ := Option.isSome_iff_exists.mp hs
  have := clOf_mem (cells := env.cells) (acc := []) (fun q hq => by cases hq) (x, a) (mem_of_lookup' ha)
  dsimp only at this
  rw [hc] at this; cases this
  exact ha

/-- the state when the block has run, ahead of its names' end -/
structure CompEnd (c : Cx) (fd : FD) (vs : List (Str × AV)) (os : List AO) (acc : List AV) (env : Env) (ρ : List Pl) (h : Heap) (al C : Addr) (ρ' : List Pl) (h' : Heap) : Prop where
  i : In c fd ⟨vs, os ++ [.list acc]⟩ env ρ' h'
  v : VR ρ' (.ref os.length) (.ref al)
  q : Reach [env.locals] ρ h ρ' h'
  ns : ∃ m, h'.Ns C m
  nC : C ∉ env.locals :: foot ρ'
  bC : c.hb.get? C = none
  up : h.objs.size ≤ C

theorem comp_core {elt : Expr} {gens : List Comprehension} {scope : Scope} {pos : Pos} {x : Str} {px : Pos} {iter : Expr} {ifs : List Expr} {a : AV} {src : Src} {acc : List AV} {env : Env} {v : Value} {Q : Value → Addr → Result → Shared → Prop} (k : CompOk fd scope) (hg : gens[0]? = some ⟨.Name x px, iter, ifs, 0⟩)
    (rm : Room A n) (i : In c fd σ env ρ s.heap) (hv : VR ρ a v) (hi : Itr σ.os a src) (h2 : Cp c n (fd.sub scope) elt gens scope pos 0 src 0 ⟨[], σ.os⟩ [] σ₂ acc)
    (hQ : ∀ al C ρ' h' tk', CompEnd c fd σ.vs σ₂.os acc env ρ s.heap al C ρ' h' → ∀ {dr : Drawn}, Q (.ref al) C (.ok .next) { s with heap := h', toks := tk', drawn := dr }) :
    wpAny c.M A (pyIter v) (fun it s₂ => wpAny c.M A (newList []) (fun acc s₃ => wpAny c.M A (newFunctionEnv scope env.globals (clOf env.cells scope.names []) [] env.qual Option.none Value.none (some env)) (fun cenv s₄ =>
      codeAny c.M A (.compStart (.ListComp elt gens scope pos) 0 it acc { cenv with scope := relabel scope env }) (Q acc cenv.locals) s₄) E s₃) E s₂) E s := by
  refine iter_run hi i.rel hv fun ob hit => ?_
  refine wpAny_newObj_type ?_ (by size_fits)
  refine wpAny_newFunctionEnv k.cell (by intro y hy; cases hy) (fun h₁ hns hsb => ?_) k.kind
  dsimp only at hns hsb hit ⊢
  generalize hH1 : s.heap.push ob = H1 at hit hns hsb ⊢
  generalize hH2 : H1.push { cls := .type "list", dict := Option.none, data := .seq ([] : List Value).toArray } = H2 at hns hsb ⊢
  have z1 : H1.objs.size = s.heap.objs.size + 1 := by rw [← hH1, Heap.size_push]
  have z2 : H2.objs.size = H1.objs.size + 1 := by rw [← hH2, Heap.size_push]
  have z3 : h₁.objs.size = H2.objs.size + 1 := by rw [hsb.1, Heap.size_push]
  have keep1 : Keeps s.heap H1 := fun b o e => by rw [← hH1]; exact Heap.get?_push_of_some _ e
  have keep2 : Keeps H1 h₁ := fun b o e => by
    refine hsb.extBut b o (fun q => ?_) (Heap.get?_push_of_some _ (by rw [← hH2]; exact Heap.get?_push_of_some _ e))
    have := nlt (Heap.lt_size e); have q := neq q; omega
  have keep : Keeps s.heap h₁ := fun b o e => keep2 b o (keep1 b o e)
  have hbl : ∀ b, s.heap.objs.size ≤ b → c.hb.get? b = none := fun b hb => by
    cases e : c.hb.get? b with
    | none => rfl
    | some o => exact absurd (Heap.lt_size (i.rel.keep _ _ e)) (Nat.not_lt.mpr hb)
  have live : ∀ b : Nat, b ∈ env.locals :: foot ρ → b < s.heap.objs.size := i.rel.live
  have rO : Rel c [env.locals] σ.os ρ h₁ := i.rel.keeps keep (by omega)
  have rC : Rel c [H2.objs.size] σ.os ρ h₁ := by
    refine ⟨rO.objs, List.nodup_cons.mpr ⟨fun hm => ?_, (List.nodup_cons.mp rO.nodup).2⟩, rO.keep, fun b hb => ?_, fun b hb => ?_⟩
    · have := live _ (List.mem_cons_of_mem _ hm); omega
    · rcases List.mem_cons.mp hb with rfl | hb
      · exact hbl _ (by omega)
      · exact rO.fresh b (List.mem_cons_of_mem _ hb)
    · rcases List.mem_cons.mp hb with rfl | hb
      · refine nlt ?_; omega
      · exact rO.live b (List.mem_cons_of_mem _ hb)
  have iC : In c (fd.sub scope) ⟨[], σ.os⟩ { newEnv scope H2.objs.size env.globals (clOf env.cells scope.names []) env.qual Option.none Value.none (some env) builtinsNs with scope := relabel scope env } ρ h₁ :=
    ⟨rC, k.fre i.fre hns⟩
  have hit' : ItAt src 0 s.heap.objs.size ρ h₁ := by
    refine hit.keep (Reach.keeps [] ρ keep2 (by omega)) fun hm => ?_
    have := live _ (List.mem_cons_of_mem _ hm); omega
  have hl : LL h₁ H1.objs.size ([] : List Value).toArray := by
    refine ⟨0, hsb.extBut _ _ (by intro q; have q := neq q; omega) (Heap.get?_push_of_some _ (by rw [← hH2]; exact Heap.get?_push_size _ rfl))⟩
  have w : Hid c { newEnv scope H2.objs.size env.globals (clOf env.cells scope.names []) env.qual Option.none Value.none (some env) builtinsNs with scope := relabel scope env } ρ h₁ s.heap.objs.size H1.objs.size src 0 [] [] := by
    refine ⟨hit', fun hm => ?_, hbl _ (Nat.le_refl _), trivial, hl, fun hm => ?_, hbl _ (by omega)⟩
    · rcases List.mem_cons.mp hm with e | hm
      · have e := neq e; dsimp only [newEnv] at e; omega
      · have := live _ (List.mem_cons_of_mem _ hm); omega
    · rcases List.mem_cons.mp hm with e | hm
      · have e := neq e; omega
      rcases List.mem_cons.mp hm with e | hm
      · have e := neq e; dsimp only [newEnv] at e; omega
      · have := live _ (List.mem_cons_of_mem _ hm); omega
  refine comp_start (s := { s with heap := h₁, toks := _ }) hg hit' (h2 _ A ρ _ _ _ [] _ rm iC w fun h' tk' ρ' vs' q' i' hv' hl' => ?_)
  intro dr
  obtain ⟨new, rfl, hnew⟩ := q'.grow
  have hnew' : ∀ b : Nat, b ∈ foot new → H2.objs.size < b := fun b hb => by have := nle (hnew b hb); dsimp only at this; omega
  have eL : env.locals ∉ foot (ρ ++ new) := fun hm => by
    rw [foot_append] at hm
    rcases List.mem_append.mp hm with hm | hm
    · exact i.notFoot hm
    · have h1 := hnew' _ hm; have h2 := live _ List.mem_cons_self; omega
  have aF : H1.objs.size ∉ env.locals :: foot (ρ ++ new) := fun hm => by
    rcases List.mem_cons.mp hm with e | hm
    · have := live _ List.mem_cons_self; have e := neq e; omega
    rw [foot_append] at hm
    rcases List.mem_append.mp hm with hm | hm
    · have := live _ (List.mem_cons_of_mem _ hm); omega
    · have := hnew' _ hm; omega
  have len : σ₂.os.length = (ρ ++ new).length := i'.rel.objs.length
  have ff : foot ((ρ ++ new) ++ [⟨H1.objs.size, []⟩]) = foot (ρ ++ new) ++ [H1.objs.size] := by rw [foot_append]; rfl
  have hlive : H1.objs.size < h'.objs.size := hl'.lt
  have notIn : ∀ b : Nat, b < s.heap.objs.size → b ∉ foot ρ → b ∉ [s.heap.objs.size, H1.objs.size, H2.objs.size] ++ foot ρ := fun b hb hn hm => by
    rcases List.mem_cons.mp hm with e | hm
    · have e := neq e; omega
    rcases List.mem_cons.mp hm with e | hm
    · have e := neq e; omega
    rcases List.mem_cons.mp hm with e | hm
    · have e := neq e; omega
    · exact hn hm
  have up : ∀ b o, s.heap.get? b = some o → b ∉ foot ρ → h'.get? b = some o := fun b o e hn => q'.keep b o (keep b o e) (notIn b (Heap.lt_size e) hn)
  have own : ∀ b : Nat, b ∈ env.locals :: foot ((ρ ++ new) ++ [⟨H1.objs.size, []⟩]) → b = env.locals ∨ b ∈ foot (ρ ++ new) ∨ b = H1.objs.size := fun b hb => by
    rw [ff] at hb
    rcases List.mem_cons.mp hb with e | hb
    · exact .inl e
    · rcases List.mem_append.mp hb with hb | hb
      · exact .inr (.inl hb)
      · exact .inr (.inr (List.mem_singleton.mp hb))
  have hh1 : h₁.objs.size ≤ h'.objs.size := q'.size
  refine hQ H1.objs.size H2.objs.size ((ρ ++ new) ++ [⟨H1.objs.size, []⟩]) h' tk' ?_
  have eLlt := live _ List.mem_cons_self
  refine ⟨⟨⟨?_, ?_, i'.rel.keep, fun b hb => ?_, fun b hb => ?_⟩, ?_⟩, ⟨⟨H1.objs.size, []⟩, by rw [len]; simp, rfl⟩, ⟨⟨new ++ [⟨H1.objs.size, []⟩], by simp, fun b hb => ?_⟩, fun b o e hn => ?_, ?_⟩, ?_, fun hm => ?_, hbl _ (by omega), by omega⟩
  · exact (i'.rel.objs.mono [⟨H1.objs.size, []⟩]).append ⟨⟨rfl, vs', hv'.mono _, hl'⟩, trivial⟩
  · rw [ff, ← List.append_assoc]
    refine List.nodup_append.mpr ⟨List.nodup_cons.mpr ⟨eL, (List.nodup_cons.mp i'.rel.nodup).2⟩, by simp, fun b hb b' hb' e => ?_⟩
    simp at hb'; subst hb'; subst e
    exact aF hb
  · rcases own b hb with rfl | hb | rfl
    · exact i.rel.fresh _ List.mem_cons_self
    · exact i'.rel.fresh b (List.mem_cons_of_mem _ hb)
    · exact hbl _ (by omega)
  · rcases own b hb with rfl | hb | rfl
    · refine nlt ?_; omega
    · exact i'.rel.live b (List.mem_cons_of_mem _ hb)
    · exact hlive
  · have f := i.fre
    refine ⟨f.scope, f.glob, f.blt, f.cq, fun y j e => ?_, ?_⟩
    · obtain ⟨p, hp, hc⟩ := f.cells y j e
      exact ⟨p, getElem?_mono (getElem?_mono hp), hc⟩
    · obtain ⟨m, ⟨o, es, ep, ho, r⟩, hm⟩ := f.ns
      refine ⟨m, ⟨o, es, ep, up _ _ ho i.notFoot, r⟩, fun y u e => ?_⟩
      obtain ⟨u', h1, h2⟩ := hm y u e
      exact ⟨u', h1, (h2.mono new).mono _⟩
  · rw [foot_append] at hb
    rcases List.mem_append.mp hb with hb | hb
    · have := hnew' b hb; omega
    · simp [foot] at hb; subst hb; omega
  · exact up b o e fun hm => hn (List.mem_cons_of_mem _ hm)
  · omega
  · exact let ⟨m, hm, _⟩ := i'.fre.ns; ⟨m, hm⟩
  · rcases own _ hm with e | hm | e
    · omega
    · have := (List.nodup_cons.mp i'.rel.nodup).1
      exact this hm
    · omega

theorem Reach.but {X : List Addr} {ρ ρ' : List Pl} {h h' h'' : Heap} {C : Addr} (q : Reach X ρ h ρ' h') (hC : h.objs.size ≤ C) (hs : Heap.SameBut C h' h'') : Reach X ρ h ρ' h'' :=
  ⟨q.grow, fun b o e hn => (hs.2 b (fun e' => absurd (Heap.lt_size e) (by rw [e']; exact Nat.not_lt.mpr hC))).trans (q.keep b o e hn), by rw [hs.1]; exact q.size⟩

theorem Ev.comp {elt : Expr} {gens : List Comprehension} {scope : Scope} {pos : Pos} {x : Str} {px : Pos} {iter : Expr} {ifs : List Expr} {a : AV} {src : Src} {acc : List AV} (h1 : Ev c n fd iter σ a σ₁) (hi : Itr σ₁.os a src) (h2 : Cp c n (fd.sub scope) elt gens scope pos 0 src 0 ⟨[], σ₁.os⟩ [] σ₂ acc)
    (hg : ∃ r, gens = ⟨.Name x px, iter, ifs, 0⟩ :: r) (k : CompOk fd scope) (hs : ∀ env v, foldedSetIterable iter env v = Pure.pure v := by intro _ _; rfl) :
    Ev c n fd (.ListComp elt gens scope pos) σ (.ref σ₂.os.length) ⟨σ₁.vs, σ₂.os ++ [.list acc]⟩ := fun env A ρ s rm i => by
  obtain ⟨r, rfl⟩ := hg
  intro Q E hq
  rw [eval_ListComp]
  refine wpAny_comprehension_free (use := Option.none) (g := ⟨.Name x px, iter, ifs, 0⟩) (gs := r) rfl (hs env) (closure_eq (k.env i.fre)) k.kind k.names ?_
  refine h1 env A ρ s rm i _ _ fun v h₁ tk₁ ρ₁ q₁ p₁ => ?_
  refine comp_core (s := { s with heap := h₁, toks := tk₁, drawn := _ }) (σ := σ₁) (Q := fun acc C r s' => compPost c.M A E Option.none Q acc C r s') k rfl rm p₁.1 p₁.2 hi h2 fun al C ρ' h' tk' e => ?_
  obtain ⟨m, hm⟩ := e.ns
  exact ⟨m, hm, fun h'' hs'' => hq _ h'' tk' ρ' (q₁.trans (e.q.but e.up hs'')) ⟨e.i.iter e.nC e.bC hs''.extBut (Nat.le_of_eq hs''.1.symm), e.v⟩⟩

/-- x = [..]: the name's store comes ahead of the block's names' end -/
theorem Ex.assignComp {y : Str} {py ps : Pos} {elt : Expr} {gens : List Comprehension} {scope : Scope} {pos : Pos} {x : Str} {px : Pos} {iter : Expr} {ifs : List Expr} {a : AV} {src : Src} {acc : List AV} (h1 : Ev c n fd iter σ a σ₁) (hi : Itr σ₁.os a src) (h2 : Cp c n (fd.sub scope) elt gens scope pos 0 src 0 ⟨[], σ₁.os⟩ [] σ₂ acc)
    (hst : Sto fd y (.ref σ₂.os.length) ⟨σ₁.vs, σ₂.os ++ [.list acc]⟩ σ₃)
    (hg : ∃ r, gens = ⟨.Name x px, iter, ifs, 0⟩ :: r) (k : CompOk fd scope) (hw : ∀ env, env.scope = fd.scope → swapsWith (.ListComp elt gens scope pos) (some (.Name y py)) ps.line env = Pure.pure true) (hk : fd.scope.kind = .function := by rfl) (hs : ∀ env v, foldedSetIterable iter env v = Pure.pure v := by intro _ _; rfl) :
    Ex c n fd (.Assign [.Name y py] (.ListComp elt gens scope pos) ps) σ .next σ₃ := fun env A ρ s rm i => by
  obtain ⟨r, rfl⟩ := hg
  intro Q E hq
  rw [exec_Assign_Name_used y py _ ps (hw env i.fre.scope)]
  refine wpAny_bind (wpAny_standAt (wpAny_bind ?_))
  show wpAny c.M A (comprehension (.ListComp elt (⟨.Name x px, iter, ifs, 0⟩ :: r) scope pos) scope env (firstIterPos (⟨.Name x px, iter, ifs, 0⟩ :: r) pos) (newList []) false (eval iter env) (some (PySem.assign (.Name y py) env)) >>= fun _ => pure ()) _ _ _
  refine wpAny_bind (wpAny_comprehension_free (use := some (PySem.assign (.Name y py) env)) (g := ⟨.Name x px, iter, ifs, 0⟩) (gs := r) rfl (hs env) (closure_eq (k.env i.fre)) k.kind k.names ?_)
  refine h1 env A ρ s rm i _ _ fun v h₁ tk₁ ρ₁ q₁ p₁ => ?_
  refine comp_core (s := { s with heap := h₁, toks := tk₁, drawn := _ }) (σ := σ₁) (Q := fun acc C r s' => compPost c.M A E (some (PySem.assign (.Name y py) env)) _ acc C r s') k rfl rm p₁.1 p₁.2 hi h2 fun al C ρ' h' tk' e => ?_
  refine wpAny_assign_Name (hst.run (s := { s with heap := h', toks := tk', drawn := _ }) e.i e.v hk _ _ fun _ h₂ tk₂ ρ₂ q₂ i₂ => ?_)
  intro dr
  obtain ⟨m, o, es, ep, ho, rm'⟩ := e.ns
  have hC := Heap.lt_size ho
  have nC₂ : C ∉ env.locals :: foot ρ₂ := fun hm => by
    rcases List.mem_cons.mp hm with e' | hm
    · exact e.nC (by rw [e']; exact List.mem_cons_self)
    · exact fresh_not q₂ hC (fun z => e.nC (List.mem_cons_of_mem _ z)) hm
  refine ⟨m, ⟨o, es, ep, q₂.keep _ _ ho e.nC, rm'⟩, fun h'' hs'' => wpAny_pure (wpAny_pure ?_)⟩
  exact hq _ h'' tk₂ ρ₂ (q₁.trans ((e.q.trans q₂).but e.up hs'')) ⟨i₂.iter nC₂ e.bC hs''.extBut (Nat.le_of_eq hs''.1.symm), rfl⟩
end
end Mine
end

section
open PySem PySem.W PyProof.Rows
set_option linter.unusedVariables false
namespace Mine

section
variable {c : Cx} {n : Nat} {fd : FD} {σ σ₁ σ₂ σ₃ σ₄ : S} {X : List Addr} {A : Around} {ρ : List Pl} {s : Shared} {os : List AO} {E : Value → Shared → Prop}

/-! ### displays -/
theorem Ev.list {es : List Expr} {pos : Pos} {vs : List AV} (h : Evs c n fd es σ vs σ₁) (hz : vs.length ≤ sizeLine) : Ev c n fd (.List es pos) σ (.ref σ₁.os.length) ⟨σ₁.vs, σ₁.os ++ [.list vs]⟩ := fun env A ρ s rm i => by
  rw [arm_eval_List]
  refine Run.stand (Run.bind (h pos env A ρ s rm i) fun xs h₁ tk₁ ρ₁ q₁ p₁ => p₁.1.op ?_)
  intro Q E hq
  refine wpAny_newObj_type (hq _ _ tk₁ _ (Reach.alloc ρ₁ h₁ _) ⟨p₁.1.rel.none.newList p₁.2, VR.new p₁.1.rel.none⟩) ?_
  show xs.toArray.size ≤ sizeLine
  rw [List.size_toArray, ← p₁.2.length]; exact hz
theorem Ev.tup {es : List Expr} {k : Nat} {pos : Pos} {vs : List AV} (h : Evs c n fd es σ vs σ₁) (hz : vs.length ≤ sizeLine) : Ev c n fd (.Tuple es k pos) σ (.ref σ₁.os.length) ⟨σ₁.vs, σ₁.os ++ [.tup vs]⟩ := fun env A ρ s rm i => by
  rw [arm_eval_Tuple]
  refine Run.stand (Run.bind (h pos env A ρ s rm i) fun xs h₁ tk₁ ρ₁ q₁ p₁ => p₁.1.op ?_)
  intro Q E hq
  refine wpAny_newObj_type (hq _ _ tk₁ _ (Reach.alloc ρ₁ h₁ _) ⟨p₁.1.rel.none.newTup p₁.2, VR.new p₁.1.rel.none⟩) ?_
  show xs.toArray.size ≤ sizeLine
  rw [List.size_toArray, ← p₁.2.length]; exact hz

/-! ### items -/
/-- a value's type, its items read by a built-in -/
inductive Sq (os : List AO) : AV → Prop
  | str {x : Str} : Sq os (.str x)
  | list {i : Nat} {xs : List AV} (h : os[i]? = some (.list xs)) : Sq os (.ref i)
  | tup {i : Nat} {xs : List AV} (h : os[i]? = some (.tup xs)) : Sq os (.ref i)


theorem Sq.gip {a : AV} {x : Value} (h : Sq os a) (r : Rel c X os ρ s.heap) (hv : VR ρ a x) {Q : Bool → Shared → Prop} (hq : Q false s) : wpAny c.M A (getitemInPython x) Q E s := by
  have core : ∀ {T id : String}, s.TypeIs x T → typeLookup (.type T) "__getitem__" = Pure.pure (some (.builtin id)) → wpAny c.M A (getitemInPython x) Q E s := fun hT hl => by
    rw [getitemInPython_of_ne hT.not_modules]
    exact wpAny_bind (wpAny_specialOf hT hl (wpAny_pure hq))
  cases h with
  | str => obtain ⟨t, rfl⟩ := hv; exact core (typeIs_str s _ t) F.slot_str_getitem.lookup
  | list ho => obtain ⟨p, vs, hp, _, rfl, hvs, hpl⟩ := r.list ho hv; exact core hpl.isList.typeIs slot_list_getitem.lookup
  | tup ho => obtain ⟨p, vs, hp, _, rfl, hvs, hpl⟩ := r.tup ho hv; exact core (T := "tuple") hpl.isTup.typeIs F.slot_tuple_getitem.lookup

theorem Ev.sub {value slice : Expr} {pos : Pos} {a b v : AV} {os : List AO} (h1 : Ev c n fd value σ a σ₁) (h2 : Ev c n fd slice σ₁ b σ₂) (hs : Sq σ₂.os a) (h3 : Op2 c n getItem a b σ₂.os v os)
    (hsub : ∀ o i, subscripted slice false o i = operate [o, i] (getItem o i) := by intro _ _; rfl) : Ev c n fd (.Subscript value slice pos) σ v ⟨σ₂.vs, os⟩ := fun env A ρ s rm i => by
  rw [eval_Subscript]
  refine Run.bind (h1 env A ρ s rm i) fun x h₁ tk₁ ρ₁ q₁ p₁ => ?_
  refine Run.bind (Run.holding (h2 env A ρ₁ _ rm p₁.1)) fun y h₂ tk₂ ρ₂ q₂ p₂ => Run.stand ?_
  have ha := p₁.2.reach q₂
  refine Run.bind (P := fun ρ' h' z => (In c fd σ₂ env ρ' h' ∧ VR ρ' a x ∧ VR ρ' b y) ∧ z = false) (fun Q E hq => hs.gip p₂.1.rel ha (hq _ h₂ tk₂ ρ₂ (Reach.refl ..) ⟨⟨p₂.1, ha, p₂.2⟩, rfl⟩)) fun z h₃ tk₃ ρ₃ q₃ p₃ => ?_
  obtain ⟨⟨i₃, ha₃, hb₃⟩, rfl⟩ := p₃
  rw [hsub]
  refine Run.bind (Run.operate (i₃.op (h3 A ρ₃ _ x y rm i₃.rel.none ha₃ hb₃))) fun r h₄ tk₄ ρ₄ q₄ p₄ => ?_
  exact fun Q E hq => wpAny_bind (wpAny_letTemporaryGo (wpAny_pure (hq _ h₄ tk₄ ρ₄ (Reach.refl ..) p₄)))

theorem item_s {x : Str} {i : Int} {ch : Nat} {os : List AO} (hr : (decide (i < -(2 ^ 63 : Int)) || decide (i ≥ 2 ^ 63)) = false) (hc : (seqIndex? i x.length).bind (x.cps[·]?) = some ch) : Op2 c n getItem (.str x) (.int i) os (.str ⟨#[ch]⟩) os :=
  Op2.pure fun _ _ _ _ _ _ _ _ hx hy hq => by obtain ⟨t, rfl⟩ := hx; obtain ⟨u, rfl⟩ := hy; exact P.getItem_str hr hc (hq _ _ ⟨_, rfl⟩)
theorem item_l {i : Nat} {xs : List AV} {k : Int} {v : AV} {os : List AO} (ho : os[i]? = some (.list xs)) (h0 : 0 ≤ k) (hk : k < 2 ^ 63) (hv : xs[k.toNat]? = some v) : Op2 c n getItem (.ref i) (.int k) os v os := fun A ρ s x y rm r hx hy Q E hq => by
  obtain ⟨p, vs, hp, _, rfl, hvs, hpl⟩ := r.list ho hx
  obtain ⟨t, rfl⟩ := hy
  obtain ⟨z, hz, hvz⟩ := hvs.get hv
  exact wpAny_getItem_list hpl.isList h0 hk (by simpa using hz) (hq _ s.heap s.toks ρ (Reach.refl ..) ⟨r, hvz⟩)
theorem item_ln {i : Nat} {xs : List AV} {k : Int} {v : AV} {os : List AO} (ho : os[i]? = some (.list xs)) (h0 : k < 0) (h1 : -(xs.length : Int) ≤ k) (hk : -(2 ^ 63) ≤ k) (hv : xs[(k + xs.length).toNat]? = some v) : Op2 c n getItem (.ref i) (.int k) os v os := fun A ρ s x y rm r hx hy Q E hq => by
  obtain ⟨p, vs, hp, _, rfl, hvs, hpl⟩ := r.list ho hx
  obtain ⟨t, rfl⟩ := hy
  obtain ⟨z, hz, hvz⟩ := hvs.get hv
  have hlen := hvs.length
  exact wpAny_getItem_list_neg hpl.isList h0 (by simpa [← hlen] using h1) hk (by simpa [← hlen] using hz) (hq _ s.heap s.toks ρ (Reach.refl ..) ⟨r, hvz⟩)
theorem item_t {i : Nat} {xs : List AV} {k : Int} {j : Nat} {v : AV} {os : List AO} (ho : os[i]? = some (.tup xs)) (hlo : -(2 ^ 63) ≤ k) (hhi : k < 2 ^ 63) (hj : seqIndex? k xs.length = some j) (hv : xs[j]? = some v) : Op2 c n getItem (.ref i) (.int k) os v os := fun A ρ s x y rm r hx hy Q E hq => by
  obtain ⟨p, vs, hp, _, rfl, hvs, hpl⟩ := r.tup ho hx
  obtain ⟨t, rfl⟩ := hy
  obtain ⟨z, hz, hvz⟩ := hvs.get hv
  have hlen := hvs.length
  exact PyProof.Rows.getItem_tuple hpl.isTup hlo hhi (by simpa [← hlen] using hj) (by simpa using hz) (hq _ s.heap s.toks ρ (Reach.refl ..) ⟨r, hvz⟩)

/-! ### slices -/
noncomputable def PR : Option Int → Value → Prop
  | .none, v => v = .none
  | some i, v => ∃ t, v = .int i t
noncomputable def EvP (c : Cx) (n : Nat) (fd : FD) (e : Option Expr) (σ : S) (v : Option Int) (σ' : S) : Prop :=
  ∀ env A ρ s, Room A n → In c fd σ env ρ s.heap → Run c [env.locals] A ρ s (valueOrNone (evalOpt e env)) fun ρ' h' x => In c fd σ' env ρ' h' ∧ PR v x
theorem EvP.none : EvP c n fd .none σ .none σ := fun _ _ _ _ _ i => Run.pure ⟨i, rfl⟩
theorem EvP.some {e : Expr} {k : Int} (h : Ev c n fd e σ (.int k) σ₁) : EvP c n fd (some e) σ (some k) σ₁ := fun env A ρ s rm i => h env A ρ s rm i

noncomputable def SlOp (c : Cx) (n : Nat) (a : AV) (lo hi st : Option Int) (os : List AO) (v : AV) (os' : List AO) : Prop :=
  ∀ A ρ s x sl vl vu vst, Room A n → Rel c [] os ρ s.heap → VR ρ a x → s.heap.IsSliceOf sl vl vu vst → PR lo vl → PR hi vu → PR st vst → Run c [] A ρ s (getItem x (.ref sl)) fun ρ' h' y => Rel c [] os' ρ' h' ∧ VR ρ' v y

theorem Ev.slice {value : Expr} {lower upper step : Option Expr} {p pos : Pos} {a v : AV} {lo hi st : Option Int} {os : List AO} (h1 : Ev c n fd value σ a σ₁) (h2 : EvP c n fd lower σ₁ lo σ₂) (h3 : EvP c n fd upper σ₂ hi σ₃) (h4 : EvP c n fd step σ₃ st σ₄) (hs : Sq σ₄.os a) (h5 : SlOp c n a lo hi st σ₄.os v os) :
    Ev c n fd (.Subscript value (.Slice lower upper step p) pos) σ v ⟨σ₄.vs, os⟩ := fun env A ρ s rm i => by
  rw [eval_Subscript]
  refine Run.bind (h1 env A ρ s rm i) fun x h₁ tk₁ ρ₁ q₁ p₁ => ?_
  refine Run.bind (P := fun ρ' h' y => ∃ sl vl vu vst, y = .ref sl ∧ In c fd σ₄ env ρ' h' ∧ VR ρ' a x ∧ h'.IsSliceOf sl vl vu vst ∧ PR lo vl ∧ PR hi vu ∧ PR st vst) (Run.holding ?_) fun y h₂ tk₂ ρ₂ q₂ p₂ => Run.stand ?_
  · rw [arm_eval_Slice]
    refine Run.bind (h2 env A ρ₁ _ rm p₁.1) fun vl h₂ tk₂ ρ₂ q₂ p₂ => ?_
    refine Run.bind (Run.holding (h3 env A ρ₂ _ rm p₂.1)) fun vu h₃ tk₃ ρ₃ q₃ p₃ => ?_
    refine Run.bind (Run.holding (h4 env A ρ₃ _ rm p₃.1)) fun vst h₄ tk₄ ρ₄ q₄ p₄ => ?_
    intro dr
    intro Q E hq
    refine wpAny_newObj_type (hq _ _ tk₄ ρ₄ (Reach.waste _ ρ₄ h₄ _) ⟨h₄.objs.size, vl, vu, vst, rfl, p₄.1.lift (Reach.waste [] ρ₄ h₄ _) (p₄.1.rel.none.waste _), ((p₁.2.reach q₂).reach q₃).reach q₄, Heap.IsSliceOf.new h₄ vl vu vst, p₂.2, p₃.2, p₄.2⟩) (by size_fits)
  · obtain ⟨sl, vl, vu, vst, rfl, i₂, ha, hsl, hl, hu, ht⟩ := p₂
    refine Run.bind (P := fun ρ' h' z => (In c fd σ₄ env ρ' h' ∧ VR ρ' a x ∧ h'.IsSliceOf sl vl vu vst) ∧ z = false) (fun Q E hq => hs.gip i₂.rel ha (hq _ _ tk₂ ρ₂ (Reach.refl ..) ⟨⟨i₂, ha, hsl⟩, rfl⟩)) fun z h₃ tk₃ ρ₃ q₃ p₃ => ?_
    intro dr
    obtain ⟨⟨i₃, ha₃, hsl₃⟩, rfl⟩ := p₃
    have hsub : ∃ l, subscripted (.Slice lower upper step p) false x (.ref sl) = PySem.operate l (getItem x (.ref sl)) := by cases step <;> exact ⟨_, rfl⟩
    obtain ⟨l, hl'⟩ := hsub
    rw [hl']
    refine Run.bind (Run.operate (i₃.op (h5 A ρ₃ _ x sl vl vu vst rm i₃.rel.none ha₃ hsl₃ hl hu ht))) fun r h₄ tk₄ ρ₄ q₄ p₄ => ?_
    exact fun Q E hq => wpAny_bind (wpAny_letTemporaryGo (wpAny_pure (hq _ h₄ tk₄ ρ₄ (Reach.refl ..) p₄)))
end
end Mine
end

section
open PySem PySem.W PyProof.Rows
set_option linter.unusedVariables false
namespace Mine

section
variable {c : Cx} {n : Nat} {fd : FD} {σ σ₁ σ₂ σ₃ σ₄ : S} {X : List Addr} {A : Around} {ρ : List Pl} {s : Shared} {os : List AO} {E : Value → Shared → Prop}

theorem VRs.ints {ns : List Int} {vs : List Value} (h : VRs ρ (ns.map .int) vs) : IntsAre vs ns := by
  induction ns generalizing vs with
  | nil => cases vs with
    | nil => exact .nil
    | cons v vs => exact h.elim
  | cons x xs ih =>
    obtain ⟨_, _, rfl, ⟨t, rfl⟩, g⟩ := h.dS
    exact .cons _ t (ih g)
theorem VRs.strs {ss : List Str} {vs : List Value} (h : VRs ρ (ss.map .str) vs) : StrsAre vs ss := by
  induction ss generalizing vs with
  | nil => cases vs with
    | nil => exact .nil
    | cons v vs => exact h.elim
  | cons x xs ih =>
    obtain ⟨_, _, rfl, ⟨t, rfl⟩, g⟩ := h.dS
    exact .cons _ t (ih g)
theorem VRs.ofInts {ns : List Int} {vs : List Value} (h : IntsAre vs ns) : VRs ρ (ns.map .int) vs := by
  induction h with
  | nil => exact trivial
  | cons k t r ih => exact ⟨⟨t, rfl⟩, ih⟩
theorem VRs.ofStrs {ss : List Str} {vs : List Value} (h : StrsAre vs ss) : VRs ρ (ss.map .str) vs := by
  induction h with
  | nil => exact trivial
  | cons k t r ih => exact ⟨⟨t, rfl⟩, ih⟩
theorem VRs.pairs : ∀ {ss : List Str} {vs : List Value}, VRs ρ (ss.map .str) vs → ∃ l : List (Str × Tok), vs = strValues l ∧ l.map (·.1) = ss
  | [], [], _ => ⟨[], rfl, rfl⟩
  | x :: _, _ :: _, h => by
    obtain ⟨⟨t, rfl⟩, h⟩ := h
    obtain ⟨l, h1, h2⟩ := VRs.pairs h
    exact ⟨(x, t) :: l, by rw [h1]; rfl, by rw [List.map_cons, h2]⟩

/-- an operation that makes things and keeps all that was -/
theorem Op.keeps {t : List Value → Sem Value} {as : List AV} {v : AV} {os : List AO}
    (h : ∀ (A : Around) (ρ : List Pl) (s : Shared) (xs : List Value) (Q : Value → Shared → Prop) (E : Value → Shared → Prop), Room A n → Rel c [] os ρ s.heap → VRs ρ as xs → (∀ z h' tk, Keeps s.heap h' → VR ρ v z → Q z { s with heap := h', toks := tk }) → wpAny c.M A (t xs) Q E s) :
    Op c n t as os v os := fun A ρ s xs rm r hx => Run.wp fun Q E hq => h A ρ s xs Q E rm r hx fun z h' tk k hz => hq z h' tk ρ fun sz => ⟨Reach.keeps [] ρ k sz, r.keeps k sz, hz⟩

/-! ### lists -/
theorem len_l {i : Nat} {xs : List AV} (ho : os[i]? = some (.list xs)) (hz : xs.length ≤ sizeLine) : CallR c n (.builtin "len") [.ref i] os (.int xs.length) os :=
  Op.keeps fun A ρ s vs Q E rm r hx hq => by
    obtain ⟨_, rfl, hv⟩ := VRs.d1 hx
    obtain ⟨p, vs, hp, _, rfl, hvs, hpl⟩ := r.list ho hv
    refine Calls.call_len_list hpl.isList ?_ (hq _ s.heap _ (fun _ _ e => e) ⟨s.toks + 1, ?_⟩)
    · rw [List.size_toArray, ← hvs.length]; rw [sizeLine_eq] at hz; omega
    · rw [List.size_toArray, ← hvs.length]
theorem tru_l {i : Nat} {xs : List AV} (ho : os[i]? = some (.list xs)) (hz : xs.length ≤ sizeLine) : Tru c n (.ref i) os (xs.length != 0) := fun A ρ s v rm r hv => Run.wp fun Q E hq => by
  obtain ⟨p, vs, hp, _, rfl, hvs, hpl⟩ := r.list ho hv
  refine wpAny_truthy_list hpl.isList (by rw [List.size_toArray, ← hvs.length]; rw [sizeLine_eq] at hz; omega) (hq _ s.heap _ ρ fun sz => ⟨Reach.refl .., r, ?_⟩)
  rw [hvs.length]; cases vs <;> rfl
theorem tru_t {i : Nat} {xs : List AV} (ho : os[i]? = some (.tup xs)) (hz : xs.length ≤ sizeLine) : Tru c n (.ref i) os (xs.length != 0) := fun A ρ s v rm r hv => Run.wp fun Q E hq => by
  obtain ⟨p, vs, hp, _, rfl, hvs, hpl⟩ := r.tup ho hv
  refine truthy_tuple hpl.isTup (by rw [List.size_toArray, ← hvs.length]; rw [sizeLine_eq] at hz; omega) (hq _ s.heap _ ρ fun sz => ⟨Reach.refl .., r, ?_⟩)
  rw [hvs.length]; cases vs <;> rfl
theorem sum_l {i : Nat} {ns : List Int} (ho : os[i]? = some (.list (ns.map .int))) : CallR c n (.builtin "sum") [.ref i] os (.int ns.sum) os :=
  Op.keeps fun A ρ s vs Q E rm r hx hq => by
    obtain ⟨_, rfl, hv⟩ := VRs.d1 hx
    obtain ⟨p, vs, hp, _, rfl, hvs, hpl⟩ := r.list ho hv
    have hi := hvs.ints
    obtain ⟨xs, e⟩ := hi.allInts.items
    have hl := hpl.isList
    rw [e] at hl
    refine sum_intListG rm.handled hl fun h' tk t' hk => hq _ h' tk hk ⟨t', ?_⟩
    have e1 : (numsOf (intItems xs).toList).sum = ns.sum := by rw [← e, ← hi.numsOf]
    rw [nums_intItems] at e1
    rw [preSum_eq, List.take_of_length_le (by simp), e1]
theorem ints_items {vs : List Value} {ns : List Int} {xs : Array (Int × Tok)} (hi : IntsAre vs ns) (e : vs.toArray = intItems xs) : ns = xs.toList.map (·.1) := by rw [← hi.numsOf, ← nums_intItems, ← e]
theorem min_l {i : Nat} {ns : List Int} {m : Int} (ho : os[i]? = some (.list (ns.map .int))) (h1 : m ∈ ns) (h2 : ∀ a ∈ ns, m ≤ a) : CallR c n (.builtin "min") [.ref i] os (.int m) os :=
  Op.keeps fun A ρ s vs Q E rm r hx hq => by
    obtain ⟨_, rfl, hv⟩ := VRs.d1 hx
    obtain ⟨p, vs, hp, _, rfl, hvs, hpl⟩ := r.list ho hv
    have hi := hvs.ints
    obtain ⟨xs, e⟩ := hi.allInts.items
    have hl := hpl.isList
    rw [e] at hl
    have hns := ints_items hi e
    have hsz : 0 < xs.size := by
      have h3 := List.length_pos_of_mem h1; rw [hns, List.length_map, Array.length_toList] at h3; exact h3
    refine min_intList rm.handled hl hsz fun v h' tk hv hk => ?_
    obtain ⟨t, rfl⟩ := intItems_at hv
    obtain ⟨g1, g2⟩ := argBest_lt (numAt xs) (xs.size - 1)
    refine hq _ h' tk hk ⟨t, ?_⟩
    congr 1
    have a1 : numAt xs (argBest (fun i j => decide (numAt xs i < numAt xs j)) (xs.size - 1)) ∈ ns := by
      rw [hns, numAt_eq]; exact getD_mem (by rw [List.length_map, Array.length_toList]; omega)
    have a2 := h2 _ a1
    have a3 : numAt xs (argBest (fun i j => decide (numAt xs i < numAt xs j)) (xs.size - 1)) ≤ m := by
      rw [hns] at h1
      obtain ⟨j, hj, rfl⟩ := mem_getD h1
      rw [List.length_map, Array.length_toList] at hj
      rw [← numAt_eq]; exact g2 j (by omega)
    omega
theorem add_l {i j : Nat} {xs ys : List AV} (ho : os[i]? = some (.list xs)) (ho' : os[j]? = some (.list ys)) (hz : xs.length + ys.length ≤ sizeLine) : Op2 c n (binaryOp .Add) (.ref i) (.ref j) os (.ref os.length) (os ++ [.list (xs ++ ys)]) := fun A ρ s x y rm r hx hy Q E hq => by
  obtain ⟨p, vs, hp, _, rfl, hvs, ⟨k, hpl⟩⟩ := r.list ho hx
  obtain ⟨p', vs', hp', _, rfl, hvs', ⟨k', hpl'⟩⟩ := r.list ho' hy
  have e : vs.toArray ++ vs'.toArray = (vs ++ vs').toArray := by simp
  refine concat_meets ⟨_, hpl, rfl⟩ ⟨_, hpl', rfl⟩ noFill_list_add seq_list_add PySem.F.slot_list_add PySem.F.entry_list_add (PySem.F.args_list_add_2 _ _) (list_addW p.a p'.a vs.toArray vs'.toArray k k' .none .none #[] #[] (by simpa [← hvs.length, ← hvs'.length] using hz)) ⟨hpl, hpl', ?_⟩
  rw [e]
  exact hq _ _ s.toks _ (Reach.alloc ρ s.heap _) ⟨r.newList (hvs.append hvs'), VR.new r⟩
end
end Mine
end

section
open PySem PySem.W PyProof.Rows PyProof.V PySem.Spec PySem.SeqAt
set_option linter.unusedVariables false
namespace Mine

section
variable {c : Cx} {n : Nat} {fd : FD} {σ σ₁ σ₂ σ₃ σ₄ : S} {X : List Addr} {A : Around} {ρ : List Pl} {s : Shared} {os : List AO} {E : Value → Shared → Prop}

theorem Rel.new {h h' : Heap} {D : Addr} {o : AO} (r : Rel c X os ρ h) (k : Keeps h h') (sz : h.objs.size ≤ h'.objs.size) (hD : h.objs.size ≤ D) (hlt : D < h'.objs.size) (y : OR c (ρ ++ [⟨D, []⟩]) o ⟨D, []⟩ h') : Rel c X (os ++ [o]) (ρ ++ [⟨D, []⟩]) h' := by
  have r' := r.keeps k sz
  have ff : foot (ρ ++ [⟨D, []⟩]) = foot ρ ++ [D] := by rw [foot_append]; rfl
  have nb : c.hb.get? D = Option.none := by
    cases e : c.hb.get? D with
    | none => rfl
    | some o => exact absurd (Heap.lt_size (r.keep _ _ e)) (Nat.not_lt.mpr hD)
  refine ⟨(r'.objs.mono [⟨D, []⟩]).append ⟨y, trivial⟩, ?_, r'.keep, fun a ha => ?_, fun a ha => ?_⟩
  · rw [ff, ← List.append_assoc]
    refine List.nodup_append.mpr ⟨r.nodup, by simp, fun a ha b hb e => ?_⟩
    simp at hb; subst hb
    exact absurd (r.live a ha) (by rw [e]; exact Nat.not_lt.mpr hD)
  · rw [ff, ← List.append_assoc] at ha
    rcases List.mem_append.mp ha with ha | ha
    · exact r.fresh a ha
    · simp at ha; subst ha; exact nb
  · rw [ff, ← List.append_assoc] at ha
    rcases List.mem_append.mp ha with ha | ha
    · exact r'.live a ha
    · simp at ha; subst ha; exact hlt
theorem Reach.new {h h' : Heap} {D : Addr} (k : Keeps h h') (sz : h.objs.size ≤ h'.objs.size) (hD : h.objs.size ≤ D) : Reach [] ρ h (ρ ++ [⟨D, []⟩]) h' :=
  ⟨⟨[⟨D, []⟩], rfl, fun a ha => by simp [foot] at ha; rw [ha]; exact hD⟩, fun a o e _ => k a o e, sz⟩
theorem VR.newAt {h : Heap} {D : Addr} (r : Rel c X os ρ h) : VR (ρ ++ [⟨D, []⟩]) (.ref os.length) (.ref D) := ⟨⟨D, []⟩, by rw [r.objs.length]; simp, rfl⟩

/-- an operation that makes one object -/
theorem Op.makes {t : List Value → Sem Value} {as : List AV} {os : List AO} {o : AO}
    (h : ∀ (A : Around) (ρ : List Pl) (s : Shared) (xs : List Value) (Q : Value → Shared → Prop) (E : Value → Shared → Prop), Room A n → Rel c [] os ρ s.heap → VRs ρ as xs → (∀ D h' tk, Keeps s.heap h' → s.heap.objs.size ≤ D → D < h'.objs.size → OR c (ρ ++ [⟨D, []⟩]) o ⟨D, []⟩ h' → Q (.ref D) { s with heap := h', toks := tk }) → wpAny c.M A (t xs) Q E s) :
    Op c n t as os (.ref os.length) (os ++ [o]) := fun A ρ s xs rm r hx => Run.wp fun Q E hq => h A ρ s xs Q E rm r hx fun D h' tk k hD hlt y => hq _ h' tk (ρ ++ [⟨D, []⟩]) fun sz => ⟨Reach.new k sz hD, r.new k sz hD hlt y, VR.newAt r⟩
theorem OR.mkList {D : Addr} {h : Heap} {xs : List AV} {vs : List Value} {ρ' : List Pl} (hv : VRs ρ xs vs) (new : List Pl) (e : ρ' = ρ ++ new) (hl : LL h D vs.toArray) : OR c ρ' (.list xs) ⟨D, []⟩ h := ⟨rfl, vs, e ▸ hv.mono new, hl⟩

/-! ### range, list -/
theorem range1 {k : Int} : CallR c n (.type "range") [.int k] os (.ref os.length) (os ++ [.rng 0 k]) := Op.makes fun A ρ s xs Q E rm r hx hq => by
  obtain ⟨_, rfl, ⟨t, rfl⟩⟩ := VRs.d1 hx
  refine callType_new F.called_range (by decide) (F.typeCall_range_1 _) (F.newCall_range_1 _) (fun obj => F.initArgs_range_1 obj _) F.entry_range_new (AutoRange.range___new___type_int_0 k t F.called_range.sub) ⟨⟨_, Heap.get?_push_size _ rfl, rfl⟩, ?_⟩
  exact hq _ _ _ (fun b o e => Heap.get?_push_of_some _ e) (Nat.le_refl _) (by rw [Heap.size_push]; exact Nat.lt_succ_self _) ⟨rfl, _, _, _, Heap.get?_push_size _ rfl⟩
theorem range2 {j k : Int} : CallR c n (.type "range") [.int j, .int k] os (.ref os.length) (os ++ [.rng j k]) := Op.makes fun A ρ s xs Q E rm r hx hq => by
  obtain ⟨_, _, rfl, ⟨t, rfl⟩, ⟨u, rfl⟩⟩ := VRs.d2 hx
  refine callType_new F.called_range (by decide) (F.typeCall_range_2 _ _) (F.newCall_range_2 _ _) (fun obj => F.initArgs_range_2 obj _ _) F.entry_range_new (AutoRange.range___new___type_int_int_0 j k t u F.called_range.sub) ⟨⟨_, Heap.get?_push_size _ rfl, rfl⟩, ?_⟩
  exact hq _ _ _ (fun b o e => Heap.get?_push_of_some _ e) (Nat.le_refl _) (by rw [Heap.size_push]; exact Nat.lt_succ_self _) ⟨rfl, _, _, _, Heap.get?_push_size _ rfl⟩

theorem VRs.of_get {xs : List AV} : ∀ {vs : List Value}, xs.length = vs.length → (∀ (j : Nat) x v, xs[j]? = some x → vs[j]? = some v → VR ρ x v) → VRs ρ xs vs := by
  induction xs with
  | nil => intro vs h _; cases vs <;> first | exact trivial | cases h
  | cons x xs ih =>
    intro vs h hg
    cases vs with
    | nil => cases h
    | cons v vs => exact ⟨hg 0 x v rfl rfl, ih (by simpa using h) fun j x' v' h1 h2 => hg (j + 1) x' v' (by simpa using h1) (by simpa using h2)⟩

/-- the signs of a text, each a text -/
noncomputable def signs (x : Str) : List Str := x.cps.toList.map fun ch => ⟨#[ch]⟩
theorem list_str {x : Str} (hz : x.length ≤ sizeLine) : CallR c n (.type "list") [.str x] os (.ref os.length) (os ++ [.list ((signs x).map .str)]) := Op.makes fun A ρ s xs Q E rm r hx hq => by
  obtain ⟨_, rfl, ⟨t, rfl⟩⟩ := VRs.d1 hx
  refine call_list_str rm.handled x t (fun h' tk acc k hk hl hi => ?_) hz
  refine hq _ h' tk hk (Nat.le_refl _) (Heap.lt_size hl) ⟨rfl, acc.toList, ?_, k, by simpa using hl⟩
  obtain ⟨h1, h2⟩ := hi
  refine VRs.of_get (by simp [signs, h1]) fun j y v e1 e2 => ?_
  obtain ⟨ch, u, e3, rfl⟩ := h2 j v (by simpa using e2)
  simp [signs, e3] at e1
  subst e1
  exact ⟨u, rfl⟩
/-! ### sorted -/
/-! ### lists compared -/
theorem shaped_strs {ss : List Str} (h : ss.all PyData.strOk = true) : shaped (.list (ss.map PyData.str)) = true := by
  show (PyData.canLay0 (.list (ss.map PyData.str)) && decide (PyData.depth (.list (ss.map PyData.str)) ≤ 64)) = true
  rw [Bool.and_eq_true]
  refine ⟨by simp only [PyData.canLay0]; rw [canLayAll_strs']; exact h, ?_⟩
  simp only [PyData.depth, depthAll_strs']; decide
theorem noMix_strs : ∀ xs ys : List Str, noMixAll (xs.map PyData.str) (ys.map PyData.str) = true
  | [], [] => by simp [noMixAll]
  | [], _ :: _ => by simp [noMixAll]
  | _ :: _, [] => by simp [noMixAll]
  | _ :: r, _ :: q => by simp [noMixAll, noMix, noMix_strs r q]
theorem same_strs : ∀ xs ys : List Str, PySem.Spec.sameAll (xs.map PyData.str) (ys.map PyData.str) = decide (xs = ys)
  | [], [] => by simp [PySem.Spec.sameAll]
  | [], _ :: _ => by simp [PySem.Spec.sameAll]
  | _ :: _, [] => by simp [PySem.Spec.sameAll]
  | x :: r, y :: q => by
    simp only [List.map_cons, PySem.Spec.sameAll, PySem.Spec.same, same_strs r q]
    by_cases h : x = y <;> simp [h]
theorem Rel.strs {h : Heap} {i : Nat} {ss : List Str} {v : Value} (r : Rel c X os ρ h) (ho : os[i]? = some (.list (ss.map .str))) (hv : VR ρ (.ref i) v) : ∃ a, Reads h v (.list (ss.map PyData.str)) a := by
  obtain ⟨p, vs, hp, _, rfl, hvs, k, hpl⟩ := r.list ho hv
  exact ⟨_, Reads.list hpl rfl rfl (by simpa using hvs.strs.reads h)⟩
theorem ne_ls {i j : Nat} {xs ys : List Str} (ho : os[i]? = some (.list (xs.map .str))) (ho' : os[j]? = some (.list (ys.map .str))) (h1 : xs.all PyData.strOk = true) (h2 : ys.all PyData.strOk = true) : Op2 c n (compareOp .NotEq) (.ref i) (.ref j) os (.bool (!decide (xs = ys))) os := fun A ρ s x y rm r hx hy Q E hq => by
  obtain ⟨a, ra⟩ := r.strs ho hx
  obtain ⟨b, rb⟩ := r.strs ho' hy
  exact ne_dataH_same ra rb (shaped_strs h1) (shaped_strs h2) (by have := rm.units; omega) (by simp only [noMix]; exact noMix_strs xs ys) (by simp only [PySem.Spec.same]; rw [same_strs]; exact hq _ s.heap s.toks ρ (Reach.refl ..) ⟨r, rfl⟩)
/-! ### pop -/
theorem pop0_l {i : Nat} {x : AV} {xs : List AV} (ho : os[i]? = some (.list (x :: xs))) (hz : xs.length + 1 ≤ sizeLine) : CallR c n (.builtin "list.pop") [.ref i, .int 0] os x (os.set i (.list xs)) := fun A ρ s zs rm r hx Q E hq => by
  obtain ⟨a, _, rfl, ha, ⟨u, rfl⟩⟩ := VRs.d2 hx
  obtain ⟨p, vs, hp, hm, rfl, hvs, ⟨k, hl⟩⟩ := r.list ho ha
  cases vs with
  | nil => exact hvs.elim
  | cons v vs =>
    have hlen := hvs.2.length
    refine call_meets PySem.F.slot_list_pop ⟨_, hl, rfl⟩ PySem.F.entry_list_pop (PySem.F.args_list_pop_2 _ _) (PySem.MeetsSeq.list_pop_at p.a _ k 0 u 0 v (by decide) (by simp [seqIndex?]) (by simp) (by simp; omega)) ⟨hl, ?_⟩
    refine hq _ _ s.toks ρ (Reach.set hp (Heap.SameBut.update ..)) ⟨r.setList hp hm ⟨_, Heap.get?_update_self _ hl rfl⟩ (Heap.SameBut.update ..) ?_, hvs.1⟩
    simpa using hvs.2
end
end Mine
end

section
open PySem PySem.W PyProof.Rows PyProof.V PySem.Spec PySem.SeqAt
set_option linter.unusedVariables false
set_option maxRecDepth 100000
namespace Mine

section
variable {c : Cx} {n : Nat} {fd : FD} {σ σ₁ σ₂ σ₃ σ₄ : S} {X : List Addr} {A : Around} {ρ : List Pl} {s : Shared} {os : List AO} {E : Value → Shared → Prop}
open Builtin Builtin.Str

/-! ### split, join, find -/
theorem split_s {x y : Str} (hy : y.length ≠ 0) (hz : x.length ≤ sizeLine) (hz2 : (partsBetween x (occurrences x y 0 x.length (x.length + 1)) y.length).length ≤ sizeLine) :
    CallR c n (.builtin "str.split") [.str x, .str y] os (.ref os.length) (os ++ [.list ((Txt.split x y).map .str)]) := Op.makes fun A ρ s xs Q E rm r hx hq => by
  obtain ⟨_, _, rfl, ⟨t, rfl⟩, ⟨u, rfl⟩⟩ := VRs.d2 hx
  have hy' : (y.length == 0) = false := by simpa using hy
  have fin : ∀ (l : List (Str × Tok)) (tk : Nat), l.map (·.1) = Txt.split x y → Q (.ref s.heap.objs.size) { s with heap := s.heap.push { cls := .type "list", data := .seq (strValues l).toArray }, toks := tk } := fun l tk e => by
    refine hq _ _ tk (fun b o e => Heap.get?_push_of_some _ e) (Nat.le_refl _) (by rw [Heap.size_push]; exact Nat.lt_succ_self _) ⟨rfl, strValues l, ?_, 0, Heap.get?_push_size _ rfl⟩
    rw [← e]
    clear e
    induction l with
    | nil => exact trivial
    | cons q l ih => exact ⟨⟨q.2, rfl⟩, ih⟩
  cases h1 : (decide (x.length < y.length) || decide (strKind x < strKind y))
  · cases hf : (occurrences x y 0 x.length (x.length + 1)).isEmpty
    · refine call_meets F.slot_str_split (typeIs_str _ _ _) F.entry_str_split (F.args_str_split_2 _ _) (meets_str_split_sep x y t u h1 hy' hf hz hz2) ?_
      show wants Q E _ { s with toks := _, heap := s.heap.push { cls := .type "list", data := .seq (strsFrom s.toks (partsBetween x (occurrences x y 0 x.length (x.length + 1)) y.length)).toArray } }
      rw [strsFrom_eq]
      exact fin (numbered s.toks _) _ ((numbered_texts _ _).trans ((if_neg (ne_true_of_eq_false h1)).trans (if_neg (ne_true_of_eq_false hf))).symm)
    · exact call_meets F.slot_str_split (typeIs_str _ _ _) F.entry_str_split (F.args_str_split_2 _ _) (meets_str_split_not_found x y t u h1 hy' hf)
        (fin [(x, t)] s.toks ((if_neg (ne_true_of_eq_false h1)).trans (if_pos hf)).symm)
  · exact call_meets F.slot_str_split (typeIs_str _ _ _) F.entry_str_split (F.args_str_split_2 _ _) (meets_str_split_cannot_occur x y t u h1)
      (fin [(x, t)] s.toks (if_pos h1).symm)

theorem join_s {x : Str} {i : Nat} {ss : List Str} (ho : os[i]? = some (.list (ss.map .str))) (hok : JoinOk x ss = true) : CallR c n (.builtin "str.join") [.str x, .ref i] os (.str (Txt.join x ss)) os := Op.keeps fun A ρ s vs Q E rm r hx hq => by
  obtain ⟨_, _, rfl, ⟨t, rfl⟩, hv⟩ := VRs.d2 hx
  obtain ⟨p, vs, hp, _, rfl, hvs, hpl⟩ := r.list ho hv
  obtain ⟨l, rfl, hl⟩ := hvs.pairs
  exact SC.join hpl.isList hl hok fun t' k => hq _ s.heap k (fun _ _ e => e) ⟨t', rfl⟩

/-- the place of y in x, from lo to hi -/
noncomputable def find4 (x y : Str) (lo hi : Nat) : Int := match occurrences x y lo (min hi x.length) 1 with | k :: _ => (k : Int) | [] => -1
theorem gives_find4 (x y : Str) (i j : Nat) (t u v w : Tok) : Gives («str.find» ⟨[.str x t, .str y u, .int (i : Int) v, .int (j : Int) w], []⟩) (.int (find4 x y i j)) := by
  have e1 : (max (0 : Int) (if ((i : Nat) : Int) < 0 then ((i : Nat) : Int) + (x.length : Int) else ((i : Nat) : Int))).toNat = i := by rw [if_neg (by omega)]; omega
  have e2 : (max (0 : Int) (if ((j : Nat) : Int) < 0 then ((j : Nat) : Int) + (x.length : Int) else ((j : Nat) : Int))).toNat = j := by rw [if_neg (by omega)]; omega
  show Gives (match occurrences x y ((max (0 : Int) (if ((i : Nat) : Int) < 0 then ((i : Nat) : Int) + (x.length : Int) else ((i : Nat) : Int))).toNat) (min ((max (0 : Int) (if ((j : Nat) : Int) < 0 then ((j : Nat) : Int) + (x.length : Int) else ((j : Nat) : Int))).toNat) x.length) 1 with | k :: _ => retInt k | [] => (do rule "str.find.not-found"; retInt (-1))) _
  rw [e1, e2]
  unfold find4
  cases occurrences x y i (min j x.length) 1 with
  | nil => exact .rule (.of_eq rfl)
  | cons k _ => exact .of_eq rfl
theorem find_s {x y : Str} {i j : Nat} : CallR c n (.builtin "str.find") [.str x, .str y, .int (i : Int), .int (j : Int)] os (.int (find4 x y i j)) os := Op.keeps fun A ρ s vs Q E rm r hx hq => by
  obtain ⟨_, _, _, _, rfl, ⟨t, rfl⟩, ⟨u, rfl⟩, ⟨v, rfl⟩, ⟨w, rfl⟩⟩ := VRs.d4 hx
  exact call_gives F.slot_str_find (typeIs_str _ _ _) F.entry_str_find (F.args_str_find_4 _ _ _ _) (gives_find4 x y i j t u v w) (hq _ s.heap _ (fun _ _ e => e) ⟨_, rfl⟩)

/-! ### methods -/
theorem mth_s {x : Str} {name : Str} {id : String} (slot : Slot "str" name id) (ty : typeOf (.builtin id) = Pure.pure (.type "method_descriptor")) : Mth c n (.str x) name os (.builtin id) := fun A ρ s v pl rm r hv Q E hq => by
  obtain ⟨t, rfl⟩ := hv
  exact GM.of (.str x t) (typeIs_str _ _ _) slot ty GM.noRef (hq _ s.heap s.toks ρ (Reach.refl ..) ⟨r, rfl⟩)
theorem mth_split {x : Str} : Mth c n (.str x) "split" os (.builtin "str.split") := mth_s F.slot_str_split F.type_str_split
theorem mth_join {x : Str} : Mth c n (.str x) "join" os (.builtin "str.join") := mth_s F.slot_str_join F.type_str_join
theorem mth_find {x : Str} : Mth c n (.str x) "find" os (.builtin "str.find") := mth_s F.slot_str_find F.type_str_find
theorem mth_count {x : Str} : Mth c n (.str x) "count" os (.builtin "str.count") := mth_s F.slot_str_count F.type_str_count
theorem mth_l {i : Nat} {xs : List AV} {name : Str} {id : String} (ho : os[i]? = some (.list xs)) (slot : Slot "list" name id) (ty : typeOf (.builtin id) = Pure.pure (.type "method_descriptor")) : Mth c n (.ref i) name os (.builtin id) := fun A ρ s v pl rm r hv Q E hq => by
  obtain ⟨p, vs, hp, _, rfl, hvs, k, hpl⟩ := r.list ho hv
  refine getMethod_builtin ⟨_, hpl, rfl⟩ F.plainAttrs_list slot ty (fun a e => ?_) (hq _ s.heap s.toks ρ (Reach.refl ..) ⟨r, rfl⟩)
  cases e
  exact ⟨_, hpl, rfl⟩
theorem mth_append {i : Nat} {xs : List AV} (ho : os[i]? = some (.list xs)) : Mth c n (.ref i) "append" os (.builtin "list.append") := mth_l ho F.slot_list_append F.type_list_append
theorem mth_pop {i : Nat} {xs : List AV} (ho : os[i]? = some (.list xs)) : Mth c n (.ref i) "pop" os (.builtin "list.pop") := mth_l ho F.slot_list_pop F.type_list_pop
theorem mth_index {i : Nat} {xs : List AV} (ho : os[i]? = some (.list xs)) : Mth c n (.ref i) "index" os (.builtin "list.index") := mth_l ho F.slot_list_index F.type_list_index

/-! ### slices -/
noncomputable def cutLo (n : Nat) (lo : Option Int) : Nat := lo.elim 0 (clipAt n)
noncomputable def cutHi (n : Nat) (hi : Option Int) : Nat := hi.elim n (clipAt n)
noncomputable def cut {α : Type} (xs : List α) (lo hi : Option Int) : List α := (xs.drop (cutLo xs.length lo)).take (cutHi xs.length hi - cutLo xs.length lo)
noncomputable def cutS (x : Str) (lo hi : Option Int) : Str := ⟨(cut x.cps.toList lo hi).toArray⟩

theorem VRs.drop : ∀ {xs : List AV} {vs : List Value} (k : Nat), VRs ρ xs vs → VRs ρ (xs.drop k) (vs.drop k)
  | _, _, 0, h => h
  | [], [], _ + 1, _ => trivial
  | _ :: _, _ :: _, k + 1, h => VRs.drop k h.2
theorem VRs.take : ∀ {xs : List AV} {vs : List Value} (k : Nat), VRs ρ xs vs → VRs ρ (xs.take k) (vs.take k)
  | _, _, 0, _ => by simp; exact trivial
  | [], [], _ + 1, _ => trivial
  | _ :: _, _ :: _, k + 1, h => ⟨h.1, VRs.take k h.2⟩
theorem VRs.cut {xs : List AV} {vs : List Value} (h : VRs ρ xs vs) (lo hi : Option Int) : VRs ρ (Mine.cut xs lo hi) (Mine.cut vs lo hi) := by
  unfold Mine.cut
  rw [h.length]
  exact VRs.take _ (VRs.drop _ h)

theorem slice_ls {i : Nat} {xs : List AV} {lo hi : Option Int} (ho : os[i]? = some (.list xs)) (hz : xs.length ≤ sizeLine) : SlOp c n (.ref i) lo hi Option.none os (.ref os.length) (os ++ [.list (cut xs lo hi)]) := fun A ρ s x sl vl vu vst rm r hx hsl hl hu ht Q E hq => by
  obtain ⟨p, vs, hp, _, rfl, hvs, hpl⟩ := r.list ho hx
  have pl : IsPart vl lo := by cases lo <;> (first | (cases hl; exact .none) | (obtain ⟨t, rfl⟩ := hl; exact .int _ t))
  have pu : IsPart vu hi := by cases hi <;> (first | (cases hu; exact .none) | (obtain ⟨t, rfl⟩ := hu; exact .int _ t))
  cases ht
  have hlen := hvs.length
  refine wpAny_getItem_list_slice hpl.isList hsl pl pu .none (by intro e; cases e) ?_ (by rw [List.size_toArray, ← hlen]; exact hz)
  rw [slicePick_plain]
  exact hq _ _ s.toks _ (Reach.alloc ρ s.heap _) ⟨r.newList (by simpa [Mine.cut, cutLo, cutHi] using hvs.cut lo hi), VR.new r⟩

/-- a list of the top's: its cut -/
theorem slice_base {l : Addr} {vs : List Value} {xs : List AV} {lo hi : Option Int} (hb : c.hb.IsList l vs.toArray) (hvs : ∀ ρ, VRs ρ xs vs) (hz : xs.length ≤ sizeLine) : SlOp c n (.lit (.ref l)) lo hi Option.none os (.ref os.length) (os ++ [.list (cut xs lo hi)]) := fun A ρ s x sl vl vu vst rm r hx hsl hl hu ht Q E hq => by
  cases hx
  have pl : IsPart vl lo := by cases lo <;> (first | (cases hl; exact .none) | (obtain ⟨t, rfl⟩ := hl; exact .int _ t))
  have pu : IsPart vu hi := by cases hi <;> (first | (cases hu; exact .none) | (obtain ⟨t, rfl⟩ := hu; exact .int _ t))
  cases ht
  have hlen := (hvs ρ).length
  have hb' : s.heap.IsList l vs.toArray := let ⟨o, ho, q⟩ := hb; ⟨o, r.keep _ _ ho, q⟩
  refine wpAny_getItem_list_slice hb' hsl pl pu .none (by intro e; cases e) ?_ (by rw [List.size_toArray, ← hlen]; exact hz)
  rw [slicePick_plain]
  exact hq _ _ s.toks _ (Reach.alloc ρ s.heap _) ⟨r.newList (by simpa [Mine.cut, cutLo, cutHi] using (hvs ρ).cut lo hi), VR.new r⟩

theorem slice_tf {i : Nat} {xs : List AV} {a : Nat} (ho : os[i]? = some (.tup xs)) (h1 : 1 ≤ a) (ha : a ≤ xs.length) (hz : xs.length ≤ sizeLine) : SlOp c n (.ref i) (some (a : Int)) Option.none Option.none os (.ref os.length) (os ++ [.tup (xs.drop a)]) := fun A ρ s x sl vl vu vst rm r hx hsl hl hu ht Q E hq => by
  obtain ⟨p, vs, hp, _, rfl, hvs, hpl⟩ := r.tup ho hx
  obtain ⟨t, rfl⟩ := hl
  cases hu; cases ht
  have hlen := hvs.length
  refine getItem_tuple_from hpl.isTup hsl h1 (by rw [List.size_toArray, ← hlen]; exact ha) ?_ (by rw [List.size_toArray, ← hlen]; exact hz)
  exact hq _ _ s.toks _ (Reach.alloc ρ s.heap _) ⟨r.newTup (by simpa using hvs.drop a), VR.new r⟩

theorem cutHi_le (n : Nat) (hi : Option Int) : cutHi n hi ≤ n := by
  unfold cutHi
  cases hi with
  | none => exact Nat.le_refl _
  | some i => show clipAt n i ≤ n; unfold clipAt; omega
theorem strIdx (x : Str) (lo hi : Option Int) : strSliceIndices lo hi 1 x.length = (List.range (cutHi x.length hi - cutLo x.length lo)).map (cutLo x.length lo + ·) := by
  have e1 : strSliceIndices lo hi 1 x.length = sliceRange ((cutLo x.length lo : Nat) : Int) ((cutHi x.length hi : Nat) : Int) 1 := by
    unfold strSliceIndices cutLo cutHi
    cases lo <;> cases hi <;> simp [clipAt_cast]
  rw [e1, sliceRange_one]
theorem slice_s {x : Str} {lo hi : Option Int} (hz : x.length ≤ sizeLine) : SlOp c n (.str x) lo hi Option.none os (.str (cutS x lo hi)) os := fun A ρ s v sl vl vu vst rm r hx hsl hl hu ht Q E hq => by
  obtain ⟨t, rfl⟩ := hx
  obtain ⟨o, ho, hc, hd⟩ := hsl
  have pl : ∃ l, vl = partValue l ∧ l.map (·.1) = lo := by
    cases lo with
    | none => cases hl; exact ⟨Option.none, rfl, rfl⟩
    | some i => obtain ⟨t, rfl⟩ := hl; exact ⟨some (i, t), rfl, rfl⟩
  have pu : ∃ l, vu = partValue l ∧ l.map (·.1) = hi := by
    cases hi with
    | none => cases hu; exact ⟨Option.none, rfl, rfl⟩
    | some i => obtain ⟨t, rfl⟩ := hu; exact ⟨some (i, t), rfl, rfl⟩
  obtain ⟨l, rfl, hl'⟩ := pl
  obtain ⟨u, rfl, hu'⟩ := pu
  cases ht
  refine wpAny_getItem_str_slice (l := l) (u := u) (st := Option.none) ⟨o, ho, hc, hd⟩ rfl ?_
  have hp : slicePicked x l u Option.none = (List.range (cutHi x.length hi - cutLo x.length lo)).map (cutLo x.length lo + ·) := by
    unfold slicePicked; rw [hl', hu']; exact strIdx x lo hi
  have hs : (⟨((slicePicked x l u Option.none).filterMap (x.cps[·]?)).toArray⟩ : Str) = cutS x lo hi := by
    rw [hp]; unfold cutS Mine.cut; congr 2
    exact pick_run x.cps _ _
  unfold sliceMade
  have fin : ∀ t' tk, Q (.str (cutS x lo hi) t') { s with toks := tk } := fun t' tk => hq _ s.heap tk ρ (Reach.refl ..) ⟨r, t', rfl⟩
  split
  · rename_i hw
    have hw2 : (slicePicked x l u Option.none).length = x.length := by
      have := (Bool.and_eq_true_iff.mp hw).2; exact beq_iff_eq.mp this
    rw [hp, List.length_map, List.length_range] at hw2
    have hh := cutHi_le x.length hi
    have e : cutS x lo hi = x := by
      unfold cutS Mine.cut
      apply Str.ext'
      by_cases h0 : x.length = 0
      · have : x.cps = #[] := Array.size_eq_zero_iff.mp h0
        rw [this]; simp
      · have a0 : cutLo x.length lo = 0 := by omega
        have b0 : cutHi x.length hi = x.length := by omega
        have hsz : x.cps.toList.length = x.length := by rw [Array.length_toList]; rfl
        rw [hsz, a0, b0]
        rw [List.drop_zero, Nat.sub_zero, List.take_of_length_le (by rw [hsz]; exact Nat.le_refl _)]
    have := fin t s.toks
    rw [e] at this
    exact this
  · rw [hs]
    refine ⟨?_, fin _ _⟩
    show (cutS x lo hi).cps.size ≤ sizeLine
    refine Nat.le_trans ?_ hz
    unfold cutS Mine.cut
    rw [List.size_toArray, List.length_take, List.length_drop, Array.length_toList]
    show min _ (x.length - _) ≤ x.length
    omega
end
end Mine
end

section
open PySem PySem.W PyProof.Rows PyProof.V PySem.Spec PySem.SeqAt
set_option linter.unusedVariables false
set_option maxRecDepth 100000
namespace Mine

section
variable {c : Cx} {n : Nat} {fd : FD} {σ σ₁ σ₂ σ₃ σ₄ : S} {X : List Addr} {A : Around} {ρ : List Pl} {s : Shared} {os : List AO} {E : Value → Shared → Prop}

/-! ### while -/
noncomputable def Wl (c : Cx) (n : Nat) (fd : FD) (test : Expr) (body : List Stmt) (σ : S) (f : AF) (σ' : S) : Prop :=
  ∀ env A ρ s R, Room A n → In c fd σ env ρ s.heap → (∀ fl h' tk' ρ', Reach [env.locals] ρ s.heap ρ' h' → In c fd σ' env ρ' h' → FR ρ' f fl → ∀ {dr : Drawn}, R (.ok fl) { s with heap := h', toks := tk', drawn := dr }) →
    codeAny c.M A (.whileLoop test body [] env) R s
theorem codeAny_while_turn {R : Result → Shared → Prop} {test : Expr} {body : List Stmt} {env : Env}
    (h : wpAny c.M A (isTrue test env (eval test env)) (fun b s₂ => if b then wpAny c.M A (execs body env) (fun f s₃ => match f with
        | .next | .cont => codeAny c.M A (.whileLoop test body [] env) R s₃
        | .brk => R (.ok .next) s₃
        | .ret v => R (.ok (.ret v)) s₃) (notedBy c.M A env fun e s' => R (.error e) s') s₂ else R (.ok .next) s₂) (notedBy c.M A env fun e s' => R (.error e) s') s) :
    codeAny c.M A (.whileLoop test body [] env) R s := by
  refine codeAny_of_tree ?_
  rw [Around.under_of_weight (by rfl) (by rfl)]
  show wpAny _ A ((whileTurn test body [] env).onRaise (fun x => do noteFrame x env; theTreesLotGoes x)) _ _ s
  refine wpAny_noted ?_
  simp only [whileTurn]
  refine wpAny_bind (wpAny_mono h (fun b s₂ h₂ => ?_) fun _ _ h' => h')
  cases b with
  | false =>
    simp only [Bool.false_eq_true, if_false] at h₂ ⊢
    exact wpAny_bind (wpAny_execs_nil (wpAny_pure h₂))
  | true =>
    simp only [if_true] at h₂ ⊢
    refine wpAny_bind (wpAny_mono h₂ (fun f s₃ h₃ => ?_) fun _ _ h' => h')
    cases f with
    | next => exact wpAny_pure ⟨rfl, h₃⟩
    | cont => exact wpAny_pure ⟨rfl, h₃⟩
    | brk => exact wpAny_pure h₃
    | ret v => exact wpAny_pure h₃
theorem Wl.done {test : Expr} {body : List Stmt} (h : Tst c n fd test σ false σ₁) : Wl c n fd test body σ .next σ₁ := fun env A ρ s R rm i hR => by
  refine codeAny_while_turn (h env A ρ s rm i _ _ fun b h₁ tk₁ ρ₁ q₁ p₁ => ?_)
  obtain ⟨i₁, rfl⟩ := p₁
  exact hR _ h₁ tk₁ ρ₁ q₁ i₁ rfl
theorem Wl.step {test : Expr} {body : List Stmt} {f : AF} (h : Tst c n fd test σ true σ₁) (hb : Exs c n fd body σ₁ .next σ₂) (go : Wl c n fd test body σ₂ f σ₃) : Wl c n fd test body σ f σ₃ := fun env A ρ s R rm i hR => by
  refine codeAny_while_turn (h env A ρ s rm i _ _ fun b h₁ tk₁ ρ₁ q₁ p₁ => ?_)
  obtain ⟨i₁, rfl⟩ := p₁
  refine hb env A ρ₁ { s with heap := h₁, toks := tk₁, drawn := _ } rm i₁ _ _ fun fl h₂ tk₂ ρ₂ q₂ p₂ => ?_
  obtain ⟨i₂, rfl⟩ := p₂
  exact go env A ρ₂ { s with heap := h₂, toks := tk₂, drawn := _ } R rm i₂ fun fl' h' tk' ρ' q' i' hf => hR fl' h' tk' ρ' ((q₁.trans q₂).trans q') i' hf
theorem Ex.while {test : Expr} {body : List Stmt} {pos : Pos} {f : AF} (h : Wl c n fd test body σ f σ₁) : Ex c n fd (.While test body [] pos) σ f σ₁ := fun env A ρ s rm i => by
  rw [exec_While]
  refine Run.stand fun Q E hq => wpAny_runOwn ?_
  exact h env _ ρ s _ rm i fun fl h' tk' ρ' q i' hf => hq fl h' tk' ρ' q ⟨i', hf⟩

/-! ### an expression for its own sake -/
theorem Ex.expr {e : Expr} {pos : Pos} {v : AV} (h : Ev c n fd e σ v σ₁) (hv : v.refs = []) (hl : ∀ u, v ≠ .lit u) (hi : fd.scope.kind = .function := by rfl) (hs : ∀ env, swapsWith e Option.none pos.line env = Pure.pure false := by intro _; rfl) : Ex c n fd (.Expr e pos) σ .next σ₁ := fun env A ρ s rm i => by
  rw [exec_Expr env e pos (by unfold interactive; rw [i.fre.scope, hi]; rfl) (hs env)]
  refine Run.stand (Run.bind (h env A ρ s rm i) fun x h₁ tk₁ ρ₁ q₁ p₁ => ?_)
  intro dr
  have hx : ∀ a, x ≠ .ref a := fun a e => by
    subst e
    have := p₁.2
    cases v with
    | ref i => cases hv
    | lit u => exact hl u rfl
    | int i => obtain ⟨t, e⟩ := this; cases e
    | str i => obtain ⟨t, e⟩ := this; cases e
    | bool b => cases this
    | none => cases this
  rw [dropValue_plain hx]
  exact Run.pure ⟨p₁.1, rfl⟩

/-! ### two names at once -/
theorem unpack2 {i : Nat} {a b : AV} {v : Value} {Q : List Value → Shared → Prop} (hh : A.handled = Option.none) (ho : os[i]? = some (.tup [a, b])) (r : Rel c X os ρ s.heap) (hv : VR ρ (.ref i) v)
    (hQ : ∀ h' x y, Keeps s.heap h' → VR ρ a x → VR ρ b y → Q [x, y] { s with heap := h' }) : wpAny c.M A (unpackItems v 2 Option.none) Q E s := by
  obtain ⟨p, vs, hp, _, rfl, hvs, hpl⟩ := r.tup ho hv
  obtain ⟨x, y, rfl, hx, hy⟩ := VRs.d2 hvs
  have z : wpAny c.M A (unpackItems (.ref p.a) ([x, y].toArray.size) Option.none) Q E s := unpackItems_tuple hh hpl.isTup fun h' he => hQ h' x y (fun b o e => he b o (fun q => by subst q; exact absurd (Heap.lt_size e) (Nat.lt_irrefl _)) e) hx hy
  exact z

theorem Ex.assign2 {x y : Str} {px py tp pos : Pos} {k i : Nat} {value : Expr} {a b : AV} (h : Ev c n fd value σ (.ref i) σ₁) (ho : σ₁.os[i]? = some (.tup [a, b])) (h1 : Sto fd y b σ₁ σ₂) (h2 : Sto fd x a σ₂ σ₃)
    (hs : ∀ env, swapsWithSole [.Tuple [.Name x px, .Name y py] k tp] value pos.line env = Pure.pure false) (hw : ∀ env, env.scope = fd.scope → swappedStores [.Tuple [.Name x px, .Name y py] k tp] value env = Pure.pure (some [x, y])) (hk : fd.scope.kind = .function := by rfl) :
    Ex c n fd (.Assign [.Tuple [.Name x px, .Name y py] k tp] value pos) σ .next σ₃ := fun env A ρ s rm ii => Run.wp fun Q E hq => by
  refine Assign_Tuple_swapped (names := [x, y]) ?_ (hs env) (hw env ii.fre.scope)
  refine wpAny_size (h env A ρ s rm ii _ _ fun v h₁ tk₁ ρ₁ q₁ p₁ => fun sz => ?_)
  refine wpAny_size (unpack2 rm.handled ho p₁.1.rel p₁.2 fun h₂ u w hk₂ hu hw' => fun sz₂ => ?_)
  dsimp only at hk₂ sz₂
  have i₂ : In c fd σ₁ env ρ₁ h₂ := p₁.1.lift (Reach.keeps [] ρ₁ hk₂ sz₂) (p₁.1.rel.none.keeps hk₂ sz₂)
  show wpAny c.M A (do PySem.holding [u] (bindName env y w); assignInOrder [bindName env x] [u]) _ _ _
  refine wpAny_bind (wpAny_holding (wpAny_bindName (h1.run (s := { s with heap := h₂, toks := tk₁, drawn := _ }) i₂ hw' hk _ _ fun _ h₃ tk₃ ρ₃ q₃ i₃ => ?_)))
  intro dr
  show wpAny c.M A (do PySem.holding [] (bindName env x u); Pure.pure ()) _ _ _
  refine wpAny_bind (wpAny_holding (wpAny_bindName (h2.run (s := { s with heap := h₃, toks := tk₃, drawn := _ }) i₃ (hu.reach q₃) hk _ _ fun _ h₄ tk₄ ρ₄ q₄ i₄ => wpAny_pure ?_)))
  refine hq _ h₄ tk₄ ρ₄ fun sz₄ => ⟨((q₁.trans (Reach.keeps _ ρ₁ hk₂ sz₂)).trans q₃).trans q₄, i₄, rfl⟩

/-! ### star -/
theorem Evs.star {e : Expr} {p : Pos} {es : List Expr} {i : Nat} {xs vs : List AV} (h1 : Ev c n fd e σ (.ref i) σ₁) (ho : σ₁.os[i]? = some (.list xs)) (hz : xs.length ≤ sizeLine) (h2 : Evs c n fd es σ₁ vs σ₂) :
    Evs c n fd (.Starred e p :: es) σ (xs ++ vs) σ₂ := fun pos env A ρ s rm ii => Run.wp fun Q E hq => by
  refine items_star ?_
  refine h1 env A ρ s rm ii _ _ fun v h₁ tk₁ ρ₁ q₁ p₁ => ?_
  intro dr
  obtain ⟨q, ws, hp, _, rfl, hvs, ⟨k, hpl⟩⟩ := p₁.1.rel.list ho p₁.2
  have hT : ({ s with heap := h₁, toks := tk₁, drawn := dr } : Shared).TypeIs (.ref q.a) "list" := ⟨_, hpl, rfl⟩
  unfold StarOf notIterableAtAll
  refine wpAny_bind (wpAny_specialOf hT PySem.F.slot_list_iter.lookup (wpAny_pure ⟨rfl, ?_⟩))
  refine wpAny_size (wpAny_collect_seq (s := { s with heap := h₁, toks := tk₁, drawn := _ }) q.a (.inl rfl) hpl rfl rfl (fun h₂ hk => fun sz₂ => ?_) (by rw [List.size_toArray, ← hvs.length]; exact hz))
  dsimp only at sz₂ hk
  have i₂ : In c fd σ₁ env ρ₁ h₂ := p₁.1.lift (Reach.keeps [] ρ₁ hk sz₂) (p₁.1.rel.none.keeps hk sz₂)
  refine h2 pos env A ρ₁ { s with heap := h₂, toks := tk₁, drawn := _ } rm i₂ _ _ fun ys h₃ tk₃ ρ₃ q₃ p₃ => ?_
  refine hq _ h₃ tk₃ ρ₃ fun sz => ⟨(q₁.trans (Reach.keeps _ ρ₁ hk sz₂)).trans q₃, p₃.1, (hvs.reach q₃).append p₃.2⟩

/-! ### and, as a value -/
noncomputable def Ands (c : Cx) (n : Nat) (fd : FD) (es : List Expr) (σ : S) (b : Bool) (σ' : S) : Prop :=
  ∀ pos env A ρ s, Room A n → In c fd σ env ρ s.heap → Run c [env.locals] A ρ s (boolOp pos .And (evalEach es env)) fun ρ' h' x => In c fd σ' env ρ' h' ∧ x = .bool b
theorem Ands.last {e : Expr} {b : Bool} (h : Ev c n fd e σ (.bool b) σ₁) : Ands c n fd [e] σ b σ₁ := fun pos env A ρ s rm i => h env A ρ s rm i
theorem Ands.cons {e e' : Expr} {es : List Expr} {b b' : Bool} (h : Ev c n fd e σ (.bool b) σ₁) (h1 : b = true → Ands c n fd (e' :: es) σ₁ b' σ₂) (h2 : b = false → b' = false ∧ σ₂ = σ₁) : Ands c n fd (e :: e' :: es) σ b' σ₂ := fun pos env A ρ s rm i => by
  show Run c _ A ρ s (do
    let v ← eval e env
    PySem.standAt pos
    let t ← PySem.holding [v] (truthy v)
    match BoolOp.And, t with
    | .And, false | .Or, true => Pure.pure v
    | _, _ => boolOp pos .And (evalEach (e' :: es) env)) _
  refine Run.bind (h env A ρ s rm i) fun x h₁ tk₁ ρ₁ q₁ p₁ => Run.stand ?_
  obtain ⟨i₁, rfl⟩ := p₁
  refine Run.bind (P := fun ρ' h' t => In c fd σ₁ env ρ' h' ∧ t = b) (Run.holding (Run.tell (fun _ _ hq => wpAny_truthy_bool (hq tk₁)) ⟨i₁, rfl⟩)) fun t h₂ tk₂ ρ₂ q₂ p₂ => ?_
  obtain ⟨i₂, rfl⟩ := p₂
  cases t with
  | true => exact h1 rfl pos env A ρ₂ _ rm i₂
  | false => obtain ⟨rfl, rfl⟩ := h2 rfl; exact Run.pure ⟨i₂, rfl⟩
theorem Ev.and {es : List Expr} {pos : Pos} {b : Bool} (h : Ands c n fd es σ b σ₁) : Ev c n fd (.BoolOp .And es pos) σ (.bool b) σ₁ := fun env A ρ s rm i => h pos env A ρ s rm i

/-! ### a text said n times -/
end
end Mine
end

section
open PySem PySem.W PyProof.Rows PyProof.V PySem.Spec PySem.SeqAt
set_option linter.unusedVariables false
set_option maxRecDepth 100000
namespace Mine

theorem DefAt.of {c : Cx} {K : Frag} (hK : c.K = K) {a : Addr} {oc : Value} {od : Option Addr} {osl : Array (Option Value)} {d : FuncData} {body : List Stmt} (ho : K.lookup a = some ⟨oc, od, .func d, osl⟩) (hcd : codeIn K d.code d.qualname = true) (hb : d.body = .stmts body)
    (hg : d.globals = mainGlobals) (hbl : d.builtins = builtinsNs) (h1 : d.scope.isCoroutine = false) (h2 : d.scope.isGenerator = false) (h3 : d.scope.kind = .function) : DefAt c a d body := by
  subst hK
  exact ⟨⟨_, c.inK _ _ ho, rfl⟩, codeRec_of c.inK hcd, hb, hg, hbl, h1, h2, h3⟩

section
variable {c : Cx} {n : Nat} {fd : FD} {σ σ₁ σ₂ : S} {os : List AO} {K : Frag}
theorem Ex.ifF {t : Expr} {b o : List Stmt} {pos} {z : Bool} {f : AF} (h : Tst c n fd t σ z σ₁) (hz : z = false) (h2 : Exs c n fd o σ₁ f σ₂) : Ex c n fd (.If t b o pos) σ f σ₂ := Ex.ife h (fun e => by rw [hz] at e; cases e) fun _ => h2
/-- -1 and its like -/
theorem Ev.neg {k : Int} {kk : Nat} {pos pos'} : Ev c n fd (.UnaryOp .USub (.Constant (.int k) kk pos') pos) σ (.int (-k)) σ := fun env A ρ s rm i => by
  rw [arm_eval_UnaryOp]
  refine Run.bind (P := fun ρ' h' x => In c fd σ env ρ' h' ∧ VR ρ' (.int k) x) (Ev.int env A ρ s rm i) fun x h₁ tk₁ ρ₁ q₁ p₁ => Run.stand (Run.holding ?_)
  obtain ⟨i₁, t, rfl⟩ := p₁
  exact fun Q E hq => PyProof.Rows.neg_int (hq _ h₁ _ ρ₁ (Reach.refl ..) ⟨i₁, _, rfl⟩)

theorem Ex.assign' {x : Str} {pos' pos} {e : Expr} {v : AV} (h : Ev c n fd e σ v σ₁) (hs : Sto fd x v σ₁ σ₂) (hw : ∀ env, swapsWith e (some (.Name x pos')) pos.line env = Pure.pure false := by intro _; rfl) (hk : fd.scope.kind = .function := by rfl) :
    Ex c n fd (.Assign [.Name x pos'] e pos) σ .next σ₂ := Ex.assign h hs (fun env _ => hw env) hk

theorem at_last {os : List AO} {o : AO} : (os ++ [o])[os.length]? = some o := by simp
end
end Mine
end

section
open PySem PySem.W PyProof.Rows PyProof.V PySem.Spec PySem.SeqAt
set_option linter.unusedVariables false
namespace Mine

/-! ### renaming -/
theorem VR.ren {ρ ρ' : List Pl} {f : Nat → Nat} {x : AV} {v : Value} (h : VR ρ x v) (e : ∀ i ∈ x.refs, ∀ p, ρ[i]? = some p → ρ'[f i]? = some p) : VR ρ' (x.ren f) v := by
  cases x with
  | ref i => obtain ⟨p, hp, rfl⟩ := h; exact ⟨p, e i List.mem_cons_self p hp, rfl⟩
  | _ => exact h
theorem VRs.ren {ρ ρ' : List Pl} {f : Nat → Nat} {xs : List AV} {vs : List Value} (h : VRs ρ xs vs) (e : ∀ i ∈ AVs.refs xs, ∀ p, ρ[i]? = some p → ρ'[f i]? = some p) : VRs ρ' (xs.map (AV.ren f)) vs := by
  induction xs generalizing vs with
  | nil => cases vs with
    | nil => exact trivial
    | cons v vs => exact h.elim
  | cons x xs ih => cases vs with
    | nil => exact h.elim
    | cons v vs => exact ⟨h.1.ren fun i hi => e i (List.mem_append_left _ hi), ih h.2 fun i hi => e i (List.mem_append_right _ hi)⟩
theorem OR.ren {c : Cx} {ρ ρ' : List Pl} {f : Nat → Nat} {o : AO} {p : Pl} {h : Heap} (x : OR c ρ o p h) (e : ∀ i ∈ o.refs, ∀ p, ρ[i]? = some p → ρ'[f i]? = some p) : OR c ρ' (o.ren f) p h := by
  cases o with
  | list xs => obtain ⟨e', vs, h1, h2⟩ := x; exact ⟨e', vs, h1.ren e, h2⟩
  | tup xs => obtain ⟨e', vs, h1, h2⟩ := x; exact ⟨e', vs, h1.ren e, h2⟩
  | cell v =>
    obtain ⟨e', v', h1, h2⟩ := x
    refine ⟨e', v', ?_, h2⟩
    cases v <;> cases v' <;> first | exact h1 | exact VR.ren h1 e
  | rng lo hi => exact x
  | x k => exact c.XR_map f x e

/-- the other way: an inner name for an outer one -/
theorem VR.unren {ρ ρ' : List Pl} {f : Nat → Nat} {x : AV} {v : Value} (h : VR ρ' (x.ren f) v) (e : ∀ i p, ρ'[f i]? = some p → ρ[i]? = some p) : VR ρ x v := by
  cases x with
  | ref i => obtain ⟨p, hp, rfl⟩ := h; exact ⟨p, e i p hp, rfl⟩
  | _ => exact h
theorem VRs.unren {ρ ρ' : List Pl} {f : Nat → Nat} (e : ∀ i p, ρ'[f i]? = some p → ρ[i]? = some p) {xs : List AV} {vs : List Value} (h : VRs ρ' (xs.map (AV.ren f)) vs) : VRs ρ xs vs := by
  induction xs generalizing vs with
  | nil => cases vs with
    | nil => exact trivial
    | cons v vs => exact h.elim
  | cons x xs ih => cases vs with
    | nil => exact h.elim
    | cons v vs => exact ⟨h.1.unren e, ih h.2⟩

/-- the outer index of an inner object -/
noncomputable def out (π : List Nat) (m j : Nat) : Nat := if j < π.length then π.getD j 0 else m + (j - π.length)

/-- the inner objects put into their outer places -/
noncomputable def upd (r : Nat → Nat) : List Nat → List AO → List AO → List AO
  | i :: π, o :: os', os => upd r π os' (os.set i (o.ren r))
  | _, _, os => os

/-- the outer places hold what the inner ones say -/
noncomputable def Held (r : Nat → Nat) (os : List AO) : List Nat → List AO → Prop
  | [], [] => True
  | i :: π, o :: os₀ => os[i]? = some (o.ren r) ∧ Held r os π os₀
  | _, _ => False

noncomputable def plc (ρ : List Pl) : List Nat → List Pl
  | [] => []
  | i :: π => (match ρ[i]? with | some p => p | none => ⟨0, []⟩) :: plc ρ π

theorem plc_length (ρ : List Pl) : ∀ π, (plc ρ π).length = π.length
  | [] => rfl
  | _ :: π => congrArg (· + 1) (plc_length ρ π)
theorem plc_get {ρ : List Pl} : ∀ {π : List Nat} {j i : Nat} {p : Pl}, π[j]? = some i → ρ[i]? = some p → (plc ρ π)[j]? = some p
  | i :: π, 0, _, p, h, hp => by simp at h; subst h; simp [plc, hp]
  | _ :: π, j + 1, _, p, h, hp => by simp at h; simpa [plc] using plc_get (ρ := ρ) h hp
theorem plc_get' {ρ : List Pl} : ∀ {π : List Nat} {j : Nat} {p : Pl}, (∀ i ∈ π, i < ρ.length) → (plc ρ π)[j]? = some p → ∃ i, π[j]? = some i ∧ ρ[i]? = some p
  | i :: π, 0, p, hl, h => by
    have := hl i List.mem_cons_self
    simp [plc, this] at h
    exact ⟨i, rfl, by rw [← h]; exact List.getElem?_eq_getElem this⟩
  | _ :: π, j + 1, p, hl, h => by
    simp [plc] at h
    obtain ⟨i, h1, h2⟩ := plc_get' (fun i hi => hl i (List.mem_cons_of_mem _ hi)) h
    exact ⟨i, by simpa using h1, h2⟩

/-- two different places have nothing in common -/
theorem foot_apart {ρ : List Pl} (nd : (foot ρ).Nodup) : ∀ {i j : Nat} {p q : Pl}, ρ[i]? = some p → ρ[j]? = some q → i ≠ j → ∀ a ∈ p.a :: p.more, a ∉ q.a :: q.more := by
  induction ρ with
  | nil => intro i j p q h; simp at h
  | cons r ρ ih =>
    intro i j p q hi hj ne a ha hb
    have nd' := List.nodup_append.mp nd
    cases i with
    | zero =>
      cases j with
      | zero => exact ne rfl
      | succ j => simp at hi hj; subst hi; exact nd'.2.2 a ha a (foot_mem_of_get hj a hb) rfl
    | succ i =>
      cases j with
      | zero => simp at hi hj; subst hj; exact nd'.2.2 a hb a (foot_mem_of_get hi a ha) rfl
      | succ j => simp at hi hj; exact ih nd'.2.1 hi hj (fun e => ne (congrArg _ e)) a ha hb
theorem foot_get {ρ : List Pl} {a : Addr} : a ∈ foot ρ → ∃ (i : Nat) (p : Pl), ρ[i]? = some p ∧ a ∈ p.a :: p.more := by
  induction ρ with
  | nil => intro h; cases h
  | cons r ρ ih =>
    intro h
    rcases List.mem_append.mp h with h | h
    · exact ⟨0, r, rfl, h⟩
    · obtain ⟨i, p, h1, h2⟩ := ih h; exact ⟨i + 1, p, by simp [h1], h2⟩
theorem foot_nodup_get {ρ : List Pl} (nd : (foot ρ).Nodup) {i : Nat} {p : Pl} (h : ρ[i]? = some p) : (p.a :: p.more).Nodup := (foot_pick h).nodup nd

theorem plc_nodup {ρ : List Pl} (nd : (foot ρ).Nodup) : ∀ {π : List Nat}, π.Nodup → (∀ i ∈ π, i < ρ.length) → (foot (plc ρ π)).Nodup
  | [], _, _ => List.nodup_nil
  | i :: π, h, hl => by
    have hi := hl i List.mem_cons_self
    have hi' := List.getElem?_eq_getElem hi
    have hl' := fun j hj => hl j (List.mem_cons_of_mem _ hj)
    refine List.nodup_append.mpr ⟨?_, plc_nodup nd (List.nodup_cons.mp h).2 hl', fun a ha b hb e => ?_⟩
    · rw [hi']; exact foot_nodup_get nd hi'
    · subst e
      rw [hi'] at ha
      obtain ⟨j, q, hq, hb'⟩ := foot_get hb
      obtain ⟨k, hk, hkq⟩ := plc_get' hl' hq
      refine foot_apart nd hi' hkq (fun e => ?_) a ha hb'
      subst e
      exact (List.nodup_cons.mp h).1 (List.mem_of_getElem? hk)
theorem plc_sub {ρ : List Pl} {π : List Nat} (hl : ∀ i ∈ π, i < ρ.length) {a : Addr} (h : a ∈ foot (plc ρ π)) : a ∈ foot ρ := by
  obtain ⟨j, q, hq, hb'⟩ := foot_get h
  obtain ⟨k, hk, hkq⟩ := plc_get' hl hq
  exact foot_mem_of_get hkq a hb'

theorem Held.lt {r : Nat → Nat} {os : List AO} {π : List Nat} {os₀ : List AO} (h : Held r os π os₀) : ∀ i ∈ π, i < os.length := by
  induction π generalizing os₀ with
  | nil => exact fun _ h => nomatch h
  | cons i π ih => cases os₀ with
    | nil => exact h.elim
    | cons o₀ os₀ => exact fun j hj => (List.mem_cons.mp hj).elim (fun e => by subst e; exact (List.getElem?_eq_some_iff.mp h.1).1) (ih h.2 j)
theorem Held.length {r : Nat → Nat} {os : List AO} : ∀ {π : List Nat} {os₀ : List AO}, Held r os π os₀ → π.length = os₀.length
  | [], [], _ => rfl
  | _ :: _, _ :: _, h => congrArg (· + 1) h.2.length
theorem Held.get {r : Nat → Nat} {os : List AO} {π : List Nat} {os₀ : List AO} (h : Held r os π os₀) {j : Nat} {o : AO} (e : os₀[j]? = some o) : ∃ i, π[j]? = some i ∧ os[i]? = some (o.ren r) := by
  induction os₀ generalizing π j with
  | nil => cases e
  | cons o₀ os₀ ih => cases π with
    | nil => exact h.elim
    | cons i π => cases j with
      | zero => cases e; exact ⟨i, rfl, h.1⟩
      | succ j => exact ih (π := π) (j := j) h.2 e

theorem AVs.refs_ren {f : Nat → Nat} : ∀ {xs : List AV}, AVs.refs (xs.map (AV.ren f)) = (AVs.refs xs).map f
  | [] => rfl
  | x :: xs => by
    show (x.ren f).refs ++ AVs.refs (xs.map _) = _
    rw [AVs.refs_ren, show AVs.refs (x :: xs) = x.refs ++ AVs.refs xs from rfl, List.map_append]
    congr 1
    cases x <;> rfl

theorem XO.refs_ren {f : Nat → Nat} {k : XO} {i : Nat} (hi : i ∈ (k.ren f).refs) : ∃ j ∈ k.refs, f j = i := by
  cases k with
  | tab cs => obtain ⟨j, hj, e⟩ := List.mem_map.mp hi; exact ⟨j, hj, e⟩
  | code j => cases hi
  | fn j cl t rd =>
    rcases List.mem_append.mp hi with hi | hi
    · cases rd with
      | none => cases hi
      | some r =>
        have e : i = f r := by simpa using hi
        exact ⟨r, List.mem_append_left _ (by simp), e.symm⟩
    · rcases List.mem_cons.mp hi with rfl | hi
      · exact ⟨t, List.mem_append_right _ List.mem_cons_self, rfl⟩
      · rw [List.map_map] at hi
        obtain ⟨q, hq, rfl⟩ := List.mem_map.mp hi
        exact ⟨q.2, List.mem_append_right _ (List.mem_cons_of_mem _ (List.mem_map.mpr ⟨q, hq, rfl⟩)), rfl⟩
  | inst m =>
    have : AVs.refs ((m.map fun q => (q.1, q.2.ren f)).map (·.2)) = (AVs.refs (m.map (·.2))).map f := by
      rw [← AVs.refs_ren, List.map_map, List.map_map]; rfl
    have hi : i ∈ AVs.refs ((m.map fun q => (q.1, q.2.ren f)).map (·.2)) := hi
    rw [this] at hi
    obtain ⟨j, hj, rfl⟩ := List.mem_map.mp hi
    exact ⟨j, hj, rfl⟩
  | citer y =>
    rcases List.mem_cons.mp hi with rfl | hi
    · exact ⟨y, List.mem_cons_self, rfl⟩
    · cases hi
  | meth y =>
    rcases List.mem_cons.mp hi with rfl | hi
    · exact ⟨y, List.mem_cons_self, rfl⟩
    · cases hi
  | junk => cases hi
  | rdict y =>
    rcases List.mem_cons.mp hi with rfl | hi
    · exact ⟨y, List.mem_cons_self, rfl⟩
    · cases hi
theorem AV.ren_ren {f g : Nat → Nat} {v : AV} (hg : ∀ i ∈ v.refs, g (f i) = i) : (v.ren f).ren g = v := by
  cases v <;> first | rfl | (exact congrArg AV.ref (hg _ List.mem_cons_self))
theorem XO.ren_ren {f g : Nat → Nat} {k : XO} (hg : ∀ i ∈ k.refs, g (f i) = i) : (k.ren f).ren g = k := by
  cases k with
  | tab cs =>
    have : (cs.map f).map g = cs := by
      rw [List.map_map]
      conv => rhs; rw [← List.map_id cs]
      exact List.map_congr_left fun q hq => hg q hq
    show XO.tab _ = _
    rw [this]
  | code j => rfl
  | fn j cl t rd =>
    have h1 : (cl.map fun q => (q.1, f q.2)).map (fun q => (q.1, g q.2)) = cl := by
      rw [List.map_map]
      conv => rhs; rw [← List.map_id cl]
      refine List.map_congr_left fun q hq => ?_
      show (q.1, g (f q.2)) = q
      rw [hg q.2 (List.mem_append_right _ (List.mem_cons_of_mem _ (List.mem_map.mpr ⟨q, hq, rfl⟩)))]
    have h2 : g (f t) = t := hg t (List.mem_append_right _ List.mem_cons_self)
    have h3 : (rd.map f).map g = rd := by
      cases rd with
      | none => rfl
      | some r => exact congrArg some (hg r (List.mem_append_left _ (by simp)))
    show XO.fn j _ _ _ = _
    rw [h1, h2, h3]
  | inst m =>
    replace hg : ∀ i ∈ AVs.refs (m.map (·.2)), g (f i) = i := hg
    have : (m.map fun q => (q.1, q.2.ren f)).map (fun q => (q.1, q.2.ren g)) = m := by
      induction m with
      | nil => rfl
      | cons q m ih =>
        rw [List.map_cons, List.map_cons, ih (fun i hi => hg i (List.mem_append_right _ hi)), AV.ren_ren (fun i hi => hg i (List.mem_append_left _ hi))]
    show XO.inst _ = _
    rw [this]
  | citer y => exact congrArg XO.citer (hg y List.mem_cons_self)
  | meth y => exact congrArg XO.meth (hg y List.mem_cons_self)
  | junk => rfl
  | rdict y => exact congrArg XO.rdict (hg y List.mem_cons_self)

theorem OR.unren {c : Cx} {ρ ρ' : List Pl} {f g : Nat → Nat} {o : AO} {p : Pl} {h : Heap} (x : OR c ρ' (o.ren f) p h) (hg : ∀ i ∈ o.refs, g (f i) = i) (e : ∀ i ∈ o.refs, ∀ p, ρ'[f i]? = some p → ρ[i]? = some p) : OR c ρ o p h := by
  cases o with
  | list xs =>
    obtain ⟨e', vs, h1, h2⟩ := x
    refine ⟨e', vs, ?_, h2⟩
    have := h1.ren (f := g) (ρ' := ρ) (by
      rw [AVs.refs_ren]; intro i hi p hp
      obtain ⟨j, hj, rfl⟩ := List.mem_map.mp hi
      rw [hg j hj]; exact e j hj p hp)
    rw [List.map_map] at this
    have q : ∀ ys : List AV, (∀ i ∈ AVs.refs ys, g (f i) = i) → ys.map (AV.ren g ∘ AV.ren f) = ys := by
      intro ys; induction ys with
      | nil => intro _; rfl
      | cons y ys ih =>
        intro hh
        rw [List.map_cons, ih fun i hi => hh i (List.mem_append_right _ hi)]
        congr 1
        cases y <;> first | rfl | (exact congrArg AV.ref (hh _ (List.mem_append_left _ List.mem_cons_self)))
    rwa [q xs hg] at this
  | tup xs =>
    obtain ⟨e', vs, h1, h2⟩ := x
    refine ⟨e', vs, ?_, h2⟩
    have := h1.ren (f := g) (ρ' := ρ) (by
      rw [AVs.refs_ren]; intro i hi p hp
      obtain ⟨j, hj, rfl⟩ := List.mem_map.mp hi
      rw [hg j hj]; exact e j hj p hp)
    rw [List.map_map] at this
    have q : ∀ ys : List AV, (∀ i ∈ AVs.refs ys, g (f i) = i) → ys.map (AV.ren g ∘ AV.ren f) = ys := by
      intro ys; induction ys with
      | nil => intro _; rfl
      | cons y ys ih =>
        intro hh
        rw [List.map_cons, ih fun i hi => hh i (List.mem_append_right _ hi)]
        congr 1
        cases y <;> first | rfl | (exact congrArg AV.ref (hh _ (List.mem_append_left _ List.mem_cons_self)))
    rwa [q xs hg] at this
  | cell v =>
    obtain ⟨e', v', h1, h2⟩ := x
    refine ⟨e', v', ?_, h2⟩
    cases v with
    | none => cases v' <;> exact h1
    | some v =>
      cases v' with
      | none => exact h1.elim
      | some v' =>
        have h1 : VR ρ' (v.ren f) v' := h1
        show VR ρ v v'
        cases v with
        | ref i => obtain ⟨p, hp, rfl⟩ := h1; exact ⟨p, e i List.mem_cons_self p hp, rfl⟩
        | _ => exact h1
  | rng lo hi => exact x
  | x k =>
    have := c.XR_map (ρ' := ρ) g x (by
      intro i hi p hp
      have : ∃ j ∈ k.refs, f j = i := XO.refs_ren hi
      obtain ⟨j, hj, rfl⟩ := this
      rw [hg j hj]; exact e j hj p hp)
    have q : (k.ren f).ren g = k := XO.ren_ren hg
    rwa [q] at this

/-- updates, seen index by index -/
theorem upd_length (r : Nat → Nat) : ∀ (π : List Nat) (os' os : List AO), (upd r π os' os).length = os.length
  | [], _, _ => rfl
  | _ :: _, [], _ => rfl
  | i :: π, o :: os', os => by show (upd r π os' (os.set i _)).length = _; rw [upd_length r π os']; simp
theorem upd_miss (r : Nat → Nat) : ∀ {π : List Nat} {os' os : List AO} {i : Nat}, i ∉ π → (upd r π os' os)[i]? = os[i]?
  | [], _, _, _, _ => rfl
  | _ :: _, [], _, _, _ => rfl
  | j :: π, o :: os', os, i, h => by
    show (upd r π os' (os.set j _))[i]? = _
    rw [upd_miss r fun hm => h (List.mem_cons_of_mem _ hm), List.getElem?_set_ne (fun e => h (by rw [← e]; exact List.mem_cons_self))]
theorem upd_hit (r : Nat → Nat) {π : List Nat} {os' os : List AO} {i j : Nat} {o : AO} (nd : π.Nodup) (hl : ∀ i ∈ π, i < os.length) (h1 : π[j]? = some i) (h2 : os'[j]? = some o) : (upd r π os' os)[i]? = some (o.ren r) := by
  induction π generalizing os' os j with
  | nil => cases h1
  | cons k π ih => cases os' with
    | nil => cases h2
    | cons o' os' =>
      show (upd r π os' (os.set k _))[i]? = _
      cases j with
      | zero =>
        cases h1; cases h2
        rw [upd_miss r (List.nodup_cons.mp nd).1, List.getElem?_set_self (hl i List.mem_cons_self)]
      | succ j => exact ih (List.nodup_cons.mp nd).2 (fun i hi => by rw [List.length_set]; exact hl i (List.mem_cons_of_mem _ hi)) h1 h2

theorem ORs.of_get {c : Cx} {ρ : List Pl} {h : Heap} : ∀ {os : List AO} {ps : List Pl}, os.length = ps.length → (∀ (i : Nat) (o : AO) (p : Pl), os[i]? = some o → ps[i]? = some p → OR c ρ o p h) → ORs c ρ os ps h
  | [], [], _, _ => trivial
  | o :: os, p :: ps, hl, g => ⟨g 0 o p rfl rfl, ORs.of_get (by simpa using hl) fun i o p h1 h2 => g (i + 1) o p (by simpa using h1) (by simpa using h2)⟩

section
variable {c : Cx} {n : Nat}

theorem Op.frame {t : List Value → Sem Value} {args : List AV} {os₀ os₀' new os : List AO} {v : AV} {π : List Nat} (h : Op c n t args os₀ v (os₀' ++ new)) (hl : os₀'.length = os₀.length) (nd : π.Nodup)
    (hd : Held (out π os.length) os π os₀) (hc : ∀ o ∈ os₀, ∀ i ∈ o.refs, i < os₀.length) :
    Op c n t (args.map (AV.ren (out π os.length))) os (v.ren (out π os.length)) (upd (out π os.length) π os₀' os ++ new.map (AO.ren (out π os.length))) := fun A ρ s xs rm r hx => by
  have hlen := r.objs.length
  have hπl := hd.length
  have hlt : ∀ i ∈ π, i < ρ.length := fun i hi => hlen ▸ hd.lt i hi
  -- outer to inner places
  have o2i : ∀ j p, ρ[out π os.length j]? = some p → (plc ρ π)[j]? = some p := fun j p e => by
    unfold out at e
    by_cases hj : j < π.length
    · rw [if_pos hj] at e
      have : π[j]? = some (π.getD j 0) := by rw [List.getD_eq_getElem?_getD, List.getElem?_eq_getElem hj]; rfl
      exact plc_get this e
    · rw [if_neg hj, hlen] at e
      have := (List.getElem?_eq_some_iff.mp e).1
      omega
  have i2o : ∀ (nw : List Pl) j p, (plc ρ π ++ nw)[j]? = some p → (ρ ++ nw)[out π os.length j]? = some p := fun nw j p e => by
    unfold out
    by_cases hj : j < π.length
    · rw [if_pos hj]
      rw [List.getElem?_append_left (by rw [plc_length]; exact hj)] at e
      obtain ⟨i, h1, h2⟩ := plc_get' hlt e
      have : π.getD j 0 = i := by rw [List.getD_eq_getElem?_getD, h1]; rfl
      rw [this]; exact getElem?_mono h2
    · rw [if_neg hj, hlen, List.getElem?_append_right (Nat.le_add_right _ _), Nat.add_sub_cancel_left]
      rw [List.getElem?_append_right (by rw [plc_length]; omega), plc_length] at e
      exact e
  -- a way back from outer to inner names
  let g : Nat → Nat := fun i => π.idxOf i
  have hg : ∀ j, j < π.length → g (out π os.length j) = j := fun j hj => by
    show π.idxOf (out π os.length j) = j
    unfold out
    rw [if_pos hj, List.getD_eq_getElem?_getD, List.getElem?_eq_getElem hj]
    exact nd.idxOf_getElem j hj
  have r0 : Rel c [] os₀ (plc ρ π) s.heap := by
    refine ⟨ORs.of_get (by rw [plc_length, hπl]) fun j o p h1 h2 => ?_, by simpa using plc_nodup (by simpa using r.nodup) nd hlt, r.keep, fun a ha => r.fresh a (by simpa using plc_sub hlt (by simpa using ha)), fun a ha => r.live a (by simpa using plc_sub hlt (by simpa using ha))⟩
    obtain ⟨i, h3, h4⟩ := hd.get h1
    obtain ⟨q, h5, h6⟩ := r.objs.get h4
    have h7 := plc_get h3 h5
    rw [h2] at h7; cases h7
    refine h6.unren (g := g) (fun k hk => hg k ?_) fun k hk p hp => o2i k p hp
    have := hc o (List.mem_of_getElem? h1) k hk
    omega
  intro Q E hq
  refine h A (plc ρ π) s xs rm r0 (VRs.unren (fun i p hp => o2i i p hp) hx) Q E fun y h' tk' ρ' q p => ?_
  intro dr
  obtain ⟨nw, rfl, hf⟩ := q.grow
  have hll := p.1.objs.length
  rw [List.length_append, List.length_append, plc_length, hl, hπl] at hll
  have hnl : new.length = nw.length := by omega
  refine hq y h' tk' (ρ ++ nw) ⟨⟨nw, rfl, hf⟩, fun a o e ha => q.keep a o e fun hm => ha (by simpa using plc_sub hlt (by simpa using hm)), q.size⟩ ⟨⟨?_, ?_, p.1.keep, fun a ha => ?_, fun a ha => ?_⟩, p.2.ren fun i _ p hp => i2o nw i p hp⟩
  · refine ORs.of_get (by simp [upd_length, hlen, hnl]) fun i o pl h1 h2 => ?_
    by_cases hi : i < ρ.length
    · rw [List.getElem?_append_left (by rw [upd_length, hlen]; exact hi)] at h1
      rw [List.getElem?_append_left hi] at h2
      by_cases hm : i ∈ π
      · obtain ⟨j, hj, e⟩ := List.getElem_of_mem hm
        have hj' : π[j]? = some i := by rw [List.getElem?_eq_getElem hj, e]
        have hjo : j < os₀'.length := by omega
        have ho' := List.getElem?_eq_getElem hjo
        rw [upd_hit _ nd (fun i hi => hd.lt i hi) hj' ho'] at h1
        cases h1
        obtain ⟨pl', h3, h4⟩ := p.1.objs.get (i := j) (o := os₀'[j]) (by rw [List.getElem?_append_left hjo]; exact ho')
        rw [List.getElem?_append_left (by rw [plc_length]; exact hj), plc_get hj' h2] at h3
        cases h3
        exact h4.ren fun i _ p hp => i2o nw i p hp
      · rw [upd_miss _ hm] at h1
        obtain ⟨pl', h3, h4⟩ := r.objs.get h1
        rw [h2] at h3; cases h3
        refine (h4.mono nw).loc p.1.keep fun a ha ob e => q.keep a ob e fun hmem => ?_
        obtain ⟨j, pq, h5, h6⟩ := foot_get (by simpa using hmem : a ∈ foot (plc ρ π))
        obtain ⟨k, h7, h8⟩ := plc_get' hlt h5
        exact foot_apart (by simpa using r.nodup) h2 h8 (fun e => hm (e ▸ List.mem_of_getElem? h7)) a ha h6
    · rw [List.getElem?_append_right (by rw [upd_length, hlen]; omega), upd_length, hlen] at h1
      rw [List.getElem?_append_right (by omega)] at h2
      rw [List.getElem?_map] at h1
      cases hn : new[i - ρ.length]? with
      | none => rw [hn] at h1; cases h1
      | some o' =>
        rw [hn] at h1; cases h1
        obtain ⟨pl', h3, h4⟩ := p.1.objs.get (i := os₀'.length + (i - ρ.length)) (o := o') (by rw [List.getElem?_append_right (Nat.le_add_right _ _), Nat.add_sub_cancel_left]; exact hn)
        rw [List.getElem?_append_right (by rw [plc_length]; omega), plc_length, show os₀'.length + (i - ρ.length) - π.length = i - ρ.length by omega, h2] at h3
        cases h3
        exact h4.ren fun i _ p hp => by have := i2o nw i p hp; rw [hlen] at this; exact this
  · have n1 : (foot ρ).Nodup := by simpa using r.nodup
    have n2 : (foot nw).Nodup := by
      have := p.1.nodup
      rw [foot_append] at this
      exact (List.nodup_append.mp (List.nodup_append.mp this).2.1).2.1
    rw [foot_append]
    refine List.nodup_append.mpr ⟨List.nodup_nil, List.nodup_append.mpr ⟨n1, n2, fun a ha b hb e => ?_⟩, fun a ha => by cases ha⟩
    subst e
    exact absurd (r.live a (by simpa using ha)) (Nat.not_lt.mpr (hf a hb))
  · rw [foot_append] at ha
    rcases List.mem_append.mp (by simpa using ha : a ∈ foot ρ ++ foot nw) with ha | ha
    · exact r.fresh a (by simpa using ha)
    · exact p.1.fresh a (by rw [foot_append]; simp [ha])
  · rw [foot_append] at ha
    rcases List.mem_append.mp (by simpa using ha : a ∈ foot ρ ++ foot nw) with ha | ha
    · exact Nat.lt_of_lt_of_le (r.live a (by simpa using ha)) q.size
    · exact p.1.live a (by rw [foot_append]; simp [ha])
end
end Mine
end

section
open PySem PySem.W PyProof.Rows PyProof.V PySem.Spec PySem.SeqAt
set_option linter.unusedVariables false
namespace Mine

/-! ### what an operation gives, where that is plain -/

noncomputable def listOf : Option AO → Option (List AV)
  | some (.list xs) => some xs
  | _ => none
theorem listOf_ok {o : Option AO} {xs : List AV} (h : listOf o = some xs) : o = some (.list xs) := by
  cases o with
  | none => cases h
  | some o => cases o with
    | list xs => cases h; rfl
    | _ => cases h
noncomputable def addRef (i j : Nat) (os : List AO) : Option (AV × List AO × Prop) := (listOf os[i]?).bind fun xs => (listOf os[j]?).bind fun ys => some (.ref os.length, os ++ [.list (xs ++ ys)], xs.length + ys.length ≤ sizeLine)
noncomputable def autoBin (op : Operator) (a b : AV) (os : List AO) : Option (AV × List AO × Prop) :=
  match op with
  | .Add => (match a with
    | .int i => (match b with | .int j => some (.int (i + j), os, True) | _ => none)
    | .str x => (match b with | .str y => some (.str (x ++ y), os, x.length + y.length ≤ sizeLine) | _ => none)
    | .ref i => (match b with | .ref j => addRef i j os | _ => none)
    | _ => none)
  | .Sub => (match a with | .int i => (match b with | .int j => some (.int (i - j), os, True) | _ => none) | _ => none)
  | .Mod => (match a with | .int i => (match b with | .int j => some (.int (i.fmod j), os, j ≠ 0) | _ => none) | _ => none)
  | .Mult => (match a with | .int i => (match b with | .int j => some (.int (i * j), os, IntMulOk i j) | _ => none) | _ => none)
  | _ => none
noncomputable def autoInp (op : Operator) (a b : AV) (os : List AO) : Option (AV × List AO × Prop) :=
  match op with
  | .Add => (match a with
    | .int i => (match b with | .int j => some (.int (i + j), os, True) | _ => none)
    | .str x => (match b with | .str y => some (.str (x ++ y), os, x.length + y.length ≤ sizeLine) | _ => none)
    | _ => none)
  | _ => none
noncomputable def cmpI (op : CmpOp) (i j : Int) : Option Bool := match op with
  | .Eq => some (i == j)
  | .NotEq => some (i != j)
  | .Lt => some (decide (i < j))
  | .Gt => some (decide (j < i))
  | .GtE => some (decide (j ≤ i))
  | _ => none
noncomputable def cmpS (op : CmpOp) (x y : Str) : Option Bool := match op with
  | .Eq => some (x == y)
  | .NotEq => some (x != y)
  | .In => some (inS y x)
  | .NotIn => some (!inS y x)
  | _ => none
noncomputable def cmpB (op : CmpOp) (i j : Bool) : Option Bool := match op with
  | .Eq => some (i == j)
  | _ => none
noncomputable def cmpV (op : CmpOp) (a b : AV) : Option Bool := match a with
  | .int i => (match b with | .int j => cmpI op i j | _ => none)
  | .str x => (match b with | .str y => cmpS op x y | _ => none)
  | .bool i => (match b with | .bool j => cmpB op i j | _ => none)
  | _ => none
noncomputable def autoCmp (op : CmpOp) (a b : AV) (os : List AO) : Option (AV × List AO × Prop) := match cmpV op a b with
  | some z => some (.bool z, os, True)
  | none => none

inductive Bi where
  | len | append | range | count
  | other
noncomputable def callLen (vs : List AV) (os : List AO) : Option (AV × List AO × Prop) := match vs with
  | [] => none
  | a :: vs => (match vs with
    | [] => (match a with
      | .str x => some (.int x.length, os, x.length ≤ sizeLine)
      | .ref i => (listOf os[i]?).bind fun xs => some (.int xs.length, os, xs.length ≤ sizeLine)
      | _ => none)
    | _ :: _ => none)
noncomputable def two2 (vs : List AV) : Option (AV × AV) := match vs with
  | [] => none
  | a :: vs => (match vs with
    | [] => none
    | b :: vs => (match vs with
      | [] => some (a, b)
      | _ :: _ => none))
theorem two2_ok {vs : List AV} {p : AV × AV} (h : two2 vs = some p) : vs = [p.1, p.2] := by
  cases vs with
  | nil => cases h
  | cons a vs => cases vs with
    | nil => cases h
    | cons b vs => cases vs with
      | nil => cases h; rfl
      | cons d vs => cases h
noncomputable def callCount (vs : List AV) (os : List AO) : Option (AV × List AO × Prop) := (two2 vs).bind fun p => match p.1 with
  | .str x => (match p.2 with | .str y => some (.int (Txt.count x y), os, True) | _ => none)
  | _ => none
noncomputable def callApp (vs : List AV) (os : List AO) : Option (AV × List AO × Prop) := (two2 vs).bind fun p => match p.1 with
  | .ref i => (listOf os[i]?).bind fun xs => some (.none, os.set i (.list (xs ++ [p.2])), xs.length ≤ sizeLine)
  | _ => none
noncomputable def callRng (vs : List AV) (os : List AO) : Option (AV × List AO × Prop) := match vs with
  | [] => none
  | a :: vs => (match a with
    | .int j => (match vs with
      | [] => some (.ref os.length, os ++ [.rng 0 j], True)
      | b :: vs => (match b with
        | .int k => (match vs with | [] => some (.ref os.length, os ++ [.rng j k], True) | _ :: _ => none)
        | _ => none))
    | _ => none)
noncomputable def autoCall (f : Value) (vs : List AV) (os : List AO) : Option (AV × List AO × Prop) :=
  match f with
  | .builtin id => if id = "len" then callLen vs os else if id = "str.count" then callCount vs os else if id = "list.append" then callApp vs os else none
  | .type T => if T = "range" then callRng vs os else none
  | _ => none

noncomputable def OkO {α : Type} (r : Option α) (P : α → Prop) : Prop := match r with
  | none => True
  | some a => P a
theorem OkO.get {α : Type} {r : Option α} {P : α → Prop} (h : OkO r P) {a : α} (e : r = some a) : P a := by subst e; exact h
noncomputable def OkR (r : Option (AV × List AO × Prop)) (P : AV → List AO → Prop) : Prop := match r with
  | none => True
  | some r => r.2.2 → P r.1 r.2.1
theorem OkR.bind {α : Type} {o : Option α} {f : α → Option (AV × List AO × Prop)} {P : AV → List AO → Prop} (h : ∀ x, o = some x → OkR (f x) P) : OkR (o.bind f) P := by
  cases o with
  | none => exact True.intro
  | some x => exact h x rfl

section
variable {c : Cx} {n : Nat}
theorem addRef_ok {i j : Nat} {os : List AO} : OkR (addRef i j os) (Op2 c n (binaryOp .Add) (.ref i) (.ref j) os) := OkR.bind fun xs h1 => OkR.bind fun ys h2 hφ => add_l (listOf_ok h1) (listOf_ok h2) hφ
theorem autoBin_ok (op : Operator) (a b : AV) (os : List AO) : OkR (autoBin op a b os) (Op2 c n (binaryOp op) a b os) := by
  cases op with
  | Add => cases a with
    | int i => cases b with
      | int j => exact fun _ => add_i
      | _ => exact True.intro
    | str x => cases b with
      | str y => exact fun hφ => add_s hφ
      | _ => exact True.intro
    | ref i => cases b with
      | ref j => exact addRef_ok
      | _ => exact True.intro
    | _ => exact True.intro
  | Sub => cases a with
    | int i => cases b with
      | int j => exact fun _ => sub_i
      | _ => exact True.intro
    | _ => exact True.intro
  | Mod => cases a with
    | int i => cases b with
      | int j => exact fun hφ => mod_i hφ
      | _ => exact True.intro
    | _ => exact True.intro
  | Mult => cases a with
    | int i => cases b with
      | int j => exact fun hφ => mul_i hφ
      | _ => exact True.intro
    | _ => exact True.intro
  | _ => exact True.intro
theorem autoInp_ok (op : Operator) (a b : AV) (os : List AO) : OkR (autoInp op a b os) (Op2 c n (inplaceOp op) a b os) := by
  cases op with
  | Add => cases a with
    | int i => cases b with
      | int j => exact fun _ => iadd_i
      | _ => exact True.intro
    | str x => cases b with
      | str y => exact fun hφ => iadd_s hφ
      | _ => exact True.intro
    | _ => exact True.intro
  | _ => exact True.intro
theorem cmpI_ok (op : CmpOp) (i j : Int) (os : List AO) : OkO (cmpI op i j) fun z => Op2 c n (compareOp op) (.int i) (.int j) os (.bool z) os := by
  cases op with
  | Eq => exact eq_i
  | NotEq => exact ne_i
  | Lt => exact lt_i
  | Gt => exact gt_i
  | GtE => exact ge_i
  | _ => exact True.intro
theorem cmpS_ok (op : CmpOp) (i j : Str) (os : List AO) : OkO (cmpS op i j) fun z => Op2 c n (compareOp op) (.str i) (.str j) os (.bool z) os := by
  cases op with
  | Eq => exact eq_s
  | NotEq => exact ne_s
  | In => exact in_s
  | NotIn => exact notin_s
  | _ => exact True.intro
theorem cmpB_ok (op : CmpOp) (i j : Bool) (os : List AO) : OkO (cmpB op i j) fun z => Op2 c n (compareOp op) (.bool i) (.bool j) os (.bool z) os := by
  cases op with
  | Eq => exact eq_b
  | _ => exact True.intro
theorem cmpV_ok (op : CmpOp) (a b : AV) (os : List AO) : OkO (cmpV op a b) fun z => Op2 c n (compareOp op) a b os (.bool z) os := by
  cases a with
  | int i => cases b with
    | int j => exact cmpI_ok op i j os
    | _ => exact True.intro
  | str i => cases b with
    | str j => exact cmpS_ok op i j os
    | _ => exact True.intro
  | bool i => cases b with
    | bool j => exact cmpB_ok op i j os
    | _ => exact True.intro
  | _ => exact True.intro
theorem autoCmp_ok (op : CmpOp) (a b : AV) (os : List AO) : OkR (autoCmp op a b os) (Op2 c n (compareOp op) a b os) := by
  have h := cmpV_ok (c := c) (n := n) op a b os
  unfold autoCmp
  cases hz : cmpV op a b with
  | none => exact True.intro
  | some z => rw [hz] at h; exact fun _ => h
theorem callLen_ok (vs : List AV) (os : List AO) : OkR (callLen vs os) (CallR c n (.builtin "len") vs os) := by
  cases vs with
  | nil => exact True.intro
  | cons a vs => cases vs with
    | nil => cases a with
      | str x => exact fun hφ => len_s hφ
      | ref i => exact OkR.bind fun xs h1 hφ => len_l (listOf_ok h1) hφ
      | _ => exact True.intro
    | cons b vs => exact True.intro
theorem callCount_ok (vs : List AV) (os : List AO) : OkR (callCount vs os) (CallR c n (.builtin "str.count") vs os) := OkR.bind fun p h1 => by
  obtain ⟨a, b⟩ := p
  rw [two2_ok h1]
  cases a with
  | str x => cases b with
    | str y => exact fun _ => count_s
    | _ => exact True.intro
  | _ => exact True.intro
theorem callApp_ok (vs : List AV) (os : List AO) : OkR (callApp vs os) (CallR c n (.builtin "list.append") vs os) := OkR.bind fun p h1 => by
  obtain ⟨a, b⟩ := p
  rw [two2_ok h1]
  cases a with
  | ref i => exact OkR.bind fun xs h2 hφ => append_l (listOf_ok h2) hφ
  | _ => exact True.intro
theorem callRng_ok (vs : List AV) (os : List AO) : OkR (callRng vs os) (CallR c n (.type "range") vs os) := by
  cases vs with
  | nil => exact True.intro
  | cons a vs => cases a with
    | int j => cases vs with
      | nil => exact fun _ => range1
      | cons b vs => cases b with
        | int k => cases vs with
          | nil => exact fun _ => range2
          | cons d vs => exact True.intro
        | _ => exact True.intro
    | _ => exact True.intro
theorem OkR.ite {p : Prop} [Decidable p] {a b : Option (AV × List AO × Prop)} {P : AV → List AO → Prop} (h1 : p → OkR a P) (h2 : OkR b P) : OkR (if p then a else b) P := by
  by_cases e : p
  · rw [if_pos e]; exact h1 e
  · rw [if_neg e]; exact h2
theorem autoCall_ok (f : Value) (vs : List AV) (os : List AO) : OkR (autoCall f vs os) (CallR c n f vs os) := by
  cases f with
  | builtin id => exact OkR.ite (fun e => e ▸ callLen_ok vs os) (OkR.ite (fun e => e ▸ callCount_ok vs os) (OkR.ite (fun e => e ▸ callApp_ok vs os) True.intro))
  | type T => exact OkR.ite (fun e => e ▸ callRng_ok vs os) True.intro
  | _ => exact True.intro

noncomputable def mthS (name : Str) : Option Value := if name = "split" then some (.builtin "str.split") else if name = "join" then some (.builtin "str.join") else if name = "find" then some (.builtin "str.find") else if name = "count" then some (.builtin "str.count") else none
noncomputable def mthL (name : Str) : Option Value := if name = "append" then some (.builtin "list.append") else if name = "pop" then some (.builtin "list.pop") else if name = "index" then some (.builtin "list.index") else none
noncomputable def autoMth (a : AV) (name : Str) (os : List AO) : Option Value :=
  match a with
  | .str _ => mthS name
  | .ref i => (listOf os[i]?).bind fun _ => mthL name
  | _ => none
theorem OkO.ite {p : Prop} [Decidable p] {a b : Option Value} {P : Value → Prop} (h1 : p → OkO a P) (h2 : OkO b P) : OkO (if p then a else b) P := by
  by_cases e : p
  · rw [if_pos e]; exact h1 e
  · rw [if_neg e]; exact h2
theorem autoMth_ok (a : AV) (name : Str) (os : List AO) : OkO (autoMth a name os) fun f => Mth c n a name os f ∧ Callee c f := by
  cases a with
  | str x => exact OkO.ite (fun e => ⟨e ▸ mth_split, .bi _⟩) (OkO.ite (fun e => ⟨e ▸ mth_join, .bi _⟩) (OkO.ite (fun e => ⟨e ▸ mth_find, .bi _⟩) (OkO.ite (fun e => ⟨e ▸ mth_count, .bi _⟩) True.intro)))
  | ref i =>
    have key : ∀ o, listOf os[i]? = o → OkO (o.bind fun _ => mthL name) fun f => Mth c n (.ref i) name os f ∧ Callee c f := fun o ho => by
      cases o with
      | none => exact True.intro
      | some xs =>
        have ho := listOf_ok ho
        exact OkO.ite (fun e => ⟨e ▸ mth_append ho, .bi _⟩) (OkO.ite (fun e => ⟨e ▸ mth_pop ho, .bi _⟩) (OkO.ite (fun e => ⟨e ▸ mth_index ho, .bi _⟩) True.intro))
    exact key _ rfl
  | _ => exact True.intro

noncomputable def sqO : Option AO → Bool
  | none => false
  | some o => match o with | .list _ => true | .tup _ => true | _ => false
noncomputable def autoSq (a : AV) (os : List AO) : Bool := match a with
  | .str _ => true
  | .ref i => sqO os[i]?
  | _ => false
theorem autoSq_ok {a : AV} {os : List AO} (h : autoSq a os = true) : Sq os a := by
  cases a with
  | str x => exact .str
  | ref i =>
    have h : sqO os[i]? = true := h
    cases ho : os[i]? with
    | none => rw [ho] at h; cases h
    | some o =>
      rw [ho] at h
      cases o with
      | list xs => exact .list ho
      | tup xs => exact .tup ho
      | _ => cases h
  | _ => cases h

noncomputable def itemL (xs : List AV) (k : Int) (os : List AO) : Option (AV × List AO × Prop) := match decide (0 ≤ k) with
  | true => xs[k.toNat]?.bind fun v => some (v, os, k < 2 ^ 63)
  | false => xs[(k + xs.length).toNat]?.bind fun v => some (v, os, -(xs.length : Int) ≤ k ∧ -(2 ^ 63) ≤ k)
noncomputable def itemT (xs : List AV) (k : Int) (os : List AO) : Option (AV × List AO × Prop) := (seqIndex? k xs.length).bind fun j => xs[j]?.bind fun v => some (v, os, -(2 ^ 63) ≤ k ∧ k < 2 ^ 63)
noncomputable def itemO (k : Int) (os : List AO) : Option AO → Option (AV × List AO × Prop)
  | none => none
  | some o => match o with
    | .list xs => itemL xs k os
    | .tup xs => itemT xs k os
    | _ => none
noncomputable def autoItem (a b : AV) (os : List AO) : Option (AV × List AO × Prop) :=
  match a with
  | .ref i => (match b with | .int k => itemO k os os[i]? | _ => none)
  | _ => none
theorem itemL_ok {i : Nat} {xs : List AV} {k : Int} {os : List AO} (ho : os[i]? = some (.list xs)) : OkR (itemL xs k os) (Op2 c n getItem (.ref i) (.int k) os) := by
  unfold itemL
  cases hk : decide (0 ≤ k) with
  | true => exact OkR.bind fun v h1 hφ => item_l ho (of_decide_eq_true hk) hφ h1
  | false => exact OkR.bind fun v h1 hφ => item_ln ho (Int.not_le.mp (of_decide_eq_false hk)) hφ.1 hφ.2 h1
theorem itemT_ok {i : Nat} {xs : List AV} {k : Int} {os : List AO} (ho : os[i]? = some (.tup xs)) : OkR (itemT xs k os) (Op2 c n getItem (.ref i) (.int k) os) := OkR.bind fun j h1 => OkR.bind fun v h2 hφ => item_t ho hφ.1 hφ.2 h1 h2
theorem itemO_ok {i : Nat} {k : Int} {os : List AO} {o : Option AO} (ho : os[i]? = o) : OkR (itemO k os o) (Op2 c n getItem (.ref i) (.int k) os) := by
  cases o with
  | none => exact True.intro
  | some o => cases o with
    | list xs => exact itemL_ok ho
    | tup xs => exact itemT_ok ho
    | _ => exact True.intro
theorem autoItem_ok (a b : AV) (os : List AO) : OkR (autoItem a b os) (Op2 c n getItem a b os) := by
  cases a with
  | ref i => cases b with
    | int k => exact itemO_ok rfl
    | _ => exact True.intro
  | _ => exact True.intro

noncomputable def autoSlice (a : AV) (lo hi st : Option Int) (os : List AO) : Option (AV × List AO × Prop) :=
  match st with
  | none => (match a with
    | .str x => some (.str (cutS x lo hi), os, x.length ≤ sizeLine)
    | .ref i => (listOf os[i]?).bind fun xs => some (.ref os.length, os ++ [.list (cut xs lo hi)], xs.length ≤ sizeLine)
    | _ => none)
  | some _ => none
theorem autoSlice_ok (a : AV) (lo hi st : Option Int) (os : List AO) : OkR (autoSlice a lo hi st os) (SlOp c n a lo hi st os) := by
  cases st with
  | some _ => exact True.intro
  | none => cases a with
    | str x => exact fun hφ => slice_s hφ
    | ref i => exact OkR.bind fun xs h1 hφ => slice_ls (listOf_ok h1) hφ
    | _ => exact True.intro

noncomputable def truO : Option AO → Option (Bool × Prop)
  | none => none
  | some o => match o with
    | .list xs => some (xs.length != 0, xs.length ≤ sizeLine)
    | .tup xs => some (xs.length != 0, xs.length ≤ sizeLine)
    | _ => none
noncomputable def autoTru (a : AV) (os : List AO) : Option (Bool × Prop) :=
  match a with
  | .bool b => some (b, True)
  | .str x => some (x.length != 0, x.length ≤ sizeLine)
  | .ref i => truO os[i]?
  | _ => none
noncomputable def OkT (r : Option (Bool × Prop)) (P : Bool → Prop) : Prop := match r with
  | none => True
  | some r => r.2 → P r.1
theorem truO_ok {i : Nat} {os : List AO} {o : Option AO} (ho : os[i]? = o) : OkT (truO o) (Tru c n (.ref i) os) := by
  cases o with
  | none => exact True.intro
  | some o => cases o with
    | list xs => exact fun hφ => tru_l ho hφ
    | tup xs => exact fun hφ => tru_t ho hφ
    | _ => exact True.intro
theorem autoTru_ok (a : AV) (os : List AO) : OkT (autoTru a os) (Tru c n a os) := by
  cases a with
  | bool z => exact fun _ => tru_b
  | str x => exact fun hφ => tru_s hφ
  | ref i => exact truO_ok rfl
  | _ => exact True.intro

/-! ### the evaluator: what cannot be told is asked -/

structure St where
  σ : S
  q : List (AV × List AO)
  φ : Prop

noncomputable def ask (st : St) (P : AV → List AO → Prop) : Option (AV × St) := match st.q with
  | (v, os') :: q => some (v, ⟨⟨st.σ.vs, os'⟩, q, st.φ ∧ P v os'⟩)
  | [] => none
noncomputable def fin (st : St) (r : Option (AV × List AO × Prop)) (P : AV → List AO → Prop) : Option (AV × St) := match r with
  | some (v, os', φ) => some (v, ⟨⟨st.σ.vs, os'⟩, st.q, st.φ ∧ φ⟩)
  | none => ask st P
abbrev also (st : St) (p : Prop) : St := ⟨st.σ, st.q, st.φ ∧ p⟩

/-- what is given holds, if what is left to be shown is so -/
noncomputable def OkE {α : Type} (r : Option (α × St)) (st : St) (Q : α → S → Prop) : Prop := match r with
  | none => True
  | some r => r.2.φ → st.φ ∧ Q r.1 r.2.σ
theorem OkE.get {α : Type} {r : Option (α × St)} {st st' : St} {Q : α → S → Prop} {v : α} (h : OkE r st Q) (e : r = some (v, st')) (hφ : st'.φ) : st.φ ∧ Q v st'.σ := by
  subst e; exact h hφ
theorem OkE.step {α β : Type} {r : Option (α × St)} {x : α × St} {o : Option (β × St)} {st : St} {P : α → S → Prop} {Q : β → S → Prop} (h1 : OkE r st P) (e : r = some x) (h2 : OkE o x.2 fun v σ' => P x.1 x.2.σ → Q v σ') : OkE o st Q := by
  subst e
  cases o with
  | none => exact True.intro
  | some p => exact fun hφ => ⟨(h1 (h2 hφ).1).1, (h2 hφ).2 (h1 (h2 hφ).1).2⟩
theorem OkE.bind {α β : Type} {r : Option (α × St)} {f : α × St → Option (β × St)} {st : St} {P : α → S → Prop} {Q : β → S → Prop} (h1 : OkE r st P) (h2 : ∀ a st1, OkE (f (a, st1)) st1 fun v σ' => P a st1.σ → Q v σ') : OkE (r.bind f) st Q := by
  cases hr : r with
  | none => exact True.intro
  | some x => exact OkE.step h1 hr (h2 x.1 x.2)
theorem OkE.bindO {α β : Type} {o : Option α} {f : α → Option (β × St)} {st : St} {Q : β → S → Prop} (h : ∀ x, o = some x → OkE (f x) st Q) : OkE (o.bind f) st Q := by
  cases o with
  | none => exact True.intro
  | some x => exact h x rfl
theorem OkE.bindP {α β : Type} {o : Option α} {P : α → Prop} {f : α → Option (β × St)} {st : St} {Q : β → S → Prop} (ho : OkO o P) (h : ∀ x, P x → OkE (f x) st Q) : OkE (o.bind f) st Q := by
  cases o with
  | none => exact True.intro
  | some x => exact h x ho
theorem OkE.mono {α : Type} {r : Option (α × St)} {st : St} {P Q : α → S → Prop} (h : OkE r st P) (hq : ∀ v σ', P v σ' → Q v σ') : OkE r st Q := by
  cases r with
  | none => exact True.intro
  | some r => exact fun hφ => ⟨(h hφ).1, hq _ _ (h hφ).2⟩
theorem OkE.more {α : Type} {r : Option (α × St)} {st : St} {p : Prop} {Q : α → S → Prop} (h : OkE r (also st p) fun v σ' => p → Q v σ') : OkE r st Q := by
  cases r with
  | none => exact True.intro
  | some r => exact fun hφ => ⟨(h hφ).1.1, (h hφ).2 (h hφ).1.2⟩
theorem ask_ok {st : St} {P : AV → List AO → Prop} {Q : AV → S → Prop} (h : ∀ v os', P v os' → Q v ⟨st.σ.vs, os'⟩) : OkE (ask st P) st Q := by
  obtain ⟨σ, q, φ⟩ := st
  cases q with
  | nil => exact True.intro
  | cons r q => exact fun hφ => ⟨hφ.1, h _ _ hφ.2⟩
theorem fin_ok {st : St} {r : Option (AV × List AO × Prop)} {P : AV → List AO → Prop} {Q : AV → S → Prop} (hr : OkR r P) (h : ∀ v os', P v os' → Q v ⟨st.σ.vs, os'⟩) : OkE (fin st r P) st Q := by
  cases r with
  | some r => exact fun hφ => ⟨hφ.1, h _ _ (hr hφ.2)⟩
  | none => exact ask_ok h

inductive GOK (c : Cx) : List (Str × AV) → Prop
  | nil : GOK c []
  | glob {x : Str} {a : AV} {v : Value} {G : List (Str × AV)} (e : nsIn c.K mainGlobals x = some (some v)) (ha : ∀ ρ, VR ρ a v) (r : GOK c G) : GOK c ((x, a) :: G)
  | blt {x : Str} {v : Value} {G : List (Str × AV)} (e : nsIn c.K mainGlobals x = some Option.none) (hv : bootBuiltins x = some v) (hx : x ≠ "__name__") (r : GOK c G) : GOK c ((x, .lit v) :: G)

variable {fd : FD} {σ : S}
theorem GOK.ev {G : List (Str × AV)} (h : GOK c G) {x : Str} {v : AV} (e : G.lookup x = some v) (hl : fd.scope.names.lookup x = some .globalImplicit) (hk : fd.scope.kind = .function) (hd : (x == ("__debug__" : Str)) = false) {pos : Pos} : Ev c n fd (.Name x pos) σ v σ := by
  induction h with
  | nil => cases e
  | @glob y a w G e' ha r ih =>
    rw [List.lookup_cons] at e
    cases hy : x == y with
    | true => rw [hy] at e; cases e; obtain rfl := eq_of_beq hy; exact Ev.glob e' ha hl hk hd
    | false => rw [hy] at e; exact ih e
  | @blt y w G e' hv hx r ih =>
    rw [List.lookup_cons] at e
    cases hy : x == y with
    | true => rw [hy] at e; cases e; obtain rfl := eq_of_beq hy; exact Ev.blt e' hv hl hk hd hx
    | false => rw [hy] at e; exact ih e

noncomputable def cellOf : Option AO → Option AV
  | none => none
  | some o => match o with | .cell v => v | _ => none
theorem cellOf_ok {o : Option AO} {v : AV} (h : cellOf o = some v) : o = some (.cell (some v)) := by
  cases o with
  | none => cases h
  | some o => cases o with
    | cell w => have h : w = some v := h; rw [h]
    | _ => cases h
noncomputable def nmC (fd : FD) (x : Str) (σ : S) : Option AV := (fd.cells.lookup x).bind fun k => cellOf σ.os[k]?
noncomputable def nmK (fd : FD) (G : List (Str × AV)) (x : Str) (σ : S) : Option NameKind → Option AV
  | none => none
  | some s => match s with
    | .local => σ.vs.lookup x
    | .cell => nmC fd x σ
    | .free => (match x == ("__classdict__" : Str) with | false => nmC fd x σ | true => none)
    | .globalImplicit => G.lookup x
    | _ => none
noncomputable def nm (fd : FD) (G : List (Str × AV)) (x : Str) (σ : S) : Option AV := match x == ("__debug__" : Str) with
  | true => none
  | false => nmK fd G x σ (fd.scope.names.lookup x)
theorem nm_ok {G : List (Str × AV)} (hG : GOK c G) (hk : fd.scope.kind = .function) {x : Str} {v : AV} {pos : Pos} (h : nm fd G x σ = some v) : Ev c n fd (.Name x pos) σ v σ := by
  unfold nm at h
  cases hd : x == ("__debug__" : Str) with
  | true => rw [hd] at h; cases h
  | false =>
    rw [hd] at h
    have h : nmK fd G x σ (fd.scope.names.lookup x) = some v := h
    cases hl : fd.scope.names.lookup x with
    | none => rw [hl] at h; cases h
    | some s =>
      rw [hl] at h
      cases s with
      | «local» => exact Ev.loc h hl hk hd
      | cell =>
        obtain ⟨k, h1, h2⟩ := Option.bind_eq_some_iff.mp h
        exact Ev.cel h1 (cellOf_ok h2) hl hk hd
      | free =>
        have h : (match x == ("__classdict__" : Str) with | false => nmC fd x σ | true => none) = some v := h
        cases he : x == ("__classdict__" : Str) with
        | true => rw [he] at h; cases h
        | false =>
          rw [he] at h
          obtain ⟨k, h1, h2⟩ := Option.bind_eq_some_iff.mp h
          exact Ev.free h1 (cellOf_ok h2) hl hk hd he
      | globalImplicit => exact hG.ev h hl hk hd
      | _ => cases h

noncomputable def isStar : Expr → Bool
  | .Starred _ _ => true
  | _ => false
theorem isStar_no {e : Expr} (h : isStar e = false) (es : List Expr) (env : Env) : starEach (e :: es) env = (false, eval e env) :: starEach es env := by
  cases e <;> first | (cases h; done) | rfl
noncomputable def evs (ev : Expr → St → Option (AV × St)) : List Expr → St → Option (List AV × St)
  | [], st => some ([], st)
  | e :: es, st => match isStar e with
    | true => none
    | false => (ev e st).bind fun r => (evs ev es r.2).bind fun q => some (r.1 :: q.1, q.2)

noncomputable def isPlain : List Expr → Bool
  | [] => true
  | e :: es => match isStar e with | true => false | false => isPlain es
theorem isPlain_all {es : List Expr} (h : isPlain es = true) : Plain1 es ∧ ∀ env, (starEach es env).any (·.1) = false := by
  induction es with
  | nil => exact ⟨.nil, fun _ => rfl⟩
  | cons e es ih =>
    unfold isPlain at h
    cases he : isStar e with
    | true => rw [he] at h; cases h
    | false =>
      rw [he] at h
      refine ⟨.cons (isStar_no he es), fun env => ?_⟩
      rw [isStar_no he es env]; exact (ih h).2 env
theorem isPlain_star {es : List Expr} (h : isPlain es = true) : ∀ env, (starEach es env).any (·.1) = false := (isPlain_all h).2
theorem isPlain_p1 {es : List Expr} (h : isPlain es = true) : Plain1 es := (isPlain_all h).1

theorem evs_ok {ev : Expr → St → Option (AV × St)} (hev : ∀ e st, OkE (ev e st) st (Ev c n fd e st.σ)) (es : List Expr) : ∀ st, OkE (evs ev es st) st (Evs c n fd es st.σ) := by
  induction es with
  | nil => exact fun st hφ => ⟨hφ, Evs.nil⟩
  | cons e es ih =>
    intro st
    unfold evs
    cases he : isStar e with
    | true => exact True.intro
    | false => exact OkE.bind (hev e st) fun v st1 => OkE.bind (ih st1) fun ws st2 hφ => ⟨hφ, fun b a => Evs.cons a b (isStar_no he es)⟩

noncomputable def toInt : AV → Option Int
  | .int i => some i
  | _ => none
theorem toInt_ok (a : AV) : OkO (toInt a) fun i => a = .int i := by
  cases a with
  | int j => exact rfl
  | _ => exact True.intro
noncomputable def evp (ev : Expr → St → Option (AV × St)) : Option Expr → St → Option (Option Int × St)
  | none, st => some (none, st)
  | some e, st => (ev e st).bind fun r => (toInt r.1).bind fun i => some (some i, r.2)
theorem evp_ok {ev : Expr → St → Option (AV × St)} (hev : ∀ e st, OkE (ev e st) st (Ev c n fd e st.σ)) (e : Option Expr) (st : St) : OkE (evp ev e st) st (EvP c n fd e st.σ) := by
  cases e with
  | none => exact fun hφ => ⟨hφ, EvP.none⟩
  | some e => exact OkE.bind (hev e st) fun v st1 => OkE.bindP (toInt_ok v) fun i h hφ => ⟨hφ, fun a => EvP.some (h ▸ a)⟩

end
end Mine
end

section
open PySem PySem.W PyProof.Rows PyProof.V PySem.Spec PySem.SeqAt
set_option linter.unusedVariables false
namespace Mine

section
variable {c : Cx} {n : Nat} {fd : FD} {σ : S}

noncomputable def isCell : Option AO → Option (Option AV)
  | none => none
  | some o => match o with | .cell u => some u | _ => none
theorem isCell_ok {o : Option AO} {u : Option AV} (h : isCell o = some u) : o = some (.cell u) := by
  cases o with
  | none => cases h
  | some o => cases o with
    | cell w => cases h; rfl
    | _ => cases h
noncomputable def stoK (fd : FD) (x : Str) (v : AV) (σ : S) : Option NameKind → Option S
  | none => none
  | some s => match s with
    | .local => some ⟨put x v σ.vs, σ.os⟩
    | .cell => (fd.cells.lookup x).bind fun k => (isCell σ.os[k]?).bind fun _ => some ⟨σ.vs, σ.os.set k (.cell (some v))⟩
    | _ => none
noncomputable def sto (fd : FD) (x : Str) (v : AV) (σ : S) : Option S := stoK fd x v σ (fd.scope.names.lookup x)
theorem sto_ok {x : Str} {v : AV} {σ' : S} (h : sto fd x v σ = some σ') : Sto fd x v σ σ' := by
  unfold sto at h
  cases hl : fd.scope.names.lookup x with
  | none => rw [hl] at h; cases h
  | some s =>
    rw [hl] at h
    cases s with
    | «local» => cases h; exact .loc hl
    | cell =>
      obtain ⟨k, h1, h⟩ := Option.bind_eq_some_iff.mp h
      obtain ⟨u, h2, h⟩ := Option.bind_eq_some_iff.mp h
      cases h; exact .cel h1 (isCell_ok h2) hl
    | _ => cases h

noncomputable def plainV : AV → Bool
  | .int _ | .str _ | .bool _ | .none => true
  | _ => false

theorem sz1000 : 1000 ≤ sizeLine := by rw [sizeLine_eq]; decide

/-- fewer names known -/
noncomputable def Sub : List (Str × AV) → List (Str × AV) → Prop
  | [], _ => True
  | (x, v) :: r, vs => vs.lookup x = some v ∧ Sub r vs
theorem Sub.lookup {vs' : List (Str × AV)} : ∀ {vs : List (Str × AV)}, Sub vs vs' → ∀ {x : Str} {v : AV}, vs.lookup x = some v → vs'.lookup x = some v
  | [], _, _, _, e => by cases e
  | (y, w) :: r, h, x, v, e => by
    rw [List.lookup_cons] at e
    cases hy : x == y with
    | true => rw [hy] at e; cases e; obtain rfl := eq_of_beq hy; exact h.1
    | false => rw [hy] at e; exact h.2.lookup e
theorem In.fewer {σ' : S} {env : Env} {ρ : List Pl} {h : Heap} (i : In c fd σ env ρ h) (hs : Sub σ'.vs σ.vs) (ho : σ.os = σ'.os) : In c fd σ' env ρ h := by
  refine ⟨ho ▸ i.rel, i.fre.scope, i.fre.glob, i.fre.blt, i.fre.cq, i.fre.cells, ?_⟩
  obtain ⟨m, hn, hm⟩ := i.fre.ns
  exact ⟨m, hn, fun x v e => hm x v (hs.lookup e)⟩
theorem Exs.fewer {σ₁ σ' : S} {f : AF} {sts : List Stmt} (hs : Sub σ₁.vs σ.vs) (ho : σ.os = σ₁.os) (go : Exs c n fd sts σ₁ f σ') : Exs c n fd sts σ f σ' := fun env A ρ s rm i => go env A ρ s rm (i.fewer hs ho)
theorem Lp.fewer {σ₁ σ' : S} {f : AF} {x : Str} {body : List Stmt} {src : Src} {k : Nat} (hs : Sub σ₁.vs σ.vs) (ho : σ.os = σ₁.os) (go : Lp c n fd x body src k σ₁ f σ') : Lp c n fd x body src k σ f σ' := fun env A ρ s it px R rm i => go env A ρ s it px R rm (i.fewer hs ho)

theorem Exs.less {σ₁ σ' : S} {f : AF} {sts : List Stmt} (go : Exs c n fd sts σ f σ₁) (hs : Sub σ'.vs σ₁.vs) (ho : σ₁.os = σ'.os) : Exs c n fd sts σ f σ' := fun env A ρ s rm i => (go env A ρ s rm i).mono fun x h₁ ρ₁ q p => ⟨p.1.fewer hs ho, p.2⟩
theorem Lp.less {σ₁ σ' : S} {f : AF} {x : Str} {body : List Stmt} {src : Src} {k : Nat} (go : Lp c n fd x body src k σ f σ₁) (hs : Sub σ'.vs σ₁.vs) (ho : σ₁.os = σ'.os) : Lp c n fd x body src k σ f σ' := fun env A ρ s it px R rm i hi hn hb hR => go env A ρ s it px R rm i hi hn hb fun fl h' tk' ρ' q ii hf => hR fl h' tk' ρ' q (ii.fewer hs ho) hf

theorem execs_append (env : Env) (b : List Stmt) : ∀ rest : List Stmt, execs (b ++ rest) env = (do match ← execs b env with | .next => execs rest env | f => Pure.pure f) := by
  induction b with
  | nil => intro rest; show execs rest env = _; rw [show execs [] env = Pure.pure Flow.next from rfl, pure_bind]
  | cons s b ih =>
    intro rest
    rw [List.cons_append, execs_cons, execs_cons, bind_assoc]
    congr 1; funext f
    cases f with
    | next => exact ih rest
    | _ => simp

theorem Exs.ite (z : Bool) {t : Expr} {b o rest : List Stmt} {pos} {f : AF} {σ₁ σ₂ : S} (h : Tst c n fd t σ z σ₁) (h1 : Exs c n fd ((bif z then b else o) ++ rest) σ₁ f σ₂) : Exs c n fd (.If t b o pos :: rest) σ f σ₂ := fun env A ρ s rm i => by
  rw [execs_cons, exec_If]
  have : Run c [env.locals] A ρ s (do standAt pos; let z ← isTrue t env (eval t env); execs ((bif z then b else o) ++ rest) env) (fun ρ' h' x => In c fd σ₂ env ρ' h' ∧ FR ρ' f x) := by
    refine Run.stand (Run.bind (h env A ρ s rm i) fun x hx tk ρ₁ q₁ p₁ => ?_)
    obtain ⟨i₁, rfl⟩ := p₁
    exact h1 env A ρ₁ _ rm i₁
  refine Run.of_eq ?_ this
  simp only [bind_assoc]
  congr 1; funext _; congr 1; funext z
  rw [execs_append]
  cases z <;> rfl
end
end Mine
end

section
open PySem PySem.W PyProof.Rows
/-! these names are taken so that the head's tool lays no twins: twins would make the compiled text three times as big and are not needed -/
def PySem.W.Fast.tw10007627690174824804 : Nat := 0
def PySem.W.Fast.tw10010936943081839664 : Nat := 0
def PySem.W.Fast.tw10227693086864044499 : Nat := 0
def PySem.W.Fast.tw10833955939284561965 : Nat := 0
def PySem.W.Fast.tw10948738476641704880 : Nat := 0
def PySem.W.Fast.tw11420187438672877268 : Nat := 0
def PySem.W.Fast.tw11510521692212771419 : Nat := 0
def PySem.W.Fast.tw11729385059970357855 : Nat := 0
def PySem.W.Fast.tw11985326045990495214 : Nat := 0
def PySem.W.Fast.tw1218959903707654005 : Nat := 0
def PySem.W.Fast.tw12233582284571471492 : Nat := 0
def PySem.W.Fast.tw12268644228514654432 : Nat := 0
def PySem.W.Fast.tw1258717718454355964 : Nat := 0
def PySem.W.Fast.tw12866136484021002089 : Nat := 0
def PySem.W.Fast.tw1291980286583624508 : Nat := 0
def PySem.W.Fast.tw12945451867199242903 : Nat := 0
def PySem.W.Fast.tw13016732220969518872 : Nat := 0
def PySem.W.Fast.tw13215998728584607739 : Nat := 0
def PySem.W.Fast.tw13236226663087606529 : Nat := 0
def PySem.W.Fast.tw13317431791736044220 : Nat := 0
def PySem.W.Fast.tw1333364371103165705 : Nat := 0
def PySem.W.Fast.tw13607416678640721797 : Nat := 0
def PySem.W.Fast.tw13678640442995254988 : Nat := 0
def PySem.W.Fast.tw13900631225919944168 : Nat := 0
def PySem.W.Fast.tw14108194823987119177 : Nat := 0
def PySem.W.Fast.tw1414301608579184545 : Nat := 0
def PySem.W.Fast.tw14333388528381170442 : Nat := 0
def PySem.W.Fast.tw14399583150740685797 : Nat := 0
def PySem.W.Fast.tw14537914154153760125 : Nat := 0
def PySem.W.Fast.tw14714103240675001986 : Nat := 0
def PySem.W.Fast.tw14834023430324568649 : Nat := 0
def PySem.W.Fast.tw14979626087600564940 : Nat := 0
def PySem.W.Fast.tw15007238320947547705 : Nat := 0
def PySem.W.Fast.tw15066959818950650227 : Nat := 0
def PySem.W.Fast.tw15112985482279097393 : Nat := 0
def PySem.W.Fast.tw15168306246750427876 : Nat := 0
def PySem.W.Fast.tw151948405760981731 : Nat := 0
def PySem.W.Fast.tw15203252443234799407 : Nat := 0
def PySem.W.Fast.tw15475462885187679331 : Nat := 0
def PySem.W.Fast.tw15480198773659482676 : Nat := 0
def PySem.W.Fast.tw15916391134991225584 : Nat := 0
def PySem.W.Fast.tw15980859228951719591 : Nat := 0
def PySem.W.Fast.tw16018607276475445134 : Nat := 0
def PySem.W.Fast.tw16049961110935095269 : Nat := 0
def PySem.W.Fast.tw16241802466949684156 : Nat := 0
def PySem.W.Fast.tw16414604833108395602 : Nat := 0
def PySem.W.Fast.tw16531745337717519161 : Nat := 0
def PySem.W.Fast.tw16817318245366136608 : Nat := 0
def PySem.W.Fast.tw16916688483869632129 : Nat := 0
def PySem.W.Fast.tw17000155066101142889 : Nat := 0
def PySem.W.Fast.tw17000458434675057986 : Nat := 0
def PySem.W.Fast.tw17018628822417861297 : Nat := 0
def PySem.W.Fast.tw1702518465993881591 : Nat := 0
def PySem.W.Fast.tw17069979004554194336 : Nat := 0
def PySem.W.Fast.tw17100903815162463580 : Nat := 0
def PySem.W.Fast.tw17111948838632640456 : Nat := 0
def PySem.W.Fast.tw17476080006546285661 : Nat := 0
def PySem.W.Fast.tw17532718790514356516 : Nat := 0
def PySem.W.Fast.tw17888162413812561239 : Nat := 0
def PySem.W.Fast.tw17975652961387846372 : Nat := 0
def PySem.W.Fast.tw17988542015724977305 : Nat := 0
def PySem.W.Fast.tw18056578402003937789 : Nat := 0
def PySem.W.Fast.tw1829445100760108279 : Nat := 0
def PySem.W.Fast.tw18340240734955500558 : Nat := 0
def PySem.W.Fast.tw18345786424863182364 : Nat := 0
def PySem.W.Fast.tw1962928258387122110 : Nat := 0
def PySem.W.Fast.tw2283851925072248500 : Nat := 0
def PySem.W.Fast.tw2478078296215019888 : Nat := 0
def PySem.W.Fast.tw282004115355043989 : Nat := 0
def PySem.W.Fast.tw2862820112641550484 : Nat := 0
def PySem.W.Fast.tw3152983702415266003 : Nat := 0
def PySem.W.Fast.tw3282434896037501709 : Nat := 0
def PySem.W.Fast.tw3636048126100218174 : Nat := 0
def PySem.W.Fast.tw3764465048917985505 : Nat := 0
def PySem.W.Fast.tw3778451253796500701 : Nat := 0
def PySem.W.Fast.tw3891137856419664920 : Nat := 0
def PySem.W.Fast.tw392140993173905013 : Nat := 0
def PySem.W.Fast.tw3972328310683599613 : Nat := 0
def PySem.W.Fast.tw4011157648589011858 : Nat := 0
def PySem.W.Fast.tw4071324889030633612 : Nat := 0
def PySem.W.Fast.tw4090926877573551719 : Nat := 0
def PySem.W.Fast.tw4302124980754421698 : Nat := 0
def PySem.W.Fast.tw4797165386629745026 : Nat := 0
def PySem.W.Fast.tw5349121933718820234 : Nat := 0
def PySem.W.Fast.tw5721027456603625697 : Nat := 0
def PySem.W.Fast.tw5902227825499142635 : Nat := 0
def PySem.W.Fast.tw6245536207120538393 : Nat := 0
def PySem.W.Fast.tw6380047634161181297 : Nat := 0
def PySem.W.Fast.tw6448080314894763839 : Nat := 0
def PySem.W.Fast.tw6589095468515690095 : Nat := 0
def PySem.W.Fast.tw6679490504615227074 : Nat := 0
def PySem.W.Fast.tw6683783046931543321 : Nat := 0
def PySem.W.Fast.tw704327219915372674 : Nat := 0
def PySem.W.Fast.tw7269565832213808900 : Nat := 0
def PySem.W.Fast.tw7275051467321613617 : Nat := 0
def PySem.W.Fast.tw7276740287692124622 : Nat := 0
def PySem.W.Fast.tw7634112469962163648 : Nat := 0
def PySem.W.Fast.tw7745614565497352828 : Nat := 0
def PySem.W.Fast.tw7892128664451923741 : Nat := 0
def PySem.W.Fast.tw8075568018651887793 : Nat := 0
def PySem.W.Fast.tw8206430501311747189 : Nat := 0
def PySem.W.Fast.tw8376441433122354887 : Nat := 0
def PySem.W.Fast.tw8424611434330503625 : Nat := 0
def PySem.W.Fast.tw8537084889766193716 : Nat := 0
def PySem.W.Fast.tw8579058602437062094 : Nat := 0
def PySem.W.Fast.tw8603108125212654177 : Nat := 0
def PySem.W.Fast.tw8753696776887207221 : Nat := 0
def PySem.W.Fast.tw8860024209350480642 : Nat := 0
def PySem.W.Fast.tw9011979029575296479 : Nat := 0
def PySem.W.Fast.tw9315938663221665524 : Nat := 0
def PySem.W.Fast.tw9467589175468403638 : Nat := 0
def PySem.W.Fast.tw951843321253372498 : Nat := 0
def PySem.W.Fast.tw9564595351457756722 : Nat := 0
def PySem.W.Fast.tw9697512110049397445 : Nat := 0
def PySem.W.Fast.tw9908251947323293946 : Nat := 0
def PySem.W.Fast.tw9948023125614773506 : Nat := 0
namespace Mine
set_option maxRecDepth 100000 in
set_option maxHeartbeats 8000000 in
open_top hd for PySem.Challenge.rw_pe0095_02
end Mine
end

section
open PySem PySem.W PyProof.Rows PyProof.V PySem.Spec PySem.SeqAt Builtin Builtin.ObjectAttr
set_option linter.unusedVariables false
set_option maxRecDepth 100000
namespace Mine

theorem slot_fn_sa : Slot "function" "__setattr__" "object.__setattr__" := .of (owner := "object") (n := "__setattr__") (by rw [typeLookup_type, builtinLookup_eq_fast]; kernel_rfl) (by decide +kernel) (by decide +kernel) (by decide +kernel)
    (by first | exact .inl (by decide +kernel) | exact .inr (by decide +kernel)) (by rw [isSubtype_type]; kernel_rfl)
theorem fn_mro : mroOf (.type "function") = pure [.type "function", .type "object"] := by kernel_rfl
theorem fn_passes (self : Value) : refuseLoop self "__setattr__" [.type "function", .type "object"] = pure () := by kernel_rfl
theorem fn_read : typeLookup (.type "function") "read" = pure none := by rw [typeLookup_type, builtinLookup_eq_fast]; kernel_rfl
theorem fn_getattr : typeLookup (.type "function") "__getattr__" = pure none := by rw [typeLookup_type, builtinLookup_eq_fast]; kernel_rfl
theorem fn_ga : typeLookup (.type "function") "__getattribute__" = pure (some (.builtin "object.__getattribute__")) := by rw [typeLookup_type, builtinLookup_eq_fast]; kernel_rfl

section
variable {prog : Program} {w : World} {A : Around} {E : Value → Shared → Prop} {s : Shared} {f D : Addr} {d : FuncData} {sl : Array (Option Value)} {v : Value}

theorem fn_set {Q : Unit → Shared → Prop} (ho : s.heap.get? f = some { cls := .type "function", dict := none, data := .func d, slots := sl })
    (hQ : ∀ h' tk, (∀ b o, b ≠ f → s.heap.get? b = some o → h'.get? b = some o) → h'.get? f = some { cls := .type "function", dict := some s.heap.objs.size, data := .func d, slots := sl } →
      h'.Ns1 s.heap.objs.size (fun y => if y = "read" then some v else none) → h'.objs.size = s.heap.objs.size + 1 → Q () { s with heap := h', toks := tk }) : wpAny (model prog w) A (setAttr (.ref f) "read" v) Q E s := by
  have hT : ∀ tk, ({ s with toks := tk } : Shared).TypeIs (.ref f) "function" := fun tk => ⟨_, ho, rfl⟩
  obtain ⟨h, g, dr, t, os⟩ := s
  dsimp only at ho hQ hT
  unfold setAttr
  refine wpAny_bind (wpAny_mkText (wpAny_bind (wpAny_callSpecial?_slot (hT _) slot_fn_sa (wpAny_call_entry slot_fn_sa (hT _) F.entry_object_sa ?_ (F.store_object.args _ _ _)))))
  rw [osa_eq, refuse_eq]
  refine wpAny_bind (wpAny_bind (wpAny_typeOf (hT _) ?_))
  rw [fn_mro]
  refine wpAny_bind (wpAny_pure ?_)
  rw [fn_passes]
  refine wpAny_pure (wpAny_bind (wpAny_typeOf (hT _) ?_))
  rw [fn_read]
  refine wpAny_bind (wpAny_pure (wpAny_bind (wpAny_pure ?_)))
  dsimp only
  unfold storeInOwnDict
  have e1 : ownStreamTells (.ref f) (.type "function") = pure () := by kernel_rfl
  rw [e1]
  refine wpAny_bind (wpAny_pure ?_)
  rw [if_neg (by decide)]
  refine wpAny_bind ?_
  show wpAny _ _ (instanceDict f true) _ _ _
  unfold instanceDict
  have hx₁ : (h.push { cls := .type "dict", data := .dict #[] }).get? f = some { cls := .type "function", dict := none, data := .func d, slots := sl } := Heap.get?_push_of_some _ ho
  have hxs : f ≠ h.objs.size := Nat.ne_of_lt (Heap.lt_size ho)
  refine wpAny_bind (wpAny_loadPart ho ?_)
  dsimp only
  have e2 : typeHasDict (.type "function") = true := by decide +kernel
  rw [e2]
  rw [if_neg (by decide)]
  have hgd : ((h.push { cls := .type "dict", data := .dict #[] }).update f fun o => { cls := o.cls, dict := some h.objs.size, data := o.data, slots := o.slots }).get? h.objs.size = some { cls := .type "dict", data := .dict #[] } :=
    (Heap.get?_update_ne _ _ _ _ hxs.symm).trans (Heap.get?_push_at rfl rfl)
  have hnd : ((h.push { cls := .type "dict", data := .dict #[] }).update f fun o => { cls := o.cls, dict := some h.objs.size, data := o.data, slots := o.slots }).Ns h.objs.size (fun _ => none) :=
    ⟨_, #[], _, hgd, rfl, fun e he => absurd he (by simp), fun _ => rfl⟩
  refine wpAny_bind (wpAny_alloc' (wpAny_bind (wpAny_update' hx₁ ?_)))
  have e3 : dictMade (.type "function") f h.objs.size = pure (some h.objs.size) := by
    unfold dictMade
    exact if_neg (by decide)
  rw [e3]
  refine wpAny_pure ?_
  dsimp only
  unfold storeInDict newKeyGuard
  refine wpAny_bind (wpAny_pure (wpAny_bind (wpAny_nsSet1 (Heap.Ns1.of_empty hnd) fun h' hn' hs => ?_)))
  obtain ⟨oD, esD, epD, hoD, hdD, hcD⟩ := hn'.count (Within.cons (Str.ofString "read") v Within.nil)
  refine wpAny_bind (wpAny_lookBehind hoD (by rw [hdD]; exact pastItsLine_dict (Nat.le_trans hcD (by rw [List.length_cons, List.length_nil, sizeLine_eq]; omega))) ?_)
  refine wpAny_pure ⟨_, rfl, wpAny_pure ?_⟩
  refine hQ h' _ (fun b o hb e => ?_) ?_ hn' ?_
  · exact (hs.2 b (Nat.ne_of_lt (Heap.lt_size e))).trans ((Heap.get?_update_ne _ _ _ _ hb).trans (Heap.get?_push_of_some _ e))
  · exact (hs.2 f hxs).trans (Heap.get?_update_self _ hx₁ rfl)
  · rw [hs.1, Heap.size_update, Heap.size_push]

theorem Ns.look {h : Heap} {a : Addr} {m : Str → Option Value} (hn : h.Ns a m) : ∃ o, h.get? a = some o ∧ ∀ name, lookIn name o = some (m name) := by
  obtain ⟨o, es, ep, ho, hd, hk, hm⟩ := hn
  refine ⟨o, ho, fun name => ?_⟩
  unfold lookIn
  rw [hd]
  dsimp only
  have hm' := hm name
  unfold nsFind findBy at hm'
  rw [← hm', ← Array.find?_toList]
  cases hf : es.toList.find? (fun e => e.key.isStr name) with
  | some e => rfl
  | none =>
    have : es.toList.any (·.refKey) = false := by
      rw [List.any_eq_false]
      intro e he
      obtain ⟨n, t, hkey⟩ := hk e (Array.mem_toList_iff.mp he)
      simp [DictEntry.refKey, hkey]
    simp only [this, Option.map_none]
    rfl

theorem slot_fn_ga : Slot "function" "__getattribute__" "object.__getattribute__" := .of (owner := "object") (n := "__getattribute__") (by rw [typeLookup_type, builtinLookup_eq_fast]; kernel_rfl) (by decide +kernel) (by decide +kernel) (by decide +kernel)
    (by first | exact .inl (by decide +kernel) | exact .inr (by decide +kernel)) (by rw [isSubtype_type]; kernel_rfl)
theorem ga_args (a b : Value) : argsOk "object.__getattribute__" ⟨[a, b], []⟩ := by unfold argsOk; kernel_rfl

theorem fn_get {Q : Value → Shared → Prop} {m : Str → Option Value} {expr : Bool} (ho : s.heap.get? f = some { cls := .type "function", dict := some D, data := .func d, slots := sl }) (hD : s.heap.Ns D m) (hm : m "read" = some v) (hh : handedIn v = true)
    (hQ : ∀ tk, Q v { s with toks := tk }) : wpAny (model prog w) A (getAttr (.ref f) "read" expr) Q E s := by
  have hT : ∀ tk, ({ s with toks := tk } : Shared).TypeIs (.ref f) "function" := fun tk => ⟨_, ho, rfl⟩
  obtain ⟨od, hod, hlk⟩ := Ns.look hD
  obtain ⟨h, g, dr, t, os⟩ := s
  dsimp only at ho hQ hT hod
  unfold getAttr getAttrBy
  refine wpAny_bind (wpAny_mkText (wpAny_holding (wpAny_bind (wpAny_typeOf (hT _) ?_))))
  rw [fn_ga]
  refine wpAny_bind (wpAny_pure ?_)
  show wpAny _ _ (getAttrByItsOwn (.ref f) (.str "read" t) (.type "function") (.builtin "object.__getattribute__") true expr) _ _ _
  unfold getAttrByItsOwn hookBefore callGetattribute boundAndCalled
  refine wpAny_bind (wpAny_pure (wpAny_bind (wpAny_attempt (wpAny_holding ?_))))
  rw [show (expr && onTheHeap (Value.builtin "object.__getattribute__")) = false by simp [onTheHeap], if_neg (by decide)]
  rw [slot_fn_ga.bind]
  refine wpAny_bind (wpAny_pure (wpAny_call_entry slot_fn_ga (hT _) F.entry_object_getattribute ?_ (ga_args _ _)))
  have hfind : Looks (model prog w) h (find (.ref f) (.type "function") "read") (.value v) := by
    unfold find
    rw [fn_read]
    refine Looks.now.andThen (Looks.now.andThen (Looks.now.andThen ?_))
    show Looks _ _ (ownThenClass (.ref f) "read" none none) _
    unfold ownThenClass inOwnDict ObjectAttr.ownDict
    refine Looks.andThen (a := some v) ?_ (Looks.tag .now)
    refine Looks.andThen (a := some D) ?_ ?_
    · refine (Looks.ld ho).andThen ?_
      dsimp only
      unfold instanceDict
      refine (Looks.ld ho).andThen ?_
      exact .now
    · show Looks _ _ (nsGet D "read") _
      unfold nsGet
      refine (Looks.ld hod).andThen ?_
      rw [nsLook_of ((hlk "read").trans (by rw [hm]))]
      exact .now
  show wpAny _ _ (Builtin.«object.__getattribute__» ⟨[.ref f, .str "read" t], []⟩) _ _ _
  unfold Builtin.«object.__getattribute__»
  have e1 : slotArgs "__getattribute__" 1 ⟨[.ref f, .str "read" t], []⟩ = pure (.ref f, [.str "read" t]) := by kernel_rfl
  rw [e1]
  refine wpAny_bind (wpAny_pure ?_)
  dsimp only
  have e2 : attrName (.str "read" t) = pure (Str.ofString "read") := by kernel_rfl
  rw [e2]
  refine wpAny_bind (wpAny_pure (wpAny_bind (wpAny_typeOf (hT _) (wpAny_bind (hfind.at ?_)))))
  refine wpAny_pure ⟨_, rfl, ?_⟩
  rw [handedOut_of hh]
  exact wpAny_pure (hQ _)
end
end Mine
end

section
open PySem PySem.W PyProof.Rows PyProof.V PySem.Spec PySem.SeqAt Builtin Builtin.ObjectAttr
set_option linter.unusedVariables false
set_option maxRecDepth 100000
namespace Mine

section
variable {prog : Program} {w : World} {A : Around} {E : Value → Shared → Prop} {s : Shared} {x dx C : Addr} {v : Value} {K : Frag} {m : Str → Option Value} {name : Str} {cd : ClassData}

/-- an instance with its attributes -/
structure InstN (h : Heap) (x dx C : Addr) (m : Str → Option Value) : Prop where
  at_ : h.get? x = some (instObj C dx)
  ns : h.Ns1 dx m

theorem InstN.k {h : Heap} (I : InstN h x dx C m) : ∃ od, InstAt h x (instObj C dx) C (some od) ∧ (∀ name, lookIn name od = some (m name)) := by
  obtain ⟨od, ho, hl⟩ := Ns.look I.ns.ns
  exact ⟨od, ⟨I.at_, rfl, rfl, ho⟩, hl⟩

theorem findObj_own {od : Obj} (hc : clsIn K C = some cd) (hd : cd.hasDict = true) (hf : findIn K (.ref C) name = some none) (hl : lookIn name od = some (some v)) : findObj K C (some od) name = some (.value v) := by
  unfold findObj W.ownOf
  rw [hc, hf]
  simp [hd, hl]

theorem inst_get {Q : Value → Shared → Prop} {expr : Bool} (X : K.In s.heap) (I : InstN s.heap x dx C m) (hc : clsIn K C = some cd) (hd : cd.hasDict = true) (hga : findIn K (.ref C) "__getattribute__" = some (some (.builtin "object.__getattribute__"))) (hf : findIn K (.ref C) name = some none)
    (hm : m name = some v) (hh : handedIn v = true) (h : Q v { s with toks := s.toks + 1 }) : wpAny (model prog w) A (getAttr (.ref x) name expr) Q E s := by
  obtain ⟨od, J, hl⟩ := I.k
  exact get_value X J hga (findObj_own hc hd hf ((hl name).trans (by rw [hm]))) hh h

theorem inst_set {Q : Unit → Shared → Prop} {ns : List Str} (X : K.In s.heap) (I : InstN s.heap x dx C m) (hc : clsIn K C = some cd) (hd : cd.hasDict = true) (hs : findIn K (.ref C) "__setattr__" = some (some (.builtin "object.__setattr__"))) (hp : plainOver K C = true)
    (ht : takerIn K C name = some none) (hw : Within m ns) (hz : ns.length ≤ 1000) (hxd : x ≠ dx)
    (hQ : ∀ h' tk, InstN h' x dx C (fun y => if y = name then some v else m y) → Heap.SameBut dx s.heap h' → Q () { s with heap := h', toks := tk }) : wpAny (model prog w) A (setAttr (.ref x) name v) Q E s := by
  obtain ⟨h, g, dr, t, os⟩ := s
  obtain ⟨od, J, hl⟩ := I.k
  refine set_plain X J hs ?_
  refine osa_open X J hp ht fun b => ?_
  show wpAny _ _ (storeInOwnDict (.ref x) (.ref C) (.str name t) name v b) _ _ _
  unfold storeInOwnDict
  refine wpAny_bind (wpAny_pure ?_)
  rw [if_neg (show ¬ (Value.ref C == Value.type "module") = true from by intro e; cases e)]
  refine wpAny_bind ?_
  show wpAny _ _ (instanceDict x true) _ _ _
  unfold instanceDict
  refine wpAny_bind (wpAny_loadPart I.at_ ?_)
  refine wpAny_bind ((looks_clsIn (h := h) X hc).at ?_)
  rw [hd]
  refine wpAny_pure ?_
  show wpAny _ _ (storeInDict dx (.str name t) name v) _ _ _
  unfold storeInDict newKeyGuard
  refine wpAny_bind (wpAny_pure (wpAny_bind (wpAny_nsSet1 I.ns fun h' hn' hs => ?_)))
  obtain ⟨oD, esD, epD, hoD, hdD, hcD⟩ := hn'.count (Within.cons name v hw)
  refine wpAny_bind (wpAny_lookBehind hoD (by rw [hdD]; exact pastItsLine_dict (Nat.le_trans hcD (by rw [List.length_cons, sizeLine_eq]; omega))) ?_)
  refine wpAny_pure ?_
  exact hQ h' _ ⟨(hs.2 x hxd).trans I.at_, hn'⟩ hs
end
end Mine
end

section
open PySem PySem.W PyProof.Rows PyProof.V PySem.Spec PySem.SeqAt
set_option linter.unusedVariables false
set_option maxRecDepth 100000
namespace Mine

/-- a function that is made in a call -/
structure Nst where
  name : Str
  qual : Str
  params : Arguments
  body : FuncBody
  scope : Scope
  pos : Pos

noncomputable def mkF (N : Nst) (clos : List (Str × Addr)) (doc pm cv ctv : Value) : FuncData :=
  { name := N.name, qualname := N.qual, params := N.params, body := N.body, scope := N.scope, globals := mainGlobals, closure := clos, defaults := .none, kwdefaults := .none, doc, pyModule := pm, annotations := none, code := cv, closureTuple := ctv, builtins := builtinsNs }

noncomputable def tabVals (N : Nat → Nst) : Nat → List Addr → List Value
  | i, c :: cs => rawInt (N i).pos.line :: rawInt (N i).pos.col :: .ref c :: tabVals N (i + 1) cs
  | _, [] => []

/-- cells by their places -/
noncomputable def CL (ρ : List Pl) : List (Str × Nat) → List (Str × Addr) → Prop
  | [], [] => True
  | x :: xs, y :: ys => x.1 = y.1 ∧ (∃ p, ρ[x.2]? = some p ∧ y.2 = p.a) ∧ CL ρ xs ys
  | _, _ => False

/-- addresses by their places -/
noncomputable def PA (ρ : List Pl) : List Nat → List Addr → Prop
  | [], [] => True
  | x :: xs, y :: ys => (∃ p, ρ[x]? = some p ∧ y = p.a) ∧ PA ρ xs ys
  | _, _ => False
theorem PA.ren {ρ ρ' : List Pl} {f : Nat → Nat} : ∀ {cs : List Nat} {as : List Addr}, PA ρ cs as → (∀ i ∈ cs, ∀ p, ρ[i]? = some p → ρ'[f i]? = some p) → PA ρ' (cs.map f) as
  | [], [], _, _ => trivial
  | x :: xs, y :: ys, h, e => by
    obtain ⟨⟨p, h2, h3⟩, h4⟩ := h
    exact ⟨⟨p, e x (by simp) p h2, h3⟩, PA.ren h4 fun i hi => e i (List.mem_cons_of_mem _ hi)⟩
theorem PA.lt {ρ : List Pl} : ∀ {cs : List Nat} {as : List Addr}, PA ρ cs as → ∀ i ∈ cs, i < ρ.length
  | [], [], _ => fun _ h => nomatch h
  | x :: xs, y :: ys, h => fun i hi => by
    obtain ⟨⟨p, h2, h3⟩, h4⟩ := h
    rcases List.mem_cons.mp hi with rfl | hi
    · exact (List.getElem?_eq_some_iff.mp h2).1
    · exact PA.lt h4 i hi

/-- attributes -/
noncomputable def MR (ρ : List Pl) (m : List (Str × AV)) (m' : Str → Option Value) : Prop := ∀ x, VRo ρ (m.lookup x) (m' x)

structure Law where
  N : Nat → Nst
  tb : Addr
  C : Addr
  fR : Addr

noncomputable def fnObj (d : FuncData) (dict : Option Addr) : Obj := { cls := .type "function", dict := dict, data := .func d }

noncomputable def RdR (ρ : List Pl) (p : Pl) (h : Heap) (d : FuncData) : Option Nat → Prop
  | .none => p.more = [] ∧ h.get? p.a = some (fnObj d .none)
  | some r => ∃ pr, p.more = [] ∧ ρ[r]? = some pr ∧ h.get? p.a = some (fnObj d (some pr.a))

noncomputable def XRof (L : Law) : XO → List Pl → Pl → Heap → Prop
  | .tab cs, ρ, p, h => ∃ as, p.a = L.tb ∧ p.more = [] ∧ PA ρ cs as ∧ h.get? L.tb = some (tabObj (tabVals L.N 0 as).toArray)
  | .code j, ρ, p, h => p.more = [] ∧ h.CodeRec (.ref p.a) (L.N j).qual
  | .fn j cl t rd, ρ, p, h => ∃ pt doc pm ctv clos, ρ[t]? = some pt ∧ CL ρ cl clos ∧ RdR ρ p h (mkF (L.N j) clos doc pm (.ref pt.a) ctv) rd
  | .inst m, ρ, p, h => ∃ dx m', p.more = [dx] ∧ InstN h p.a dx L.C m' ∧ MR ρ m m' ∧ ∀ i ∈ AVs.refs (m.map (·.2)), i < ρ.length
  | .citer x, ρ, p, h => ∃ px t, p.more = [] ∧ ρ[x]? = some px ∧ h.get? p.a = some { cls := .type "callable_iterator", data := .fields #[.ref px.a, .str "" t, .bool false] }
  | .meth x, ρ, p, h => ∃ px, p.more = [] ∧ ρ[x]? = some px ∧ h.get? p.a = some (methodObj (.ref L.fR) (.ref px.a))
  | .junk, _, _, _ => True
  | .rdict q, ρ, p, h => ∃ pq, p.more = [] ∧ ρ[q]? = some pq ∧ h.Ns1 p.a (fun y => if y = "read" then some (.ref pq.a) else .none)

theorem CL.ren {ρ ρ' : List Pl} {f : Nat → Nat} : ∀ {cl : List (Str × Nat)} {clos : List (Str × Addr)}, CL ρ cl clos → (∀ i ∈ cl.map (·.2), ∀ p, ρ[i]? = some p → ρ'[f i]? = some p) → CL ρ' (cl.map fun q => (q.1, f q.2)) clos
  | [], [], _, _ => trivial
  | x :: xs, y :: ys, h, e => by
    obtain ⟨h1, ⟨p, h2, h3⟩, h4⟩ := h
    exact ⟨h1, ⟨p, e x.2 (by simp) p h2, h3⟩, CL.ren h4 fun i hi => e i (List.mem_cons_of_mem _ hi)⟩
theorem CL.lt {ρ : List Pl} : ∀ {cl : List (Str × Nat)} {clos : List (Str × Addr)}, CL ρ cl clos → ∀ i ∈ cl.map (·.2), i < ρ.length
  | [], [], _ => fun _ h => nomatch h
  | x :: xs, y :: ys, h => fun i hi => by
    obtain ⟨h1, ⟨p, h2, h3⟩, h4⟩ := h
    rcases List.mem_cons.mp hi with rfl | hi
    · exact (List.getElem?_eq_some_iff.mp h2).1
    · exact CL.lt h4 i hi

theorem lookup_ren {f : Nat → Nat} {x : Str} : ∀ {m : List (Str × AV)}, (m.map fun q => (q.1, q.2.ren f)).lookup x = (m.lookup x).map (AV.ren f)
  | [] => rfl
  | (y, v) :: m => by
    rw [List.map_cons, List.lookup_cons, List.lookup_cons]
    cases x == y with
    | true => rfl
    | false => exact lookup_ren
theorem refs_lookup {x : Str} {v : AV} : ∀ {m : List (Str × AV)}, m.lookup x = some v → ∀ i ∈ v.refs, i ∈ AVs.refs (m.map (·.2))
  | (y, w) :: m, h, i, hi => by
    rw [List.lookup_cons] at h
    cases hy : x == y with
    | true => rw [hy] at h; cases h; exact List.mem_append_left _ hi
    | false => rw [hy] at h; exact List.mem_append_right _ (refs_lookup h i hi)
theorem MR.ren {ρ ρ' : List Pl} {f : Nat → Nat} {m : List (Str × AV)} {m' : Str → Option Value} (h : MR ρ m m') (e : ∀ i ∈ AVs.refs (m.map (·.2)), ∀ p, ρ[i]? = some p → ρ'[f i]? = some p) : MR ρ' (m.map fun q => (q.1, q.2.ren f)) m' := fun x => by
  have hx := h x
  rw [lookup_ren]
  cases hm : m.lookup x with
  | none => rw [hm] at hx; cases hx' : m' x <;> rw [hx'] at hx <;> first | exact hx | exact hx.elim
  | some v =>
    rw [hm] at hx
    cases hx' : m' x with
    | none => rw [hx'] at hx; exact hx.elim
    | some v' => rw [hx'] at hx; exact VR.ren hx fun i hi => e i (refs_lookup hm i hi)

theorem AVs.mem_refs {i : Nat} : ∀ {m : List (Str × AV)}, i ∈ AVs.refs (m.map (·.2)) → ∃ q ∈ m, i ∈ q.2.refs
  | q :: m, h => (List.mem_append.mp h).elim (fun h => ⟨q, List.mem_cons_self, h⟩) fun h => let ⟨q', h1, h2⟩ := AVs.mem_refs h; ⟨q', List.mem_cons_of_mem _ h1, h2⟩

theorem RdR.ren {ρ ρ' : List Pl} {f : Nat → Nat} {p : Pl} {h : Heap} {d : FuncData} {rd : Option Nat} (x : RdR ρ p h d rd) (e : ∀ i ∈ rd.toList, ∀ p, ρ[i]? = some p → ρ'[f i]? = some p) : RdR ρ' p h d (rd.map f) := by
  cases rd with
  | none => exact x
  | some r => obtain ⟨pr, h1, h2, h3⟩ := x; exact ⟨pr, h1, e r (by simp) pr h2, h3⟩

theorem XRof.map {L : Law} {k : XO} {ρ ρ' : List Pl} {p : Pl} {h : Heap} (f : Nat → Nat) (x : XRof L k ρ p h) (e : ∀ i ∈ k.refs, ∀ p, ρ[i]? = some p → ρ'[f i]? = some p) : XRof L (k.ren f) ρ' p h := by
  cases k with
  | tab cs => obtain ⟨as, h1, h2, h3, h4⟩ := x; exact ⟨as, h1, h2, h3.ren e, h4⟩
  | code j => exact x
  | fn j cl t rd =>
    obtain ⟨pt, doc, pm, ctv, clos, h1, h3, h4⟩ := x
    exact ⟨pt, doc, pm, ctv, clos, e t (List.mem_append_right _ List.mem_cons_self) pt h1, h3.ren fun i hi => e i (List.mem_append_right _ (List.mem_cons_of_mem _ hi)), h4.ren fun i hi => e i (List.mem_append_left _ hi)⟩
  | inst m =>
    obtain ⟨dx, m', h1, h2, h3, h4⟩ := x
    refine ⟨dx, m', h1, h2, h3.ren e, fun i hi => ?_⟩
    obtain ⟨j, hj, rfl⟩ := XO.refs_ren (k := .inst m) (f := f) hi
    have := List.getElem?_eq_getElem (h4 j hj)
    exact (List.getElem?_eq_some_iff.mp (e j hj _ this)).1
  | citer y => obtain ⟨px, t, h1, h2, h3⟩ := x; exact ⟨px, t, h1, e y List.mem_cons_self px h2, h3⟩
  | meth y => obtain ⟨px, h1, h2, h3⟩ := x; exact ⟨px, h1, e y List.mem_cons_self px h2, h3⟩
  | junk => trivial
  | rdict y => obtain ⟨px, h1, h2, h3⟩ := x; exact ⟨px, h1, e y List.mem_cons_self px h2, h3⟩

theorem XRof.lt {L : Law} {k : XO} {ρ : List Pl} {p : Pl} {h : Heap} (x : XRof L k ρ p h) : ∀ i ∈ k.refs, i < ρ.length := by
  intro i hi
  cases k with
  | tab cs => obtain ⟨as, h1, h2, h3, h4⟩ := x; exact h3.lt i hi
  | code j => cases hi
  | fn j cl t rd =>
    obtain ⟨pt, doc, pm, ctv, clos, h1, h3, h4⟩ := x
    rcases List.mem_append.mp hi with hi | hi
    · cases rd with
      | none => cases hi
      | some r =>
        have e : i = r := by simpa using hi
        subst e
        obtain ⟨pr, q1, q2, q3⟩ := h4
        exact (List.getElem?_eq_some_iff.mp q2).1
    · rcases List.mem_cons.mp hi with rfl | hi
      · exact (List.getElem?_eq_some_iff.mp h1).1
      · exact h3.lt i hi
  | inst m => obtain ⟨dx, m', h1, h2, h3, h4⟩ := x; exact h4 i hi
  | citer y =>
    obtain ⟨px, t, h1, h2, h3⟩ := x
    rcases List.mem_cons.mp hi with rfl | hi
    · exact (List.getElem?_eq_some_iff.mp h2).1
    · cases hi
  | meth y =>
    obtain ⟨px, h1, h2, h3⟩ := x
    rcases List.mem_cons.mp hi with rfl | hi
    · exact (List.getElem?_eq_some_iff.mp h2).1
    · cases hi
  | junk => cases hi
  | rdict y =>
    obtain ⟨px, h1, h2, h3⟩ := x
    rcases List.mem_cons.mp hi with rfl | hi
    · exact (List.getElem?_eq_some_iff.mp h2).1
    · cases hi

theorem XRof.loc {L : Law} {k : XO} {ρ : List Pl} {p : Pl} {h h' : Heap} (x : XRof L k ρ p h) (l : ∀ a ∈ p.a :: p.more, ∀ o, h.get? a = some o → h'.get? a = some o) : XRof L k ρ p h' := by
  have l0 := l p.a List.mem_cons_self
  cases k with
  | tab cs =>
    obtain ⟨as, h1, h2, h3, h4⟩ := x
    exact ⟨as, h1, h2, h3, h1 ▸ l0 _ (h1.symm ▸ h4)⟩
  | code j =>
    obtain ⟨h1, c', o, vs, t, e, g, r⟩ := x
    cases e
    exact ⟨h1, _, o, vs, t, rfl, l0 _ g, r⟩
  | fn j cl t rd =>
    obtain ⟨pt, doc, pm, ctv, clos, h1, h3, h4⟩ := x
    refine ⟨pt, doc, pm, ctv, clos, h1, h3, ?_⟩
    cases rd with
    | none => exact ⟨h4.1, l0 _ h4.2⟩
    | some r =>
      obtain ⟨pr, q1, q2, q3⟩ := h4
      exact ⟨pr, q1, q2, l0 _ q3⟩
  | inst m =>
    obtain ⟨dx, m', h1, h2, h3⟩ := x
    exact ⟨dx, m', h1, ⟨l0 _ h2.at_, h2.ns.at (l dx (by rw [h1]; simp))⟩, h3⟩
  | citer y => obtain ⟨px, t, h1, h2, h3⟩ := x; exact ⟨px, t, h1, h2, l0 _ h3⟩
  | meth y => obtain ⟨px, h1, h2, h3⟩ := x; exact ⟨px, h1, h2, l0 _ h3⟩
  | junk => trivial
  | rdict y => obtain ⟨px, h1, h2, h3⟩ := x; exact ⟨px, h1, h2, h3.at l0⟩

end Mine
end

section
open PySem PySem.W PyProof.Rows PyProof.V PySem.Spec PySem.SeqAt
set_option linter.unusedVariables false
set_option maxRecDepth 100000
namespace Mine

structure Lc (c : Cx) (L : Law) : Prop where
  xr : c.XR = XRof L
  cls : ∃ cd, clsIn c.K L.C = some cd ∧ cd.hasDict = true
  ga : findIn c.K (.ref L.C) "__getattribute__" = some (some (.builtin "object.__getattribute__"))
  gt : findIn c.K (.ref L.C) "__getattr__" = some none
  sa : findIn c.K (.ref L.C) "__setattr__" = some (some (.builtin "object.__setattr__"))
  po : plainOver c.K L.C = true
  mks : makesIn c.K L.C = true

section
variable {c : Cx} {n : Nat} {fd : FD} {σ σ₁ σ₂ σ₃ : S} {X : List Addr} {A : Around} {ρ : List Pl} {s : Shared} {os : List AO} {L : Law} {E : Value → Shared → Prop}

theorem Rel.inst (H : Lc c L) {h : Heap} {i : Nat} {m : List (Str × AV)} {v : Value} (r : Rel c X os ρ h) (ho : os[i]? = some (.x (.inst m))) (hv : VR ρ (.ref i) v) :
    ∃ p dx m', ρ[i]? = some p ∧ v = .ref p.a ∧ p.more = [dx] ∧ InstN h p.a dx L.C m' ∧ MR ρ m m' ∧ p.a ≠ dx := by
  obtain ⟨p, hp, rfl⟩ := hv
  obtain ⟨p', hp', hx⟩ := r.objs.get ho
  rw [hp] at hp'; cases hp'
  have hx : XRof L (.inst m) ρ p h := H.xr ▸ hx
  obtain ⟨dx, m', h1, h2, h3, h4⟩ := hx
  refine ⟨p, dx, m', hp, rfl, h1, h2, h3, ?_⟩
  have nd := foot_nodup_get ((List.nodup_append.mp r.nodup).2.1) hp
  rw [h1] at nd
  exact fun e => (List.nodup_cons.mp nd).1 (by rw [e]; exact List.mem_cons_self)

theorem Rel.inK {h : Heap} (r : Rel c X os ρ h) : c.K.In h := c.inK.keeps r.keep

noncomputable def notLit : AV → Bool
  | .lit _ => false
  | _ => true
theorem handed_of {v : AV} {v' : Value} (h : VR ρ v v') (hl : notLit v = true) : handedIn v' = true := by
  cases v with
  | int i => obtain ⟨t, rfl⟩ := h; rfl
  | str x => obtain ⟨t, rfl⟩ := h; rfl
  | bool b => cases h; rfl
  | none => cases h; rfl
  | lit u => cases hl
  | ref i => obtain ⟨p, _, rfl⟩ := h; rfl

theorem get_i (H : Lc c L) {i : Nat} {m : List (Str × AV)} {name : Str} {v : AV} {ex : Bool} (ho : os[i]? = some (.x (.inst m))) (hm : m.lookup name = some v) (hl : notLit v = true) (hf : findIn c.K (.ref L.C) name = some Option.none) :
    Op1 c n (fun x => getAttr x name ex) (.ref i) os v os := fun A ρ s x rm r hx Q E hq => by
  obtain ⟨p, dx, m', hp, rfl, h1, h2, h3, h4⟩ := r.inst H ho hx
  obtain ⟨cd, hc, hd⟩ := H.cls
  have hv := h3 name
  rw [hm] at hv
  cases e : m' name with
  | none => rw [e] at hv; exact hv.elim
  | some v' =>
    rw [e] at hv
    exact inst_get r.inK h2 hc hd H.ga hf e (handed_of hv hl) (hq v' s.heap _ ρ (Reach.refl ..) ⟨r, hv⟩)

theorem Ev.attr (H : Lc c L) {e : Expr} {name : Str} {pos : Pos} {i : Nat} {m : List (Str × AV)} {v : AV} (h1 : Ev c n fd e σ (.ref i) σ₁) (ho : σ₁.os[i]? = some (.x (.inst m))) (hm : m.lookup name = some v) (hl : notLit v = true) (hf : findIn c.K (.ref L.C) name = some Option.none)
    (hb : ∀ env, attributeBase e name env (eval e env) = eval e env) : Ev c n fd (.Attribute e name pos) σ v σ₁ := fun env A ρ s rm ii => by
  rw [arm_eval_Attribute, hb]
  refine Run.bind (h1 env A ρ s rm ii) fun x h₁ tk₁ ρ₁ q₁ p₁ => Run.stand ?_
  refine Run.bind (Run.holding (p₁.1.op (get_i (n := n) H ho hm hl hf A ρ₁ _ x rm p₁.1.rel.none p₁.2))) fun y h₂ tk₂ ρ₂ q₂ p₂ => ?_
  exact fun Q E hq => wpAny_bind (wpAny_letTemporaryGo (wpAny_pure (hq _ h₂ tk₂ ρ₂ (Reach.refl ..) p₂)))

theorem mth_i (H : Lc c L) {i : Nat} {m : List (Str × AV)} {name : Str} {f : Addr} (ho : os[i]? = some (.x (.inst m))) (hm : m.lookup name = Option.none) (hf : findIn c.K (.ref L.C) name = some (some (.ref f))) (ht : typeIn c.K (.ref f) = some (.type "function")) :
    Mth c n (.ref i) name os (.ref f) := fun A ρ s x pl rm r hx Q E hq => by
  obtain ⟨p, dx, m', hp, rfl, h1, h2, h3, h4⟩ := r.inst H ho hx
  obtain ⟨od, J, hl⟩ := h2.k
  have hv := h3 name
  rw [hm] at hv
  have e : m' name = Option.none := by cases e : m' name with | none => rfl | some _ => rw [e] at hv; exact hv.elim
  refine method_fn r.inK J H.ga H.gt hf ht ?_ (hq _ s.heap _ ρ (Reach.refl ..) ⟨r, rfl⟩)
  unfold shadowIn
  dsimp only
  rw [hl, e]; rfl

/-- a name's new value, in its place -/
noncomputable def putIn (x : Str) (v : AV) : List (Str × AV) → List (Str × AV)
  | [] => [(x, v)]
  | (y, w) :: r => if x == y then (x, v) :: r else (y, w) :: putIn x v r
theorem lookup_putIn (x y : Str) (v : AV) : ∀ vs : List (Str × AV), (putIn x v vs).lookup y = if y = x then some v else vs.lookup y
  | [] => by
    rw [putIn, List.lookup_cons]
    by_cases h : y = x
    · subst h; simp
    · rw [beq_eq_false_iff_ne.mpr h]; simp [h]
  | (z, w) :: r => by
    rw [putIn]
    cases hz : x == z with
    | true =>
      rw [if_pos rfl]
      have := eq_of_beq hz; subst this
      rw [List.lookup_cons, List.lookup_cons]
      by_cases h : y = x
      · subst h; simp
      · rw [beq_eq_false_iff_ne.mpr h]; simp [h]
    | false =>
      rw [if_neg (by decide), List.lookup_cons, List.lookup_cons, lookup_putIn x y v r]
      cases hy : y == z with
      | true =>
        have hyz := eq_of_beq hy
        have : y ≠ x := fun e => by rw [← e, hyz] at hz; simp at hz
        simp [this]
      | false => rfl
theorem mem_putIn {x : Str} {v : AV} {q : Str × AV} : ∀ {vs : List (Str × AV)}, q ∈ putIn x v vs → q = (x, v) ∨ q ∈ vs
  | [], h => by simpa [putIn] using h
  | (y, w) :: r, h => by
    rw [putIn] at h
    cases hz : x == y with
    | true =>
      rw [hz, if_pos rfl] at h
      rcases List.mem_cons.mp h with h | h
      · exact .inl h
      · exact .inr (List.mem_cons_of_mem _ h)
    | false =>
      rw [hz, if_neg (by decide)] at h
      rcases List.mem_cons.mp h with h | h
      · exact .inr (h ▸ List.mem_cons_self)
      · exact (mem_putIn h).imp id fun h => List.mem_cons_of_mem _ h

theorem MR.put {m : List (Str × AV)} {m' : Str → Option Value} {name : Str} {v : AV} {v' : Value} (h : MR ρ m m') (hv : VR ρ v v') : MR ρ (putIn name v m) (fun y => if y = name then some v' else m' y) := fun y => by
  rw [lookup_putIn]
  by_cases hy : y = name
  · simp only [hy, if_true]; exact hv
  · simp only [hy, if_false]; exact h y
theorem MR.within {m : List (Str × AV)} {m' : Str → Option Value} (h : MR ρ m m') : PySem.Within m' (m.map (·.1)) := by
  intro y hy
  have := h y
  cases hm : m.lookup y with
  | none =>
    rw [hm] at this
    cases e : m' y with
    | none => exact absurd e hy
    | some _ => rw [e] at this; exact this.elim
  | some v =>
    have key : ∀ l : List (Str × AV), l.lookup y = some v → y ∈ l.map (·.1) := by
      intro l
      induction l with
      | nil => intro e; cases e
      | cons q l ih =>
        intro e
        obtain ⟨a, b⟩ := q
        rw [List.lookup_cons] at e
        cases hy : y == a with
        | true => exact List.mem_cons.mpr (.inl (eq_of_beq hy))
        | false => rw [hy] at e; exact List.mem_cons_of_mem _ (ih e)
    exact key m hm

theorem AVs.of_mem {q : Str × AV} {j : Nat} : ∀ {m : List (Str × AV)}, q ∈ m → j ∈ q.2.refs → j ∈ AVs.refs (m.map (·.2))
  | p :: m, h, hj => (List.mem_cons.mp h).elim (fun e => List.mem_append_left _ (by subst e; exact hj)) fun h => List.mem_append_right _ (AVs.of_mem h hj)

theorem set_i (H : Lc c L) {i : Nat} {m : List (Str × AV)} {name : Str} {v : AV} {x v' : Value} {Q : Unit → Shared → Prop} (r : Rel c X os ρ s.heap) (ho : os[i]? = some (.x (.inst m))) (hx : VR ρ (.ref i) x) (hv : VR ρ v v') (ht : takerIn c.K L.C name = some Option.none) (hz : m.length ≤ 1000)
    (hQ : ∀ h' tk, Reach [] ρ s.heap ρ h' → Rel c X (os.set i (.x (.inst (putIn name v m)))) ρ h' → Q () { s with heap := h', toks := tk }) : wpAny c.M A (setAttr x name v') Q E s := by
  obtain ⟨p, dx, m', hp, rfl, h1, h2, h3, h4⟩ := r.inst H ho hx
  obtain ⟨cd, hc, hd⟩ := H.cls
  refine inst_set r.inK h2 hc hd H.sa H.po ht h3.within (by rw [List.length_map]; exact hz) h4 fun h' tk I' hs => hQ h' tk ⟨⟨[], by simp, by simp [foot]⟩, fun a o e ha => ?_, Nat.le_of_eq hs.1.symm⟩ ?_
  · exact (hs.2 a fun e' => ha (by subst e'; exact List.mem_append_right _ (foot_mem_of_get hp _ (by rw [h1]; simp)))).trans e
  · refine r.setObj hp (fun a ha => hs.2 a fun e => ha (by subst e; rw [h1]; simp)) hs.1 ?_
    show c.XR _ _ _ _
    rw [H.xr]
    refine ⟨dx, _, h1, I', h3.put hv, fun j hj => ?_⟩
    obtain ⟨q, hq, hjq⟩ := AVs.mem_refs hj
    rcases mem_putIn hq with rfl | hq
    · exact hv.lt j hjq
    · obtain ⟨p', hp', hxx⟩ := r.objs.get ho
      have hxx : XRof L (.inst m) ρ p' s.heap := H.xr ▸ hxx
      obtain ⟨_, _, _, _, _, h9⟩ := hxx
      refine h9 j ?_
      exact AVs.of_mem hq hjq

/-- o.name = e -/
theorem Ex.setAttr (H : Lc c L) {o value : Expr} {name : Str} {pos' pos : Pos} {i : Nat} {m : List (Str × AV)} {v : AV} (h1 : Ev c n fd value σ v σ₁) (h2 : Ev c n fd o σ₁ (.ref i) σ₂) (ho : σ₂.os[i]? = some (.x (.inst m))) (ht : takerIn c.K L.C name = some Option.none) (hz : m.length ≤ 1000)
    (hs : ∀ env, swapsWith value (some (.Attribute o name pos')) pos.line env = Pure.pure false) : Ex c n fd (.Assign [.Attribute o name pos'] value pos) σ .next ⟨σ₂.vs, σ₂.os.set i (.x (.inst (putIn name v m)))⟩ := fun env A ρ s rm ii => by
  rw [plainObj_exec_Assign_Attribute o name pos' value pos (hs env)]
  refine Run.stand (Run.bind (h1 env A ρ s rm ii) fun x h₁ tk₁ ρ₁ q₁ p₁ => ?_)
  refine Run.bind (P := fun ρ' h' _ => In c fd ⟨σ₂.vs, σ₂.os.set i (.x (.inst (putIn name v m)))⟩ env ρ' h') ?_ fun _ h₂ tk₂ ρ₂ q₂ p₂ => Run.pure ⟨p₂, rfl⟩
  rw [assign_Attribute]
  refine Run.bind (Run.holding (h2 env A ρ₁ _ rm p₁.1)) fun y h₂ tk₂ ρ₂ q₂ p₂ => Run.stand ?_
  refine Run.bind (P := fun ρ' h' _ => In c fd ⟨σ₂.vs, σ₂.os.set i (.x (.inst (putIn name v m)))⟩ env ρ' h') (Run.holding ?_) fun _ h₃ tk₃ ρ₃ q₃ p₃ => Run.release p₃
  intro Q E hq
  refine set_i (s := { s with heap := h₂, toks := tk₂, drawn := _ }) H p₂.1.rel.none ho p₂.2 (p₁.2.reach q₂) ht hz fun h' tk q r => hq () h' tk ρ₂ (q.more (by simp)) (p₂.1.lift q r)

/-- o.name op= e -/
theorem Ex.augAttr (H : Lc c L) {o value : Expr} {name : Str} {op : Operator} {tpos pos : Pos} {i : Nat} {m : List (Str × AV)} {a b v : AV} (h1 : Ev c n fd o σ (.ref i) σ) (ho : σ.os[i]? = some (.x (.inst m))) (hm : m.lookup name = some a) (hl : notLit a = true)
    (hf : findIn c.K (.ref L.C) name = some Option.none) (h2 : Ev c n fd value σ b σ) (h3 : Op2 c n (inplaceOp op) a b σ.os v σ.os) (ht : takerIn c.K L.C name = some Option.none) (hz : m.length ≤ 1000) :
    Ex c n fd (.AugAssign (.Attribute o name tpos) op value pos) σ .next ⟨σ.vs, σ.os.set i (.x (.inst (putIn name v m)))⟩ := fun env A ρ s rm ii => by
  rw [arm_exec_AugAssign_2]
  refine Run.stand (Run.bind (h1 env A ρ s rm ii) fun x h₁ tk₁ ρ₁ q₁ p₁ => ?_)
  refine Run.bind (P := fun ρ' h' y => (In c fd σ env ρ' h' ∧ VR ρ' v y) ∧ VR ρ' (.ref i) x) (Run.holding (Run.stand ?_)) fun y h₂ tk₂ ρ₂ q₂ p₂ => Run.stand ?_
  · refine Run.bind (p₁.1.op (get_i (n := n) H ho hm hl hf A ρ₁ _ x rm p₁.1.rel.none p₁.2)) fun u h₂ tk₂ ρ₂ q₂ p₂ => ?_
    refine Run.bind (Run.holding (h2 env A ρ₂ _ rm p₂.1)) fun z h₃ tk₃ ρ₃ q₃ p₃ => Run.stand ?_
    refine (Run.operate (p₃.1.op (h3 A ρ₃ _ u z rm p₃.1.rel.none (p₂.2.reach q₃) p₃.2))).mono fun y h₄ ρ₄ q₄ p₄ => ⟨p₄, ((p₁.2.reach q₂).reach q₃).reach q₄⟩
  · refine Run.bind (P := fun ρ' h' _ => In c fd ⟨σ.vs, σ.os.set i (.x (.inst (putIn name v m)))⟩ env ρ' h') (Run.holding ?_) fun _ h₃ tk₃ ρ₃ q₃ p₃ => Run.bind (P := fun ρ' h' _ => In c fd ⟨σ.vs, σ.os.set i (.x (.inst (putIn name v m)))⟩ env ρ' h') (Run.release p₃) fun _ h₄ tk₄ ρ₄ q₄ p₄ => Run.pure ⟨p₄, rfl⟩
    intro Q E hq
    refine set_i (s := { s with heap := h₂, toks := tk₂, drawn := _ }) H p₂.1.1.rel.none ho p₂.2 p₂.1.2 ht hz fun h' tk q r => hq () h' tk ρ₂ (q.more (by simp)) (p₂.1.1.lift q r)
end
end Mine
end

section
open PySem PySem.W PyProof.Rows PyProof.V PySem.Spec PySem.SeqAt
set_option linter.unusedVariables false
set_option maxRecDepth 100000
namespace Mine

section
variable {c : Cx} {n : Nat} {fd : FD} {σ σ' σ₁ σ₂ σ₃ : S} {X : List Addr} {A : Around} {ρ : List Pl} {s : Shared} {os os' : List AO} {L : Law} {E : Value → Shared → Prop} {v v' : AV}

/-- calling a value -/
noncomputable def CallV (c : Cx) (n : Nat) (f : AV) (args : List AV) (os : List AO) (v : AV) (os' : List AO) : Prop :=
  ∀ A ρ s x xs, Room A n → Rel c [] os ρ s.heap → VR ρ f x → VRs ρ args xs → Run c [] A ρ s (call x xs) fun ρ' h' y => Rel c [] os' ρ' h' ∧ VR ρ' v y

theorem CL.lookup : ∀ {cl : List (Str × Nat)} {clos : List (Str × Addr)}, CL ρ cl clos → ∀ {x : Str} {i : Nat}, cl.lookup x = some i → ∃ p, ρ[i]? = some p ∧ clos.lookup x = some p.a
  | (a, j) :: xs, (b, q) :: ys, h, x, i, e => by
    obtain ⟨h1, ⟨p, h2, h3⟩, h4⟩ := h
    dsimp only at h1 h2 h3; subst h1; subst h3
    rw [List.lookup_cons] at e ⊢
    cases hx : x == a with
    | true => rw [hx] at e; cases e; exact ⟨p, h2, rfl⟩
    | false => rw [hx] at e; exact CL.lookup h4 e

theorem Rel.fn (H : Lc c L) {h : Heap} {i j t : Nat} {cl : List (Str × Nat)} {rd : Option Nat} {x : Value} (r : Rel c X os ρ h) (ho : os[i]? = some (.x (.fn j cl t rd))) (ht : os[t]? = some (.x (.code j))) (hx : VR ρ (.ref i) x) :
    ∃ a o cj doc pm ctv clos, x = .ref a ∧ h.get? a = some o ∧ o.data = .func (mkF (L.N j) clos doc pm (.ref cj) ctv) ∧ CL ρ cl clos ∧ h.CodeRec (.ref cj) (L.N j).qual := by
  obtain ⟨p, hp, rfl⟩ := hx
  obtain ⟨p', hp', hx⟩ := r.objs.get ho
  rw [hp] at hp'; cases hp'
  have hx : XRof L (.fn j cl t rd) ρ p h := H.xr ▸ hx
  obtain ⟨pt, doc, pm, ctv, clos, h1, h3, h4⟩ := hx
  obtain ⟨pt', hpt', hxt⟩ := r.objs.get ht
  rw [h1] at hpt'; cases hpt'
  have hxt : XRof L (.code j) ρ pt h := H.xr ▸ hxt
  have hcode := hxt.2
  cases rd with
  | none => exact ⟨p.a, _, pt.a, doc, pm, ctv, clos, rfl, h4.2, rfl, h3, hcode⟩
  | some q => obtain ⟨pr, q1, q2, q3⟩ := h4; exact ⟨p.a, _, pt.a, doc, pm, ctv, clos, rfl, q3, rfl, h3, hcode⟩

theorem CallV.of_fn (H : Lc c L) {i j t : Nat} {cl : List (Str × Nat)} {rd : Option Nat} {body : List Stmt} {ps : List Str} {args : List AV} (ho : os[i]? = some (.x (.fn j cl t rd))) (ht : os[t]? = some (.x (.code j))) (hbody : (L.N j).body = .stmts body)
    (hcell : ∀ x ∈ (L.N j).scope.names, x.2 ≠ .cell) (hbind : ∀ (xs : List Value) clos doc pm cv ctv, xs.length = args.length → bindArgs (mkF (L.N j) clos doc pm cv ctv) ⟨xs, []⟩ = Pure.pure (ps.zip xs)) (hloc : ∀ x ∈ ps, (L.N j).scope.names.lookup x = some .local)
    (hco : (L.N j).scope.isCoroutine = false) (hge : (L.N j).scope.isGenerator = false) (hk : (L.N j).scope.kind = .function)
    (h : Exs c n ⟨(L.N j).scope, cl, Option.none⟩ body ⟨(ps.zip args).reverse, os⟩ (.ret v) σ') (hb : Back os v σ'.os v' os') : CallV c (n + 1) (.ref i) args os v' os' := fun A ρ s x xs rm r hx hxs => by
  obtain ⟨a, o, cj, doc, pm, ctv, clos, rfl, hoa, hd, hcl, hcode⟩ := r.fn H ho ht hx
  refine Run.wp fun Q E hq => wpAny_call ?_
  have hlen := hxs.length
  refine codeAny_call_def (binds := ps.zip xs) rm.lt hoa hd (c.nolimit.keeps r.keep) hcode hbody (BindsTo.of_eq (hbind xs clos doc pm _ ctv hlen.symm)) hcell (fun x hx' => hloc x.1 (List.of_mem_zip (a := x.1) (b := x.2) hx').1) (fun h₀ hns hk' => ?_) hco hge hk
  have hL : ∀ a o, s.heap.get? a = some o → a ≠ s.heap.objs.size := fun a o e he => by rw [he] at e; exact absurd (Heap.lt_size e) (Nat.lt_irrefl _)
  have fresh : c.hb.get? s.heap.objs.size = Option.none := by
    cases e : c.hb.get? s.heap.objs.size with
    | none => rfl
    | some o => exact absurd rfl (hL _ _ (r.keep _ _ e))
  have r0 : Rel c [s.heap.objs.size] os ρ h₀ := by
    refine ⟨r.objs.loc (fun b o e => hk' b o (r.keep b o e)) fun a _ o e => hk' a o e, ?_, fun b o e => hk' b o (r.keep b o e), fun a ha => ?_, fun a ha => ?_⟩
    · refine List.nodup_cons.mpr ⟨fun hm => ?_, by simpa using r.nodup⟩
      exact absurd (r.live _ (by simpa using hm)) (Nat.lt_irrefl _)
    · rcases List.mem_cons.mp ha with rfl | ha
      · exact fresh
      · exact r.fresh a (by simpa using ha)
    · rcases List.mem_cons.mp ha with rfl | ha
      · exact hns.lt
      · have := r.live a (by simpa using ha)
        exact Nat.lt_trans this hns.lt
  have i0 : In c ⟨(L.N j).scope, cl, Option.none⟩ ⟨(ps.zip args).reverse, os⟩ (callEnv (mkF (L.N j) clos doc pm (.ref cj) ctv) s.heap.objs.size a) ρ h₀ :=
    ⟨r0, rfl, rfl, rfl, (fun _ e => by cases e), fun x i e => hcl.lookup e, _, hns, fun x u e => KV.lookup (KV.reverse (KV.zip hxs)) e⟩
  refine (h (callEnv (mkF (L.N j) clos doc pm (.ref cj) ctv) s.heap.objs.size a) _ ρ { s with heap := h₀, toks := s.toks + (ps.zip xs).length } rm.deeper i0) _ _ fun f h₁ tk₁ ρ₁ q₁ p₁ => ?_
  obtain ⟨i₁, y, rfl, hy⟩ := p₁
  obtain ⟨new, rfl, hnew⟩ := q₁.grow
  refine hq y h₁ tk₁ (ρ ++ (hb.run (h := s.heap) (X := []) r.objs.length i₁.rel.none hy (fun a ha => Nat.le_trans (Nat.le_of_lt hns.lt) (hnew a ha))).choose) fun sz => ?_
  obtain ⟨g1, g2, g3⟩ := (hb.run (h := s.heap) (X := []) r.objs.length i₁.rel.none hy (fun a ha => Nat.le_trans (Nat.le_of_lt hns.lt) (hnew a ha))).choose_spec
  refine ⟨⟨⟨_, rfl, g3⟩, fun b ob e hb' => ?_, sz⟩, g1, g2⟩
  exact q₁.keep b ob (hk' b ob e) fun hm => by
    rcases List.mem_cons.mp hm with rfl | hm
    · exact hL _ _ e rfl
    · exact hb' (by simpa using hm)
end
end Mine
end

section
open PySem PySem.W PyProof.Rows PyProof.V PySem.Spec PySem.SeqAt
set_option linter.unusedVariables false
set_option maxRecDepth 100000
namespace Mine

theorem lookup_snoc {α : Type} {x : Str} {p : Str × α} : ∀ (l : List (Str × α)), (l ++ [p]).lookup x = (l.lookup x).or (if x = p.1 then some p.2 else .none)
  | [] => by
    obtain ⟨a, b⟩ := p
    rw [List.nil_append, List.lookup_cons]
    by_cases h : x = a
    · subst h; simp
    · rw [beq_eq_false_iff_ne.mpr h]; simp [h]
  | (a, b) :: l => by
    rw [List.cons_append, List.lookup_cons, List.lookup_cons]
    cases x == a with
    | true => rfl
    | false => exact lookup_snoc l
theorem bindL_eq (k : Str → Option NameKind) (x : Str) : ∀ (binds : List (Str × Value)) (m : Str → Option Value), bindL k binds m x = if k x = some .local then (binds.reverse.lookup x).or (m x) else m x
  | [], m => by simp [bindL]
  | (n, v) :: r, m => by
    rw [bindL, bindL_eq k x r, List.reverse_cons, lookup_snoc]
    by_cases hx : k x = some .local
    · simp only [hx, if_true]
      by_cases hn : x = n
      · subst hn; first | (simp [hx]; done) | (simp [hx]; cases r.reverse.lookup x <;> simp)
      · by_cases hk : k n = some .local <;> simp [hk, hn] <;> cases r.reverse.lookup x <;> simp
    · simp only [hx, if_false]
      by_cases hk : k n = some .local
      · have : x ≠ n := fun e => hx (e ▸ hk)
        simp [hk, this]
      · simp [hk]
theorem bindC_eq (k : Str → Option NameKind) (x : Str) : ∀ (binds : List (Str × Value)) (m : Str → Option Value), bindC k binds m x = if k x = some .local then m x else (binds.reverse.lookup x).or (m x)
  | [], m => by simp [bindC]
  | (n, v) :: r, m => by
    rw [bindC, bindC_eq k x r, List.reverse_cons, lookup_snoc]
    by_cases hx : k x = some .local
    · simp only [hx, if_true]
      by_cases hk : k n = some .local
      · simp [hk]
      · have : x ≠ n := fun e => hk (e ▸ hx)
        simp [hk, this]
    · simp only [hx, if_false]
      by_cases hn : x = n
      · subst hn; first | (simp [hx]; done) | (simp [hx]; cases r.reverse.lookup x <;> simp)
      · by_cases hk : k n = some .local <;> simp [hk, hn] <;> cases r.reverse.lookup x <;> simp

noncomputable def cellIx : List Str → Nat → List (Str × Nat)
  | [], _ => []
  | x :: r, b => (x, b) :: cellIx r (b + 1)
noncomputable def cellPl : List Str → Nat → List Pl
  | [], _ => []
  | _ :: r, b => ⟨b, []⟩ :: cellPl r (b + 1)
theorem cellPl_length : ∀ (cn : List Str) (b : Nat), (cellPl cn b).length = cn.length
  | [], _ => rfl
  | _ :: r, b => congrArg (· + 1) (cellPl_length r (b + 1))
theorem foot_cellPl : ∀ (cn : List Str) (b : Nat) (a : Addr), a ∈ foot (cellPl cn b) → ∃ x, (x, a) ∈ cellIx cn b ∧ b ≤ a
  | x :: r, b, a, h => by
    rcases List.mem_cons.mp (show a ∈ b :: foot (cellPl r (b + 1)) from h) with rfl | h
    · exact ⟨x, List.mem_cons_self, Nat.le_refl _⟩
    · obtain ⟨y, h1, h2⟩ := foot_cellPl r (b + 1) a h
      exact ⟨y, List.mem_cons_of_mem _ h1, Nat.le_trans (Nat.le_succ _) h2⟩
theorem foot_cellPl_nodup : ∀ (cn : List Str) (b : Nat), (foot (cellPl cn b)).Nodup
  | [], _ => List.nodup_nil
  | x :: r, b => by
    refine List.nodup_cons.mpr ⟨fun h => ?_, foot_cellPl_nodup r (b + 1)⟩
    obtain ⟨_, _, h2⟩ := foot_cellPl r (b + 1) b h
    exact absurd h2 (Nat.not_le.mpr (Nat.lt_succ_self b))
theorem cellPl_get : ∀ (cn : List Str) (b j : Nat) (x : Str), cn[j]? = some x → (cellPl cn b)[j]? = some ⟨b + j, []⟩
  | _ :: r, b, 0, x, h => rfl
  | _ :: r, b, j + 1, x, h => by
    have := cellPl_get r (b + 1) j x (by simpa using h)
    show (cellPl r (b + 1))[j]? = _
    rw [this, show b + 1 + j = b + (j + 1) by omega]
theorem cellIx_lookup : ∀ (cn : List Str) (b i : Nat) (x : Str), (cellIx cn b).lookup x = some i → ∃ j, i = b + j ∧ cn[j]? = some x
  | y :: r, b, i, x, h => by
    rw [cellIx, List.lookup_cons] at h
    cases hy : x == y with
    | true => rw [hy] at h; cases h; exact ⟨0, rfl, by rw [eq_of_beq hy]; rfl⟩
    | false =>
      rw [hy] at h
      obtain ⟨j, h1, h2⟩ := cellIx_lookup r (b + 1) i x h
      exact ⟨j + 1, by omega, by simpa using h2⟩
theorem cellIx_mem : ∀ (cn : List Str) (b j : Nat) (x : Str), cn[j]? = some x → (x, b + j) ∈ cellIx cn b
  | y :: r, b, 0, x, h => by simp at h; subst h; exact List.mem_cons_self
  | y :: r, b, j + 1, x, h => by
    have := cellIx_mem r (b + 1) j x (by simpa using h)
    rw [show b + 1 + j = b + (j + 1) by omega] at this
    exact List.mem_cons_of_mem _ this

theorem lookup_of_mem {x : Str} {a : Nat} : ∀ {l : List (Str × Nat)}, (l.map (·.1)).Nodup → (x, a) ∈ l → l.lookup x = some a
  | (y, b) :: l, nd, h => by
    rw [List.lookup_cons]
    rcases List.mem_cons.mp h with h1 | h1
    · cases h1; simp
    · have hne : x ≠ y := fun e => by
        rw [e] at h1
        exact (List.nodup_cons.mp nd).1 (List.mem_map.mpr ⟨(y, a), h1, rfl⟩)
      rw [beq_eq_false_iff_ne.mpr hne]
      exact lookup_of_mem (List.nodup_cons.mp nd).2 h1
theorem cellIx_names : ∀ (cn : List Str) (b : Nat), (cellIx cn b).map (·.1) = cn
  | [], _ => rfl
  | x :: r, b => congrArg (x :: ·) (cellIx_names r (b + 1))

section
variable {c : Cx} {n : Nat} {fd : FD} {σ σ' σ₁ σ₂ σ₃ : S} {X : List Addr} {A : Around} {ρ : List Pl} {s : Shared} {os os' : List AO} {L : Law} {E : Value → Shared → Prop} {v v' : AV}

noncomputable def cellObjs (cn : List Str) (bs : List (Str × AV)) : List AO := cn.map fun x => .cell (bs.reverse.lookup x)
noncomputable def locOf (sc : Scope) (bs : List (Str × AV)) : List (Str × AV) := bs.reverse.filter fun p => sc.names.lookup p.1 == some .local

theorem lookup_filter {α : Type} {f : Str → Bool} {x : Str} {v : α} : ∀ {l : List (Str × α)}, (l.filter fun p => f p.1).lookup x = some v → f x = true ∧ l.lookup x = some v
  | [], h => by cases h
  | (y, b) :: l, h => by
    by_cases hf : f y = true
    · rw [List.filter_cons_of_pos (p := fun p : Str × α => f p.1) hf, List.lookup_cons] at h
      rw [List.lookup_cons]
      cases hy : x == y with
      | true => rw [hy] at h; exact ⟨by rw [eq_of_beq hy]; exact hf, h⟩
      | false => rw [hy] at h; exact lookup_filter h
    · rw [List.filter_cons_of_neg (p := fun p : Str × α => f p.1) hf] at h
      obtain ⟨h1, h2⟩ := lookup_filter h
      refine ⟨h1, ?_⟩
      rw [List.lookup_cons]
      cases hy : x == y with
      | true => rw [eq_of_beq hy] at h1; exact absurd h1 hf
      | false => exact h2

theorem KV.lookupO {y : Str} {xs : List (Str × AV)} {vs : List (Str × Value)} (h : KV ρ xs vs) : VRo ρ (xs.lookup y) (vs.lookup y) := by
  induction xs generalizing vs with
  | nil => cases vs with
    | nil => exact trivial
    | cons v vs => exact h.elim
  | cons x xs ih => cases vs with
    | nil => exact h.elim
    | cons v vs =>
      obtain ⟨a, b⟩ := x
      obtain ⟨a', b'⟩ := v
      obtain ⟨h1, h2, h3⟩ := h
      dsimp only at h1 h2; subst h1
      rw [List.lookup_cons, List.lookup_cons]
      cases hy : y == a with
      | true => exact h2
      | false => exact ih h3

end
end Mine
end

section
open PySem PySem.W PyProof.Rows PyProof.V PySem.Spec PySem.SeqAt Builtin
set_option linter.unusedVariables false
set_option maxRecDepth 100000
namespace Mine

theorem slot_ci_next : Slot "callable_iterator" "__next__" "callable_iterator.__next__" := .of (owner := "callable_iterator") (n := "__next__") (by rw [typeLookup_type, builtinLookup_eq_fast]; kernel_rfl) (by decide +kernel) (by decide +kernel) (by decide +kernel)
    (by first | exact .inl (by decide +kernel) | exact .inr (by decide +kernel)) (by rw [isSubtype_type]; kernel_rfl)
theorem entry_ci_next : entryFor table "callable_iterator.__next__" = some Builtin.«callable_iterator.__next__» := entryFor_of_tree (by kernel_rfl)
theorem args_ci_next (a : Value) : argsOk "callable_iterator.__next__" ⟨[a], []⟩ := by unfold argsOk; kernel_rfl

section
variable {prog : Program} {w : World} {A : Around} {E : Value → Shared → Prop} {s : Shared} {f : Value} {pos : List Value}
theorem wpAny_callBorrowed {Q : Value → Shared → Prop} (hc : codeAny (model prog w) A (.call f ⟨pos, []⟩) (fun r s' => match r with | .ok (.ret v) => Q v s' | .ok _ => False | .error e => E e s') s) : wpAny (model prog w) A (callBorrowed f pos) Q E s := by
  intro Γ p hΓ
  have h1 := hc _ p rfl (hΓ.enter (.call f ⟨pos, []⟩) none p (by intro x; cases x))
  unfold callBorrowed
  rw [Sem.wp_call]
  refine (congrArg (fun R => wpCode (model prog w) (Γ.enter (.call f ⟨pos, []⟩) none p) R p s) (funext fun r => funext fun s' => ?_)).mpr h1
  cases r with
  | error e => simp [Sem.wp_raise]
  | ok fl => cases fl <;> simp [Sem.wp_pure', Sem.wp_unsupported]

theorem wpAny_borrows {a : Addr} {fn : Addr} {o : Obj} {d : FuncData} {self : Value} {Q : Bool → Shared → Prop} (ha : s.heap.get? a = some (methodObj (.ref fn) self)) (ho : s.heap.get? fn = some o) (hd : o.data = .func d) (h : Q true s) :
    wpAny (model prog w) A (borrowsExactly (.ref a)) Q E s := by
  unfold borrowsExactly
  refine wpAny_bind (wpAny_load ha ?_)
  dsimp only
  show wpAny _ _ (do match (← load fn).data with | .func _ => pure true | _ => pure false) _ _ _
  refine wpAny_bind (wpAny_load ho ?_)
  rw [hd]
  exact wpAny_pure h
end

section
variable {c : Cx} {n : Nat} {fd : FD} {σ σ' σ₁ σ₂ σ₃ : S} {X : List Addr} {A : Around} {ρ : List Pl} {s : Shared} {os os' : List AO} {L : Law} {E : Value → Shared → Prop} {v v' : AV}

/-- a call, seen as a code -/
noncomputable def CodeR (c : Cx) (n : Nat) (f : Value) (args : List AV) (os : List AO) (v : AV) (os' : List AO) : Prop :=
  ∀ A ρ s xs R, Room A n → Rel c [] os ρ s.heap → VRs ρ args xs → (∀ y h' tk' ρ', Reach [] ρ s.heap ρ' h' → Rel c [] os' ρ' h' → VR ρ' v y → ∀ {dr : Drawn}, R (.ok (.ret y)) { s with heap := h', toks := tk', drawn := dr }) → codeAny c.M A (.call f ⟨xs, []⟩) R s
theorem CodeR.call {f : Value} {args : List AV} (h : CodeR c n f args os v os') : CallR c n f args os v os' := fun A ρ s xs rm r hx Q E hq =>
  wpAny_call (h A ρ s xs _ rm r hx fun y h' tk' ρ' q r' hv => hq y h' tk' ρ' q ⟨r', hv⟩)

theorem CodeR.of_def {a : Addr} {d : FuncData} {body : List Stmt} {ps : List Str} {args : List AV} (D : DefAt c a d body)
    (hcell : ∀ x ∈ d.scope.names, x.2 ≠ .cell) (hbind : ∀ xs : List Value, xs.length = args.length → bindArgs d ⟨xs, []⟩ = Pure.pure (ps.zip xs)) (hloc : ∀ x ∈ ps, d.scope.names.lookup x = some .local)
    (h : Exs c n ⟨d.scope, [], Option.none⟩ body ⟨(ps.zip args).reverse, os⟩ (.ret v) σ') (hb : Back os v σ'.os v' os') : CodeR c (n + 1) (.ref a) args os v' os' := fun A ρ s xs R rm r hx hq => by
  obtain ⟨o, ho, hd⟩ := D.there
  have hlen := hx.length
  refine codeAny_size ?_
  refine codeAny_call_def (binds := ps.zip xs) rm.lt (r.keep _ _ ho) hd (c.nolimit.keeps r.keep) (D.code.keeps r.keep) D.body (BindsTo.of_eq (hbind xs hlen.symm)) hcell (fun x hx' => hloc x.1 (List.of_mem_zip (a := x.1) (b := x.2) hx').1) (fun h₀ hns hk => ?_) D.co D.gen D.kind
  have hL : ∀ a o, s.heap.get? a = some o → a ≠ s.heap.objs.size := fun a o e he => by rw [he] at e; exact absurd (Heap.lt_size e) (Nat.lt_irrefl _)
  have fresh : c.hb.get? s.heap.objs.size = Option.none := by
    cases e : c.hb.get? s.heap.objs.size with
    | none => rfl
    | some o => exact absurd rfl (hL _ _ (r.keep _ _ e))
  have r0 : Rel c [s.heap.objs.size] os ρ h₀ := by
    refine ⟨r.objs.loc (fun b o e => hk b o (r.keep b o e)) fun a _ o e => hk a o e, ?_, fun b o e => hk b o (r.keep b o e), fun a ha => ?_, fun a ha => ?_⟩
    · refine List.nodup_cons.mpr ⟨fun hm => ?_, by simpa using r.nodup⟩
      exact absurd (r.live _ (by simpa using hm)) (Nat.lt_irrefl _)
    · rcases List.mem_cons.mp ha with rfl | ha
      · exact fresh
      · exact r.fresh a (by simpa using ha)
    · rcases List.mem_cons.mp ha with rfl | ha
      · exact hns.lt
      · have := r.live a (by simpa using ha)
        exact Nat.lt_trans this hns.lt
  have i0 : In c ⟨d.scope, [], Option.none⟩ ⟨(ps.zip args).reverse, os⟩ (callEnv d s.heap.objs.size a) ρ h₀ :=
    ⟨r0, rfl, D.glob, D.blt, (fun _ e => by cases e), fun x i e => (by cases e), _, hns, fun x u e => KV.lookup (KV.reverse (KV.zip hx)) e⟩
  refine (h (callEnv d s.heap.objs.size a) _ ρ { s with heap := h₀, toks := s.toks + (ps.zip xs).length } rm.deeper i0) _ _ fun f h₁ tk₁ ρ₁ q₁ p₁ => ?_
  intro dr
  obtain ⟨i₁, y, rfl, hy⟩ := p₁
  obtain ⟨new, rfl, hnew⟩ := q₁.grow
  intro sz
  obtain ⟨nw, g1, g2, g3⟩ := hb.run (h := s.heap) (X := []) r.objs.length i₁.rel.none hy (fun a ha => Nat.le_trans (Nat.le_of_lt hns.lt) (hnew a ha))
  refine hq y h₁ tk₁ (ρ ++ nw) ⟨⟨_, rfl, g3⟩, fun b ob e hb' => ?_, sz⟩ g1 g2
  exact q₁.keep b ob (hk b ob e) fun hm => by
    rcases List.mem_cons.mp hm with rfl | hm
    · exact hL _ _ e rfl
    · exact hb' (by simpa using hm)
end
end Mine
end

section
open PySem PySem.W PyProof.Rows PyProof.V PySem.Spec PySem.SeqAt Builtin
set_option linter.unusedVariables false
set_option maxRecDepth 100000
namespace Mine
section
variable {c : Cx} {n : Nat} {fd : FD} {σ σ' σ₁ σ₂ σ₃ : S} {X : List Addr} {A : Around} {ρ : List Pl} {s : Shared} {os os' os₁ : List AO} {L : Law} {E : Value → Shared → Prop} {v v' : AV}

theorem Room.in1 (r : Room A (n + 1)) : Room A.in1 n := ⟨r.handled, by have := r.depth; show A.depth + n < _; omega, by have := r.units; show A.units + 1 + 20 * n + 100 < _; omega⟩

theorem Rel.citer (H : Lc c L) {h : Heap} {k b : Nat} {p : Pl} (r : Rel c X os ρ h) (hp : ρ[k]? = some p) (ho : os[k]? = some (.x (.citer b))) :
    ∃ pb t, p.more = [] ∧ ρ[b]? = some pb ∧ h.get? p.a = some { cls := .type "callable_iterator", data := .fields #[.ref pb.a, .str "" t, .bool false] } := by
  obtain ⟨p', hp', hx⟩ := r.objs.get ho
  rw [hp] at hp'; cases hp'
  have hx : XRof L (.citer b) ρ p h := H.xr ▸ hx
  exact hx
theorem Rel.meth (H : Lc c L) {h : Heap} {k b : Nat} {p : Pl} (r : Rel c X os ρ h) (hp : ρ[k]? = some p) (ho : os[k]? = some (.x (.meth b))) :
    ∃ pb, p.more = [] ∧ ρ[b]? = some pb ∧ h.get? p.a = some (methodObj (.ref L.fR) (.ref pb.a)) := by
  obtain ⟨p', hp', hx⟩ := r.objs.get ho
  rw [hp] at hp'; cases hp'
  have hx : XRof L (.meth b) ρ p h := H.xr ▸ hx
  exact hx

theorem citer_next (H : Lc c L) {k b y : Nat} {ch : Str} {p : Pl} {d : FuncData} {body : List Stmt} {Q : Option Value → Shared → Prop} (D : DefAt c L.fR d body) (rm : Room A (n + 1)) (r : Rel c [] os ρ s.heap) (hp : ρ[k]? = some p) (ho : os[k]? = some (.x (.citer b))) (hb : os[b]? = some (.x (.meth y)))
    (hc : CodeR c n (.ref L.fR) [.ref y] os (.str ch) os₁) (hk : os₁[k]? = some (.x (.citer b))) (hb₁ : os₁[b]? = some (.x (.meth y)))
    (h1 : ch ≠ "" → ∀ h' tk ρ' t, Reach [] ρ s.heap ρ' h' → Rel c [] os₁ ρ' h' → ∀ {dr : Drawn}, Q (some (.str ch t)) { s with heap := h', toks := tk, drawn := dr })
    (h2 : ch = "" → ∀ h' tk ρ', Reach [] ρ s.heap ρ' h' → Rel c [] (os₁.set k (.x .junk)) ρ' h' → ∀ {dr : Drawn}, Q none { s with heap := h', toks := tk, drawn := dr }) : wpAny c.M A (pyNext (.ref p.a)) Q E s := by
  obtain ⟨pb, t, m0, hpb, hit⟩ := r.citer H hp ho
  obtain ⟨py, m1, hpy, hme⟩ := r.meth H hpb hb
  obtain ⟨fo, hfo, hfd⟩ := D.there
  have hT : s.TypeIs (.ref p.a) "callable_iterator" := ⟨_, hit, rfl⟩
  unfold pyNext
  refine wpAny_bind (wpAny_attempt (wpAny_callSpecial?_slot (name := Str.ofString "__next__") hT slot_ci_next (wpAny_call_entry slot_ci_next hT entry_ci_next ?_ (args_ci_next _))))
  unfold Builtin.«callable_iterator.__next__»
  have e1 : slotArgs "__next__" 0 ⟨[.ref p.a], []⟩ = pure (.ref p.a, []) := by kernel_rfl
  show wpAny _ _ (slotArgs "__next__" 0 ⟨[.ref p.a], []⟩ >>= _) _ _ _
  rw [e1]
  refine wpAny_bind (wpAny_pure ?_)
  refine wpAny_bind (wpAny_field hit rfl (x := .bool false) rfl ?_)
  rw [if_neg (by decide)]
  refine wpAny_bind (wpAny_field hit rfl (x := .ref pb.a) rfl ?_)
  refine wpAny_bind (wpAny_attempt ?_)
  unfold callOutOfASlot
  refine wpAny_bind (wpAny_borrows hme (r.keep _ _ hfo) hfd ?_)
  rw [if_pos rfl]
  refine wpAny_callBorrowed (method_call hme ?_)
  refine hc A.in1 ρ s [.ref py.a] _ rm.in1 r ⟨⟨py, hpy, rfl⟩, trivial⟩ fun z h₁ tk₁ ρ₁ q₁ r₁ hz => ?_
  obtain ⟨tz, rfl⟩ := hz
  obtain ⟨pb₁, t₁, m2, hpb₁, hit₁⟩ := r₁.citer H (by obtain ⟨new, rfl, _⟩ := q₁.grow; exact getElem?_mono hp) hk
  dsimp only
  refine wpAny_bind (wpAny_field hit₁ rfl (x := .bool false) rfl ?_)
  rw [if_neg (by decide)]
  refine wpAny_bind (wpAny_field hit₁ rfl (x := .str "" t₁) rfl ?_)
  refine wpAny_bind (wpAny_holding (eqBool_str ?_))
  by_cases hch : ch = ""
  · subst hch
    rw [if_neg (by decide)]
    refine wpAny_bind (wpAny_rule (wpAny_bind ?_))
    show wpAny _ _ (field (.ref p.a) 0 >>= fun f => slotLetsGo "callable_iterator.__next__" f _ >>= fun _ => setField (.ref p.a) 0 .none >>= fun _ => setField (.ref p.a) 1 .none >>= fun _ => setField (.ref p.a) 2 (.bool true)) _ _ _
    have hp₁ : ρ₁[k]? = some p := by obtain ⟨new, rfl, _⟩ := q₁.grow; exact getElem?_mono hp
    obtain ⟨py₁, m3, hpy₁, hme₁⟩ := r₁.meth H hpb₁ hb₁
    refine wpAny_bind (wpAny_field hit₁ rfl (x := .ref pb₁.a) rfl (wpAny_bind ?_))
    unfold slotLetsGo
    refine wpAny_bind (wpAny_borrows hme₁ (r₁.keep _ _ hfo) hfd ?_)
    rw [if_pos rfl]
    refine wpAny_pure ?_
    refine wpAny_bind (wpAny_setField_rec hit₁ (by simp) fun g1 a1 b1 => ?_)
    refine wpAny_bind (wpAny_setField_rec a1 (by simp) fun g2 a2 b2 => ?_)
    refine wpAny_setField_rec a2 (by simp) fun g3 a3 b3 => ?_
    have sb : Heap.SameBut p.a h₁ g3 := ⟨b3.1.trans (b2.1.trans b1.1), fun b hb => (b3.2 b hb).trans ((b2.2 b hb).trans (b1.2 b hb))⟩
    have r3 : Rel c [] (os₁.set k (.x .junk)) ρ₁ g3 := r₁.setObj hp₁ (fun a ha => sb.2 a fun e => ha (by subst e; exact List.mem_cons_self)) sb.1 (by show c.XR _ _ _ _; rw [H.xr]; trivial)
    have q3 : Reach [] ρ s.heap ρ₁ g3 := q₁.trans (Reach.set hp₁ sb)
    show wpAny _ _ (newExc (.type "StopIteration") [] >>= _) _ _ _
    refine wpAny_bind ?_
    simp only [newExc, newTuple]
    refine wpAny_bind (wpAny_newObj_type ?_ (by size_fits))
    refine wpAny_bind (m := firstArgMember _ _) (wpAny_of_eq (a := Value.none) (by first | rfl | (simp only [firstArgMember]; rfl)) ?_)
    refine wpAny_newObj_type ?_ (by size_fits)
    simp only [raiseNew]
    refine wpAny_bind (wpAny_handled ?_)
    rw [show A.in1.handled = none from rm.handled]
    refine wpAny_bind (wpAny_pure (wpAny_throw ?_))
    refine wpAny_bind (wpAny_isInstance (T := "StopIteration") (b := true) ⟨_, Heap.get?_push_size _ rfl, rfl⟩ isSubtype_stop ?_)
    exact wpAny_pure (h2 rfl _ _ ρ₁ ((q3.trans (Reach.waste [] ρ₁ _ _)).trans (Reach.waste [] ρ₁ _ _)) ((r3.waste _).waste _))
  · have e2 : ((Str.ofString "") == ch) = false := beq_eq_false_iff_ne.mpr fun e => hch e.symm
    rw [e2, if_pos (by decide)]
    refine wpAny_bind (wpAny_pure (wpAny_pure ⟨_, rfl, ?_⟩))
    exact wpAny_pure (h1 hch h₁ tk₁ ρ₁ tz q₁ r₁)
end
end Mine
end

section
open PySem PySem.W PyProof.Rows PyProof.V PySem.Spec PySem.SeqAt Builtin
set_option linter.unusedVariables false
set_option maxRecDepth 100000
namespace Mine

theorem slot_ci_iter : Slot "callable_iterator" "__iter__" "callable_iterator.__iter__" := .of (owner := "callable_iterator") (n := "__iter__") (by rw [typeLookup_type, builtinLookup_eq_fast]; kernel_rfl) (by decide +kernel) (by decide +kernel) (by decide +kernel)
    (by first | exact .inl (by decide +kernel) | exact .inr (by decide +kernel)) (by rw [isSubtype_type]; kernel_rfl)
theorem entry_ci_iter : entryFor table "callable_iterator.__iter__" = some Builtin.«dict_keyiterator.__iter__» :=
  entryFor_alias (id' := "dict_keyiterator.__iter__") (by kernel_rfl) (by first | rfl | decide +kernel | (unfold String.splitOn; simp +decide [String.splitOnAux])) (by decide +kernel) (by kernel_rfl)
theorem args_ci_iter (a : Value) : argsOk "callable_iterator.__iter__" ⟨[a], []⟩ := by unfold argsOk; kernel_rfl

section
variable {c : Cx} {n : Nat} {fd : FD} {σ σ' σ₁ σ₂ σ₃ : S} {X : List Addr} {A : Around} {ρ : List Pl} {s : Shared} {os os' os₁ : List AO} {L : Law} {E : Value → Shared → Prop} {v v' : AV}

noncomputable def Lt (c : Cx) (n : Nat) (fd : FD) (x : Str) (body : List Stmt) (k : Nat) (σ : S) (f : AF) (σ' : S) : Prop :=
  ∀ env A ρ s px p R, Room A n → In c fd σ env ρ s.heap → ρ[k]? = some p → (∀ fl h' tk' ρ', Reach [env.locals] ρ s.heap ρ' h' → In c fd σ' env ρ' h' → FR ρ' f fl → ∀ {dr : Drawn}, R (.ok fl) { s with heap := h', toks := tk', drawn := dr }) →
    codeAny c.M A (.forLoop (.Name x px) (.ref p.a) body [] env) R s

theorem Lt.done (H : Lc c L) {x : Str} {body bR : List Stmt} {k b y : Nat} {d : FuncData} (D : DefAt c L.fR d bR) (ho : σ.os[k]? = some (.x (.citer b))) (hb : σ.os[b]? = some (.x (.meth y)))
    (hc : CodeR c n (.ref L.fR) [.ref y] σ.os (.str "") os₁) (hk : os₁[k]? = some (.x (.citer b))) (hb₁ : os₁[b]? = some (.x (.meth y))) : Lt c (n + 1) fd x body k σ .next ⟨σ.vs, os₁.set k (.x .junk)⟩ := fun env A ρ s px p R rm i hp hR => by
  refine codeAny_for_turn (citer_next H D rm i.rel.none hp ho hb hc hk hb₁ (fun e => absurd rfl e) fun _ h' tk ρ' q r => ?_)
  exact hR _ h' tk ρ' (q.more (by simp)) (i.lift q r) rfl

theorem Lt.turn (H : Lc c L) {x : Str} {body bR : List Stmt} {k b y : Nat} {d : FuncData} {ch : Str} {f₁ f : AF} (D : DefAt c L.fR d bR) (ho : σ.os[k]? = some (.x (.citer b))) (hb : σ.os[b]? = some (.x (.meth y)))
    (hc : CodeR c n (.ref L.fR) [.ref y] σ.os (.str ch) os₁) (hk : os₁[k]? = some (.x (.citer b))) (hb₁ : os₁[b]? = some (.x (.meth y))) (hne : ch ≠ "") (hs : Sto fd x (.str ch) ⟨σ.vs, os₁⟩ σ₁) (hx : Exs c (n + 1) fd body σ₁ f₁ σ₂) (hkd : fd.scope.kind = .function)
    (go : (f₁ = .next ∨ f₁ = .cont) → Lt c (n + 1) fd x body k σ₂ f σ₃) (ends : ¬ (f₁ = .next ∨ f₁ = .cont) → σ₃ = σ₂ ∧ f = (match f₁ with | .brk => .next | g => g)) : Lt c (n + 1) fd x body k σ f σ₃ := fun env A ρ s px p R rm i hp hR => by
  refine codeAny_for_turn (citer_next H D rm i.rel.none hp ho hb hc hk hb₁ (fun _ h₁ tk₁ ρ₁ t q₁ r₁ => ?_) fun e => absurd e hne)
  intro dr
  have i₁ := i.lift q₁ r₁
  refine hs.run (s := { s with heap := h₁, toks := tk₁, drawn := _ }) i₁ ⟨t, rfl⟩ hkd _ _ fun _ h₂ tk₂ ρ₂ q₂ i₂ => ?_
  intro dr
  refine hx env A ρ₂ { s with heap := h₂, toks := tk₂, drawn := _ } rm i₂ _ _ fun fl h₃ tk₃ ρ₃ q₃ p₃ => ?_
  intro dr
  have qq : Reach [env.locals] ρ s.heap ρ₃ h₃ := ((q₁.more (by simp)).trans q₂).trans q₃
  have hp₃ : ρ₃[k]? = some p := by obtain ⟨new, rfl, _⟩ := qq.grow; exact getElem?_mono hp
  obtain ⟨i₃, hf⟩ := p₃
  cases f₁ with
  | next => cases hf; exact go (.inl rfl) env A ρ₃ { s with heap := h₃, toks := tk₃, drawn := _ } px p R rm i₃ hp₃ fun fl' h' tk' ρ' q' i' hf' => hR fl' h' tk' ρ' (qq.trans q') i' hf'
  | cont => cases hf; exact go (.inr rfl) env A ρ₃ { s with heap := h₃, toks := tk₃, drawn := _ } px p R rm i₃ hp₃ fun fl' h' tk' ρ' q' i' hf' => hR fl' h' tk' ρ' (qq.trans q') i' hf'
  | brk =>
    cases hf
    obtain ⟨rfl, rfl⟩ := ends (by rintro (h | h) <;> cases h)
    exact hR _ h₃ tk₃ ρ₃ qq i₃ rfl
  | ret u =>
    obtain ⟨z, rfl, hz⟩ := hf
    obtain ⟨rfl, rfl⟩ := ends (by rintro (h | h) <;> cases h)
    exact hR _ h₃ tk₃ ρ₃ qq i₃ ⟨z, rfl, hz⟩

theorem Ex.forC (H : Lc c L) {x : Str} {px pos : Pos} {iter : Expr} {body : List Stmt} {k b : Nat} {f : AF} (h1 : Ev c n fd iter σ (.ref k) σ₁) (ho : σ₁.os[k]? = some (.x (.citer b))) (h2 : Lt c n fd x body k σ₁ f σ₂)
    (hs : ∀ env v, foldedSetIterable iter env v = Pure.pure v := by intro _ _; rfl) : Ex c n fd (.For (.Name x px) iter body [] pos) σ f σ₂ := fun env A ρ s rm i => by
  rw [exec_For]
  refine Run.stand (Run.bind (h1 env A ρ s rm i) fun v h₁ tk₁ ρ₁ q₁ p₁ => ?_)
  refine Run.bind (P := fun ρ' h' u => u = v ∧ In c fd σ₁ env ρ' h' ∧ VR ρ' (.ref k) v) (Run.of_eq (hs env v) (Run.pure ⟨rfl, p₁⟩)) fun u h₂ tk₂ ρ₂ q₂ p₂ => ?_
  intro dr
  obtain ⟨rfl, i₂, p, hp, rfl⟩ := p₂
  refine Run.stand ?_
  obtain ⟨pb, t, m0, hpb, hit⟩ := i₂.rel.citer H hp ho
  have hT : ({ s with heap := h₂, toks := tk₂, drawn := dr } : Shared).TypeIs (.ref p.a) "callable_iterator" := ⟨_, hit, rfl⟩
  intro Q E hq
  refine wpAny_bind (wpAny_holding ?_)
  refine wpAny_pyIter_slot hT slot_ci_iter (wpAny_call_entry slot_ci_iter hT entry_ci_iter ?_ (args_ci_iter _))
  show wpAny _ _ (PySem.ret (Value.ref p.a)) _ _ _
  refine wpAny_pure ⟨_, rfl, "callable_iterator", _, hT, slot_ci_next.lookup, wpAny_runOwn ?_⟩
  exact h2 env _ ρ₂ { s with heap := h₂, toks := tk₂, drawn := _ } px p _ rm i₂ hp fun fl h' tk' ρ' q' ii hf => hq fl h' tk' ρ' q' ⟨ii, hf⟩
end
end Mine
end

section
open PySem PySem.W PyProof.Rows PyProof.V PySem.Spec PySem.SeqAt Builtin
set_option linter.unusedVariables false
set_option maxRecDepth 100000
namespace Mine

section
variable {c : Cx} {n : Nat} {fd : FD} {σ σ' σ₁ σ₂ σ₃ : S} {X : List Addr} {A : Around} {ρ : List Pl} {s : Shared} {os os' os₁ : List AO} {L : Law} {E : Value → Shared → Prop} {v v' : AV}

/-- a bound method -/
theorem get_m (H : Lc c L) {i : Nat} {m : List (Str × AV)} {name : Str} {ex : Bool} (ho : os[i]? = some (.x (.inst m))) (hm : m.lookup name = Option.none) (hf : findIn c.K (.ref L.C) name = some (some (.ref L.fR))) (hfn : isFn c.K (.ref L.fR) = true)
    (hgf : specialIn c.K (.ref L.fR) "__get__" = some (some (.builtin "function.__get__"))) (ht : takesIn c.K (.ref L.fR) = some false) (hcn : copiedNames.contains name = false) (hh : hasDictIn c.K L.C = true) :
    Op1 c n (fun x => getAttr x name ex) (.ref i) os (.ref os.length) (os ++ [.x (.meth i)]) := fun A ρ s x rm r hx => Run.wp fun Q E hq => by
  obtain ⟨p, dx, m', hp, rfl, h1, h2, h3, h4⟩ := r.inst H ho hx
  obtain ⟨od, J, hl⟩ := h2.k
  have hv := h3 name
  rw [hm] at hv
  have e : m' name = Option.none := by cases e : m' name with | none => rfl | some _ => rw [e] at hv; exact hv.elim
  refine get_bind r.inK J H.ga (findObj_fn hh hf hgf ht hcn ((hl name).trans (by rw [e]))) H.gt ?_
  refine wpAny_call (W.fn_get (s := { s with toks := s.toks + 1 }) r.inK (beq_iff_eq.mp hfn) (handed_on rfl ?_))
  have hk : Keeps s.heap (s.heap.push (methodObj (.ref L.fR) (.ref p.a))) := fun b o e => Heap.get?_push_of_some _ e
  refine hq _ _ _ (ρ ++ [⟨s.heap.objs.size, []⟩]) fun sz => ⟨Reach.new hk sz (Nat.le_refl _), r.new hk sz (Nat.le_refl _) (by rw [Heap.size_push]; exact Nat.lt_succ_self _) ?_, VR.newAt r⟩
  show c.XR _ _ _ _
  rw [H.xr]
  exact ⟨p, rfl, getElem?_mono hp, Heap.get?_push_size _ rfl⟩

theorem Ev.attrM (H : Lc c L) {e : Expr} {name : Str} {pos : Pos} {i : Nat} {m : List (Str × AV)} (h1 : Ev c n fd e σ (.ref i) σ₁) (ho : σ₁.os[i]? = some (.x (.inst m))) (hm : m.lookup name = Option.none) (hf : findIn c.K (.ref L.C) name = some (some (.ref L.fR))) (hfn : isFn c.K (.ref L.fR) = true)
    (hgf : specialIn c.K (.ref L.fR) "__get__" = some (some (.builtin "function.__get__"))) (ht : takesIn c.K (.ref L.fR) = some false) (hcn : copiedNames.contains name = false) (hh : hasDictIn c.K L.C = true)
    (hb : ∀ env, attributeBase e name env (eval e env) = eval e env) : Ev c n fd (.Attribute e name pos) σ (.ref σ₁.os.length) ⟨σ₁.vs, σ₁.os ++ [.x (.meth i)]⟩ := fun env A ρ s rm ii => by
  rw [arm_eval_Attribute, hb]
  refine Run.bind (h1 env A ρ s rm ii) fun x h₁ tk₁ ρ₁ q₁ p₁ => Run.stand ?_
  refine Run.bind (Run.holding (p₁.1.op (get_m (n := n) H ho hm hf hfn hgf ht hcn hh A ρ₁ _ x rm p₁.1.rel.none p₁.2))) fun y h₂ tk₂ ρ₂ q₂ p₂ => ?_
  exact fun Q E hq => wpAny_bind (wpAny_letTemporaryGo (wpAny_pure (hq _ h₂ tk₂ ρ₂ (Reach.refl ..) p₂)))

theorem ci_entry : entryFor table "iter" = some Builtin.«iter» := entryFor_of_tree (by kernel_rfl)
theorem ci_kind : builtinKind "iter" = Option.none := by decide +kernel
theorem ci_plain : plainId "iter" = true := by decide +kernel
theorem ci_args (a b : Value) : argsOk "iter" ⟨[a, b], []⟩ := by unfold argsOk; kernel_rfl
theorem meth_call : typeLookup (.type "method") "__call__" = Pure.pure (some (.builtin "method.__call__")) := by rw [typeLookup_type, builtinLookup_eq_fast]; kernel_rfl

theorem iter_m (H : Lc c L) {b y : Nat} (ho : os[b]? = some (.x (.meth y))) : CallR c n (.builtin "iter") [.ref b, .str ""] os (.ref os.length) (os ++ [.x (.citer b)]) := fun A ρ s xs rm r hx => Run.wp fun Q E hq => by
  obtain ⟨_, _, rfl, ⟨p, hp, rfl⟩, ⟨t, rfl⟩⟩ := VRs.d2 hx
  obtain ⟨py, m1, hpy, hme⟩ := r.meth H hp ho
  have hT : s.TypeIs (.ref p.a) "method" := ⟨_, hme, rfl⟩
  refine Calls.call_function_entry ci_kind ci_plain ci_entry (ci_args _ _) ?_
  unfold Builtin.«iter»
  refine wpAny_bind (wpAny_of_eq (a := [.ref p.a, .str "" t]) (by first | rfl | kernel_rfl) ?_)
  dsimp only
  refine wpAny_bind (wpAny_specialOf hT meth_call ?_)
  rw [if_neg (by decide)]
  refine wpAny_bind (wpAny_rule (wpAny_bind ?_))
  unfold newFields
  refine wpAny_newObj_type (wpAny_pure ⟨_, rfl, ?_⟩) (by size_fits)
  have hk : Keeps s.heap (s.heap.push { cls := .type "callable_iterator", data := .fields #[.ref p.a, .str "" t, .bool false] }) := fun b o e => Heap.get?_push_of_some _ e
  refine hq _ _ _ (ρ ++ [⟨s.heap.objs.size, []⟩]) fun sz => ⟨Reach.new hk sz (Nat.le_refl _), r.new hk sz (Nat.le_refl _) (by rw [Heap.size_push]; exact Nat.lt_succ_self _) ?_, VR.newAt r⟩
  show c.XR _ _ _ _
  rw [H.xr]
  exact ⟨p, t, rfl, getElem?_mono hp, Heap.get?_push_size _ rfl⟩
end
end Mine
end

section
open PySem PySem.W PyProof.Rows PyProof.V PySem.Spec PySem.SeqAt Builtin
set_option linter.unusedVariables false
set_option maxRecDepth 100000
namespace Mine

section
variable {c : Cx} {n : Nat} {fd : FD} {σ σ' σ₁ σ₂ σ₃ : S} {X : List Addr} {A : Around} {ρ : List Pl} {s : Shared} {os os' os₁ : List AO} {L : Law} {E : Value → Shared → Prop} {v v' : AV}

theorem Rel.fnRd (H : Lc c L) {h : Heap} {i j t q e : Nat} {cl : List (Str × Nat)} {p : Pl} (r : Rel c X os ρ h) (hp : ρ[i]? = some p) (ho : os[i]? = some (.x (.fn j cl t (some e)))) (he : os[e]? = some (.x (.rdict q))) :
    ∃ d ld pr, ρ[q]? = some pr ∧ h.get? p.a = some (fnObj d (some ld)) ∧ h.Ns1 ld (fun y => if y = "read" then some (.ref pr.a) else Option.none) := by
  obtain ⟨p', hp', hx⟩ := r.objs.get ho
  rw [hp] at hp'; cases hp'
  have hx : XRof L (.fn j cl t (some e)) ρ p h := H.xr ▸ hx
  obtain ⟨pt, doc, pm, ctv, clos, h1, h3, pd, h4, h5, h6⟩ := hx
  obtain ⟨pd', hpd, hxd⟩ := r.objs.get he
  rw [h5] at hpd; cases hpd
  have hxd : XRof L (.rdict q) ρ pd h := H.xr ▸ hxd
  obtain ⟨pq, g1, g2, g3⟩ := hxd
  exact ⟨_, pd.a, pq, g2, h6, g3⟩

theorem mth_fn (H : Lc c L) {i j t q e : Nat} {cl : List (Str × Nat)} (ho : os[i]? = some (.x (.fn j cl t (some e)))) (he : os[e]? = some (.x (.rdict q))) {x : Value} {pl : Sem Bool} (rm : Room A n) (r : Rel c [] os ρ s.heap) (hx : VR ρ (.ref i) x) :
    Run c [] A ρ s (getMethod x "read" pl) fun ρ' h' z => Rel c [] os ρ' h' ∧ ∃ y, z = (y, []) ∧ VR ρ' (.ref q) y := by
  obtain ⟨p, hp, rfl⟩ := hx
  obtain ⟨d, ld, pr, h1, h2, h3⟩ := r.fnRd H hp ho he
  have hT : s.TypeIs (.ref p.a) "function" := ⟨_, h2, rfl⟩
  intro Q E hq
  unfold getMethod
  refine wpAny_bind (wpAny_specialOf hT fn_ga ?_)
  show wpAny _ _ (if (Manifest.canonical "object.__getattribute__" != "object.__getattribute__") = true then _ else _) _ _ _
  rw [PySem.F.canon_object_ga, if_neg (by decide)]
  refine wpAny_bind (wpAny_specialOf hT fn_getattr ?_)
  rw [if_neg (by decide)]
  refine wpAny_bind (wpAny_specialOf hT fn_read ?_)
  refine wpAny_bind (Mine.fn_get (v := .ref pr.a) h2 h3.ns (if_pos rfl) rfl fun tk => wpAny_pure ?_)
  exact hq _ s.heap tk ρ (Reach.refl ..) ⟨r, _, rfl, pr, h1, rfl⟩

theorem callWith_fn {M : Model} {pos : Pos} {a : Addr} {first : List Value} {args : List (Bool × Sem Value)} {Q : Value → Shared → Prop} (hs : args.any (·.1) = false)
    (h : wpAny M A (PySem.evalArgs (.ref a) true args []) (fun x s₁ => (∃ o d, s₁.heap.get? a = some o ∧ o.data = .func d) ∧ wpAny M A (call (.ref a) (first ++ x.pos) x.kw) Q E s₁) E s) :
    wpAny M A (PySem.callWith pos (.ref a) first args []) Q E s := by
  unfold PySem.callWith
  refine wpAny_bind (wpAny_holding (wpAny_mono h (fun x s₁ h₁ => wpAny_bind (wpAny_standAt ?_)) fun _ _ x => x))
  have tail : ∀ {t : Sem Value}, wpAny M A t Q E s₁ → wpAny M A (t >>= fun r => holding [r] point >>= fun _ => Pure.pure r) Q E s₁ :=
    fun ht => wpAny_bind (wpAny_mono ht (fun r s₂ hr => wpAny_bind (wpAny_holding (wpAny_point (wpAny_pure hr)))) fun _ _ x => x)
  obtain ⟨⟨o, d, ho, hd⟩, hc⟩ := h₁
  simp only [hs, List.any_nil, Bool.or_false]
  refine wpAny_bind (m := keeperOf (.ref a)) ?_
  unfold keeperOf
  refine wpAny_bind (wpAny_load ho ?_)
  rw [hd]
  refine wpAny_pure ?_
  first
    | refine wpAny_ite ?_
    | skip
  split <;> first
    | exact tail hc
    | exact tail (by unfold callMarked; exact Calls.wpAny_keep hc)

/-- o.read(..), read an attribute of a function -/
theorem Ev.methV (H : Lc c L) {o : Expr} {apos pos : Pos} {es : List Expr} {i j t q e j' t' : Nat} {cl cl' : List (Str × Nat)} {rd' : Option Nat} {vs : List AV} (h0 : Ev c n fd o σ (.ref i) σ₁) (ho : σ₁.os[i]? = some (.x (.fn j cl t (some e)))) (he : σ₁.os[e]? = some (.x (.rdict q))) (h1 : Evs c n fd es σ₁ vs σ₂)
    (hq1 : σ₂.os[q]? = some (.x (.fn j' cl' t' rd'))) (hq2 : σ₂.os[t']? = some (.x (.code j'))) (h2 : CallV c n (.ref q) vs σ₂.os v os)
    (hp : Plain1 es) (hs : ∀ env, (starEach es env).any (·.1) = false) (hline : (apos.endLine == pos.line) = true) (hfew : es.length < 30)
    (hbase : ∀ env, attributeBase o "read" env (eval o env) = eval o env) : Ev c n fd (.Call (.Attribute o "read" apos) es [] pos) σ v ⟨σ₂.vs, os⟩ := fun env A ρ s rm ii => by
  rw [arm_eval_Call, hbase]
  refine Run.bind (h0 env A ρ s rm ii) fun x hx tk ρ₁ q₁ p₁ => ?_
  refine Run.stand ?_
  have hform : methodCallForm (es.length + ([] : List Keyword).length) (backTo pos (starEach es env)) (backToKw pos (keywordEach [] env)) = true := by
    unfold methodCallForm
    have h1 : (backTo pos (starEach es env)).all (fun x => !x.1) = true := by
      have := starAny (pos := pos) (env := env) hs
      rw [List.all_eq_true]; intro y hy
      have := List.any_eq_false.mp this y hy
      simpa using this
    rw [h1]
    show (true && true && decide (es.length + 0 + (if ([] : List (Option Str × Sem Value)).isEmpty then 0 else 1) < 30)) = true
    simpa using hfew
  have hpos : methodCallPos true o env apos pos = Pure.pure pos := by unfold methodCallPos; simp [hline]
  unfold methodCall
  rw [hform]
  refine Run.bind (P := fun ρ' h' z => In c fd σ₁ env ρ' h' ∧ ∃ y, z = (y, []) ∧ VR ρ' (.ref q) y) (Run.holding ?_) fun z hz tk₂ ρ₂ q₂ p₂ => ?_
  · intro Q E hq
    exact mth_fn (s := { s with heap := hx, toks := tk, drawn := _ }) H ho he rm p₁.1.rel.none p₁.2 Q E fun z h' tk' ρ' qq pp => hq z h' tk' ρ' (qq.more (by simp)) ⟨p₁.1.lift qq pp.1, pp.2⟩
  obtain ⟨i₂, y, rfl, hy⟩ := p₂
  dsimp only
  refine Run.bind (P := fun ρ' h' q' => q' = pos ∧ In c fd σ₁ env ρ' h' ∧ VR ρ' (.ref q) y) (Run.of_eq hpos (Run.pure ⟨rfl, i₂, hy⟩)) fun q' hq tk₃ ρ₃ q₃ p₃ => ?_
  intro dr
  obtain ⟨rfl, i₃, p, hp₃, rfl⟩ := p₃
  intro Q E hQ
  refine callWith_fn (starAny hs) (h1.args hp rm i₃ _ _ fun ar h₄ tk₄ ρ₄ q₄ p₄ => ?_)
  intro dr
  obtain ⟨xs, rfl, i₄, hxs⟩ := p₄
  have hv : VR ρ₄ (.ref q) (.ref p.a) := VR.reach (x := .ref q) ⟨p, hp₃, rfl⟩ q₄
  obtain ⟨a, ob, cj, doc, pm, ctv, clos, e', hoa, hd, _, _⟩ := i₄.rel.fn H hq1 hq2 hv
  cases e'
  refine ⟨⟨ob, _, hoa, hd⟩, ?_⟩
  exact (i₄.op (h2 A ρ₄ _ (.ref p.a) xs rm i₄.rel.none hv hxs)) Q E fun z h' tk' ρ' qq pp => hQ z h' tk' ρ' (q₄.trans qq) pp
end
end Mine
end

section
open PySem PySem.W PyProof.Rows PyProof.V PySem.Spec PySem.SeqAt Builtin
set_option linter.unusedVariables false
set_option maxRecDepth 100000
namespace Mine

section
variable {c : Cx} {n : Nat} {fd : FD} {σ σ' σ₁ σ₂ σ₃ : S} {X : List Addr} {A : Around} {ρ : List Pl} {s : Shared} {os os' os₁ : List AO} {L : Law} {E : Value → Shared → Prop} {v v' : AV}

/-- one object turned, and new ones behind -/
theorem Rel.grow {h h' : Heap} {new : List Pl} {nos : List AO} {k : Nat} {p : Pl} {o : AO} (r : Rel c X os ρ h) (hp : ρ[k]? = some p) (keep : ∀ a ob, h.get? a = some ob → a ∉ p.a :: p.more → h'.get? a = some ob)
    (sz : h.objs.size ≤ h'.objs.size) (hf : ∀ a ∈ foot new, h.objs.size ≤ a ∧ a < h'.objs.size) (nd : (foot new).Nodup) (y : OR c (ρ ++ new) o p h') (ys : ORs c (ρ ++ new) nos new h') : Rel c X (os.set k o ++ nos) (ρ ++ new) h' := by
  have nf : ∀ a ob, c.hb.get? a = some ob → a ∉ p.a :: p.more := fun a ob e hm => by
    have := r.fresh a (List.mem_append_right _ (foot_mem_of_get hp a hm))
    rw [this] at e; cases e
  have kb : Keeps c.hb h' := fun a ob e => keep a ob (r.keep a ob e) (nf a ob e)
  refine ⟨?_, ?_, kb, fun a ha => ?_, fun a ha => ?_⟩
  · exact (ORs.set kb (r.objs.mono new) hp (List.nodup_append.mp r.nodup).2.1 (fun a ha ob e => keep a ob e ha) y).append ys
  · rw [foot_append, ← List.append_assoc]
    refine List.nodup_append.mpr ⟨r.nodup, nd, fun a ha b hb e => ?_⟩
    subst e
    exact absurd (r.live a ha) (Nat.not_lt.mpr (hf a hb).1)
  · rw [foot_append, ← List.append_assoc] at ha
    rcases List.mem_append.mp ha with ha | ha
    · exact r.fresh a ha
    · cases e : c.hb.get? a with
      | none => rfl
      | some ob => exact absurd (Heap.lt_size (r.keep _ _ e)) (Nat.not_lt.mpr (hf a ha).1)
  · rw [foot_append, ← List.append_assoc] at ha
    rcases List.mem_append.mp ha with ha | ha
    · exact Nat.lt_of_lt_of_le (r.live a ha) sz
    · exact (hf a ha).2
theorem Reach.grown {h h' : Heap} {new : List Pl} {k : Nat} {p : Pl} (hp : ρ[k]? = some p) (keep : ∀ a ob, h.get? a = some ob → a ∉ p.a :: p.more → h'.get? a = some ob) (sz : h.objs.size ≤ h'.objs.size) (hf : ∀ a ∈ foot new, h.objs.size ≤ a ∧ a < h'.objs.size) :
    Reach [] ρ h (ρ ++ new) h' :=
  ⟨⟨new, rfl, fun a ha => (hf a ha).1⟩, fun a ob e ha => keep a ob e fun hm => ha (by simpa using foot_mem_of_get hp a hm), sz⟩
end
end Mine
end

section
open PySem PySem.W PyProof.Rows PyProof.V PySem.Spec PySem.SeqAt Builtin
set_option linter.unusedVariables false
set_option maxRecDepth 100000
namespace Mine

/-- what the maker needs -/
structure Lm (c : Cx) (L : Law) (c0 : Addr) : Prop where
  hd : CodeHd c.hb c0 L.tb
  bm : c.hb.BuiltinsAt c.mg L.tb
  gtb : mainGlobals ≠ L.tb

theorem triples (N : Nat → Nst) : ∀ (as : List Addr) (i : Nat), TriplesOk (tabVals N i as)
  | [], _ => trivial
  | _ :: as, i => triples N as (i + 1)
theorem tabVals_snoc (N : Nat → Nst) (a : Addr) : ∀ (as : List Addr) (i : Nat), tabVals N i (as ++ [a]) = tabVals N i as ++ [rawInt (N (i + as.length)).pos.line, rawInt (N (i + as.length)).pos.col, .ref a]
  | [], i => rfl
  | b :: as, i => by
    show _ :: _ :: _ :: tabVals N (i + 1) (as ++ [a]) = _
    rw [tabVals_snoc N a as (i + 1), show i + 1 + as.length = i + (as.length + 1) by omega]; rfl
theorem PA.length {ρ : List Pl} : ∀ {cs : List Nat} {as : List Addr}, PA ρ cs as → cs.length = as.length
  | [], [], _ => rfl
  | _ :: _, _ :: _, h => congrArg (· + 1) (PA.length h.2)
theorem PA.snoc {ρ : List Pl} {x : Nat} {p : Pl} (hp : ρ[x]? = some p) : ∀ {cs : List Nat} {as : List Addr}, PA ρ cs as → PA ρ (cs ++ [x]) (as ++ [p.a])
  | [], [], _ => ⟨⟨p, hp, rfl⟩, trivial⟩
  | _ :: _, _ :: _, h => ⟨h.1, PA.snoc hp h.2⟩
theorem PA.mono {ρ : List Pl} (new : List Pl) {cs : List Nat} {as : List Addr} (h : PA ρ cs as) : PA (ρ ++ new) cs as := by
  have := h.ren (f := fun i => i) (ρ' := ρ ++ new) fun i _ p hp => getElem?_mono hp
  simpa using this
theorem PA.get {ρ : List Pl} : ∀ {cs : List Nat} {as : List Addr} {j i : Nat}, PA ρ cs as → cs[j]? = some i → ∃ p, ρ[i]? = some p ∧ as[j]? = some p.a
  | x :: xs, y :: ys, 0, i, h, e => by
    obtain ⟨⟨p, h2, h3⟩, h4⟩ := h
    simp at e; subst e; subst h3; exact ⟨p, h2, rfl⟩
  | x :: xs, y :: ys, j + 1, i, h, e => by
    simp at e; simpa using PA.get h.2 e

section
variable {c : Cx} {n : Nat} {fd : FD} {σ σ' σ₁ σ₂ σ₃ : S} {X : List Addr} {A : Around} {ρ : List Pl} {s : Shared} {os os' os₁ : List AO} {L : Law} {E : Value → Shared → Prop} {v v' : AV}

theorem Rel.tab (H : Lc c L) {h : Heap} {t : Nat} {cs : List Nat} (r : Rel c X os ρ h) (ho : os[t]? = some (.x (.tab cs))) :
    ∃ p as, ρ[t]? = some p ∧ p.a = L.tb ∧ p.more = [] ∧ PA ρ cs as ∧ h.get? L.tb = some (tabObj (tabVals L.N 0 as).toArray) := by
  obtain ⟨p, hp, hx⟩ := r.objs.get ho
  have hx : XRof L (.tab cs) ρ p h := H.xr ▸ hx
  obtain ⟨as, h1, h2, h3, h4⟩ := hx
  exact ⟨p, as, hp, h1, h2, h3, h4⟩

/-- a def made for the first time -/
theorem mk_new (H : Lc c L) {c0 : Addr} (M : Lm c L c0) {env : Env} {t : Nat} {cs : List Nat} {cl : List (Str × Nat)} {clos : List (Str × Addr)} {body : List Stmt} {fl : Nat} {Q : Value → Shared → Prop} (r : Rel c X os ρ s.heap) (ht : os[t]? = some (.x (.tab cs))) (hbody : (L.N cs.length).body = .stmts body)
    (hcl : closureFor (L.N cs.length).scope env = Pure.pure clos) (hCL : CL ρ cl clos) (hge : env.globals = mainGlobals) (hcode : env.code = .ref c0) (hnf : ∀ as : List Addr, as.length = cs.length → codeAmong (L.N cs.length).pos (tabVals L.N 0 as) = Option.none)
    (hQ : ∀ x h' tk ρ', Reach [] ρ s.heap ρ' h' → Rel c X (os.set t (.x (.tab (cs ++ [os.length]))) ++ [.x (.code cs.length), .x (.fn cs.length cl os.length Option.none)]) ρ' h' → VR ρ' (.ref (os.length + 1)) x → ∀ {dr : Drawn}, Q x { s with heap := h', toks := tk, drawn := dr }) :
    wpAny c.M A (makeFunction (L.N cs.length).name (L.N cs.length).qual (L.N cs.length).params (.stmts body) (L.N cs.length).scope env [] [] [] (L.N cs.length).pos fl) Q E s := by
  obtain ⟨p, as, hp, hpa, hpm, hPA, htb⟩ := r.tab H ht
  have hlen := r.objs.length
  refine makeFunction_K hcl hge (c.g.keeps r.keep) hcode (M.hd.keeps r.keep) htb (by rw [List.toList_toArray]; exact triples _ _ _) (by rw [List.toList_toArray]; exact hnf as hPA.length.symm) M.gtb (M.bm.keeps r.keep) fun c' ctv doc h' tk hx hge' hlt hrec htb' => ?_
  have sz : s.heap.objs.size ≤ h'.objs.size := Nat.le_trans hge' (Nat.le_of_lt hlt)
  have keep : ∀ ob a o', s.heap.get? a = some o' → a ∉ p.a :: p.more → (h'.push ob).get? a = some o' := fun ob a o' e ha => Heap.get?_push_of_some _ (hx a o' (fun e' => ha (by rw [e', hpa]; exact List.mem_cons_self)) e)
  have hf : ∀ ob, ∀ a ∈ foot [⟨c', []⟩, ⟨h'.objs.size, []⟩], s.heap.objs.size ≤ a ∧ a < (h'.push ob).objs.size := fun ob a ha => by
    rw [Heap.size_push]
    rcases List.mem_cons.mp (show a ∈ [c', h'.objs.size] from ha) with rfl | ha
    · exact ⟨hge', Nat.lt_succ_of_lt hlt⟩
    · rcases List.mem_cons.mp ha with rfl | ha
      · exact ⟨sz, Nat.lt_succ_self _⟩
      · cases ha
  have nd : (foot [⟨c', []⟩, ⟨h'.objs.size, []⟩]).Nodup := by
    show [c', h'.objs.size].Nodup
    simp only [List.nodup_cons, List.mem_cons, List.not_mem_nil, or_false, not_false_eq_true, List.nodup_nil, and_true]
    exact Nat.ne_of_lt hlt
  have hc1 : (ρ ++ [⟨c', []⟩, ⟨h'.objs.size, []⟩])[os.length]? = some ⟨c', []⟩ := by rw [hlen]; simp
  have hc2 : (ρ ++ [⟨c', []⟩, ⟨h'.objs.size, []⟩])[os.length + 1]? = some ⟨h'.objs.size, []⟩ := by rw [hlen]; simp
  have szp : ∀ ob, s.heap.objs.size ≤ (h'.push ob).objs.size := fun ob => by rw [Heap.size_push]; exact Nat.le_succ_of_le sz
  refine hQ _ _ tk (ρ ++ [⟨c', []⟩, ⟨h'.objs.size, []⟩]) (Reach.grown hp (keep _) (szp _) (hf _)) (r.grow hp (keep _) (szp _) (hf _) nd ?_ ⟨?_, ?_, trivial⟩) ⟨_, hc2, rfl⟩
  · show c.XR _ _ _ _
    rw [H.xr]
    refine ⟨as ++ [c'], hpa, hpm, PA.snoc (p := ⟨c', []⟩) hc1 (hPA.mono _), ?_⟩
    rw [tabVals_snoc, Nat.zero_add, ← hPA.length]
    refine Heap.get?_push_of_some _ (htb'.trans ?_)
    simp
  · show c.XR _ _ _ _
    rw [H.xr]
    exact ⟨rfl, hrec.push _⟩
  · show c.XR _ _ _ _
    rw [H.xr]
    refine ⟨⟨c', []⟩, doc, (c.mg (Str.ofString "__name__")).getD Value.none, ctv, clos, hc1, ?_, rfl, ?_⟩
    · have := hCL.ren (f := fun i => i) (ρ' := ρ ++ [⟨c', []⟩, ⟨h'.objs.size, []⟩]) fun i _ q hq => getElem?_mono hq
      simpa using this
    · refine (Heap.get?_push_size _ rfl).trans ?_
      unfold fnObj mkF
      rw [hbody]

/-- new objects behind -/
theorem Rel.grow0 {h h' : Heap} {new : List Pl} {nos : List AO} (r : Rel c X os ρ h) (keep : Keeps h h') (sz : h.objs.size ≤ h'.objs.size) (hf : ∀ a ∈ foot new, h.objs.size ≤ a ∧ a < h'.objs.size) (nd : (foot new).Nodup) (ys : ORs c (ρ ++ new) nos new h') : Rel c X (os ++ nos) (ρ ++ new) h' := by
  have kb : Keeps c.hb h' := fun a ob e => keep a ob (r.keep a ob e)
  refine ⟨((r.objs.loc kb fun a _ o e => keep a o e).mono new).append ys, ?_, kb, fun a ha => ?_, fun a ha => ?_⟩
  · rw [foot_append, ← List.append_assoc]
    refine List.nodup_append.mpr ⟨r.nodup, nd, fun a ha b hb e => ?_⟩
    subst e
    exact absurd (r.live a ha) (Nat.not_lt.mpr (hf a hb).1)
  · rw [foot_append, ← List.append_assoc] at ha
    rcases List.mem_append.mp ha with ha | ha
    · exact r.fresh a ha
    · cases e : c.hb.get? a with
      | none => rfl
      | some ob => exact absurd (Heap.lt_size (r.keep _ _ e)) (Nat.not_lt.mpr (hf a ha).1)
  · rw [foot_append, ← List.append_assoc] at ha
    rcases List.mem_append.mp ha with ha | ha
    · exact Nat.lt_of_lt_of_le (r.live a ha) sz
    · exact (hf a ha).2

/-- a def made again -/
theorem mk_hit (H : Lc c L) {c0 : Addr} (M : Lm c L c0) {env : Env} {t j ci : Nat} {cs : List Nat} {cl : List (Str × Nat)} {clos : List (Str × Addr)} {body : List Stmt} {fl : Nat} {Q : Value → Shared → Prop} (r : Rel c X os ρ s.heap) (ht : os[t]? = some (.x (.tab cs))) (hj : cs[j]? = some ci) (hbody : (L.N j).body = .stmts body)
    (hcl : closureFor (L.N j).scope env = Pure.pure clos) (hCL : CL ρ cl clos) (hge : env.globals = mainGlobals) (hcode : env.code = .ref c0) (hhit : ∀ (as : List Addr) a, as[j]? = some a → codeAmong (L.N j).pos (tabVals L.N 0 as) = some (.ref a))
    (hQ : ∀ x h' tk ρ', Reach [] ρ s.heap ρ' h' → Rel c X (os ++ [.x (.fn j cl ci Option.none)]) ρ' h' → VR ρ' (.ref os.length) x → ∀ {dr : Drawn}, Q x { s with heap := h', toks := tk, drawn := dr }) :
    wpAny c.M A (makeFunction (L.N j).name (L.N j).qual (L.N j).params (.stmts body) (L.N j).scope env [] [] [] (L.N j).pos fl) Q E s := by
  obtain ⟨p, as, hp, hpa, hpm, hPA, htb⟩ := r.tab H ht
  obtain ⟨pc, hpc, hac⟩ := hPA.get hj
  have hlen := r.objs.length
  refine makeFunction_hit hcl hge (c.g.keeps r.keep) hcode (M.hd.keeps r.keep) htb (by rw [List.toList_toArray]; exact triples _ _ _) (by rw [List.toList_toArray]; exact hhit as _ hac) (M.bm.keeps r.keep) fun ctv doc h' tk hk sz => ?_
  have keep : ∀ ob, Keeps s.heap (h'.push ob) := fun ob a o' e => Heap.get?_push_of_some _ (hk a o' e)
  have hf : ∀ ob, ∀ a ∈ foot [⟨h'.objs.size, []⟩], s.heap.objs.size ≤ a ∧ a < (h'.push ob).objs.size := fun ob a ha => by
    rw [Heap.size_push]
    rcases List.mem_cons.mp (show a ∈ [h'.objs.size] from ha) with rfl | ha
    · exact ⟨sz, Nat.lt_succ_self _⟩
    · cases ha
  have hc2 : (ρ ++ [⟨h'.objs.size, []⟩])[os.length]? = some ⟨h'.objs.size, []⟩ := by rw [hlen]; simp
  have szp : ∀ ob, s.heap.objs.size ≤ (h'.push ob).objs.size := fun ob => by rw [Heap.size_push]; exact Nat.le_succ_of_le sz
  refine hQ _ _ tk (ρ ++ [⟨h'.objs.size, []⟩]) ⟨⟨_, rfl, fun a ha => (hf (methodObj .none .none) a ha).1⟩, fun a o e _ => keep _ a o e, szp _⟩ (r.grow0 (keep _) (szp _) (hf _) (by simp [foot]) ⟨?_, trivial⟩) ⟨_, hc2, rfl⟩
  show c.XR _ _ _ _
  rw [H.xr]
  refine ⟨pc, doc, (c.mg (Str.ofString "__name__")).getD Value.none, ctv, clos, getElem?_mono hpc, ?_, rfl, ?_⟩
  · have := hCL.ren (f := fun i => i) (ρ' := ρ ++ [⟨h'.objs.size, []⟩]) fun i _ q hq => getElem?_mono hq
    simpa using this
  · refine (Heap.get?_push_size _ rfl).trans ?_
    unfold fnObj mkF
    rw [hbody]
/-- a lambda made for the first time -/
theorem mkL_new (H : Lc c L) {c0 : Addr} (M : Lm c L c0) {env : Env} {t : Nat} {cs : List Nat} {cl : List (Str × Nat)} {clos : List (Str × Addr)} {body : Expr} {fl : Nat} {Q : Value → Shared → Prop} (r : Rel c X os ρ s.heap) (ht : os[t]? = some (.x (.tab cs))) (hbody : (L.N cs.length).body = .expr body)
    (hcl : closureFor (L.N cs.length).scope env = Pure.pure clos) (hCL : CL ρ cl clos) (hge : env.globals = mainGlobals) (hcode : env.code = .ref c0) (hnf : ∀ as : List Addr, as.length = cs.length → codeAmong (L.N cs.length).pos (tabVals L.N 0 as) = Option.none)
    (hQ : ∀ x h' tk ρ', Reach [] ρ s.heap ρ' h' → Rel c X (os.set t (.x (.tab (cs ++ [os.length]))) ++ [.x (.code cs.length), .x (.fn cs.length cl os.length Option.none)]) ρ' h' → VR ρ' (.ref (os.length + 1)) x → ∀ {dr : Drawn}, Q x { s with heap := h', toks := tk, drawn := dr }) :
    wpAny c.M A (makeFunction (L.N cs.length).name (L.N cs.length).qual (L.N cs.length).params (.expr body) (L.N cs.length).scope env [] [] [] (L.N cs.length).pos fl) Q E s := by
  obtain ⟨p, as, hp, hpa, hpm, hPA, htb⟩ := r.tab H ht
  have hlen := r.objs.length
  refine kla_makeFunction hcl hge (c.g.keeps r.keep) hcode (M.hd.keeps r.keep) htb (by rw [List.toList_toArray]; exact triples _ _ _) (by rw [List.toList_toArray]; exact hnf as hPA.length.symm) M.gtb (M.bm.keeps r.keep) fun c' ctv h' tk hx hge' hlt hrec htb' => ?_
  have sz : s.heap.objs.size ≤ h'.objs.size := Nat.le_trans hge' (Nat.le_of_lt hlt)
  have keep : ∀ ob a o', s.heap.get? a = some o' → a ∉ p.a :: p.more → (h'.push ob).get? a = some o' := fun ob a o' e ha => Heap.get?_push_of_some _ (hx a o' (fun e' => ha (by rw [e', hpa]; exact List.mem_cons_self)) e)
  have hf : ∀ ob, ∀ a ∈ foot [⟨c', []⟩, ⟨h'.objs.size, []⟩], s.heap.objs.size ≤ a ∧ a < (h'.push ob).objs.size := fun ob a ha => by
    rw [Heap.size_push]
    rcases List.mem_cons.mp (show a ∈ [c', h'.objs.size] from ha) with rfl | ha
    · exact ⟨hge', Nat.lt_succ_of_lt hlt⟩
    · rcases List.mem_cons.mp ha with rfl | ha
      · exact ⟨sz, Nat.lt_succ_self _⟩
      · cases ha
  have nd : (foot [⟨c', []⟩, ⟨h'.objs.size, []⟩]).Nodup := by
    show [c', h'.objs.size].Nodup
    simp only [List.nodup_cons, List.mem_cons, List.not_mem_nil, or_false, not_false_eq_true, List.nodup_nil, and_true]
    exact Nat.ne_of_lt hlt
  have hc1 : (ρ ++ [⟨c', []⟩, ⟨h'.objs.size, []⟩])[os.length]? = some ⟨c', []⟩ := by rw [hlen]; simp
  have hc2 : (ρ ++ [⟨c', []⟩, ⟨h'.objs.size, []⟩])[os.length + 1]? = some ⟨h'.objs.size, []⟩ := by rw [hlen]; simp
  have szp : ∀ ob, s.heap.objs.size ≤ (h'.push ob).objs.size := fun ob => by rw [Heap.size_push]; exact Nat.le_succ_of_le sz
  refine hQ _ _ tk (ρ ++ [⟨c', []⟩, ⟨h'.objs.size, []⟩]) (Reach.grown hp (keep _) (szp _) (hf _)) (r.grow hp (keep _) (szp _) (hf _) nd ?_ ⟨?_, ?_, trivial⟩) ⟨_, hc2, rfl⟩
  · show c.XR _ _ _ _
    rw [H.xr]
    refine ⟨as ++ [c'], hpa, hpm, PA.snoc (p := ⟨c', []⟩) hc1 (hPA.mono _), ?_⟩
    rw [tabVals_snoc, Nat.zero_add, ← hPA.length]
    refine Heap.get?_push_of_some _ (htb'.trans ?_)
    simp
  · show c.XR _ _ _ _
    rw [H.xr]
    exact ⟨rfl, hrec.push _⟩
  · show c.XR _ _ _ _
    rw [H.xr]
    refine ⟨⟨c', []⟩, .none, (c.mg (Str.ofString "__name__")).getD Value.none, ctv, clos, hc1, ?_, rfl, ?_⟩
    · have := hCL.ren (f := fun i => i) (ρ' := ρ ++ [⟨c', []⟩, ⟨h'.objs.size, []⟩]) fun i _ q hq => getElem?_mono hq
      simpa using this
    · refine (Heap.get?_push_size _ rfl).trans ?_
      unfold fnObj mkF
      rw [hbody]

/-- a lambda made again -/
theorem mkL_hit (H : Lc c L) {c0 : Addr} (M : Lm c L c0) {env : Env} {t j ci : Nat} {cs : List Nat} {cl : List (Str × Nat)} {clos : List (Str × Addr)} {body : Expr} {fl : Nat} {Q : Value → Shared → Prop} (r : Rel c X os ρ s.heap) (ht : os[t]? = some (.x (.tab cs))) (hj : cs[j]? = some ci) (hbody : (L.N j).body = .expr body)
    (hcl : closureFor (L.N j).scope env = Pure.pure clos) (hCL : CL ρ cl clos) (hge : env.globals = mainGlobals) (hcode : env.code = .ref c0) (hhit : ∀ (as : List Addr) a, as[j]? = some a → codeAmong (L.N j).pos (tabVals L.N 0 as) = some (.ref a))
    (hQ : ∀ x h' tk ρ', Reach [] ρ s.heap ρ' h' → Rel c X (os ++ [.x (.fn j cl ci Option.none)]) ρ' h' → VR ρ' (.ref os.length) x → ∀ {dr : Drawn}, Q x { s with heap := h', toks := tk, drawn := dr }) :
    wpAny c.M A (makeFunction (L.N j).name (L.N j).qual (L.N j).params (.expr body) (L.N j).scope env [] [] [] (L.N j).pos fl) Q E s := by
  obtain ⟨p, as, hp, hpa, hpm, hPA, htb⟩ := r.tab H ht
  obtain ⟨pc, hpc, hac⟩ := hPA.get hj
  have hlen := r.objs.length
  refine kla_makeFunctionHit hcl hge (c.g.keeps r.keep) hcode (M.hd.keeps r.keep) htb (by rw [List.toList_toArray]; exact triples _ _ _) (by rw [List.toList_toArray]; exact hhit as _ hac) (M.bm.keeps r.keep) fun ctv h' tk hk sz => ?_
  have keep : ∀ ob, Keeps s.heap (h'.push ob) := fun ob a o' e => Heap.get?_push_of_some _ (hk a o' e)
  have hf : ∀ ob, ∀ a ∈ foot [⟨h'.objs.size, []⟩], s.heap.objs.size ≤ a ∧ a < (h'.push ob).objs.size := fun ob a ha => by
    rw [Heap.size_push]
    rcases List.mem_cons.mp (show a ∈ [h'.objs.size] from ha) with rfl | ha
    · exact ⟨sz, Nat.lt_succ_self _⟩
    · cases ha
  have hc2 : (ρ ++ [⟨h'.objs.size, []⟩])[os.length]? = some ⟨h'.objs.size, []⟩ := by rw [hlen]; simp
  have szp : ∀ ob, s.heap.objs.size ≤ (h'.push ob).objs.size := fun ob => by rw [Heap.size_push]; exact Nat.le_succ_of_le sz
  refine hQ _ _ tk (ρ ++ [⟨h'.objs.size, []⟩]) ⟨⟨_, rfl, fun a ha => (hf (methodObj .none .none) a ha).1⟩, fun a o e _ => keep _ a o e, szp _⟩ (r.grow0 (keep _) (szp _) (hf _) (by simp [foot]) ⟨?_, trivial⟩) ⟨_, hc2, rfl⟩
  show c.XR _ _ _ _
  rw [H.xr]
  refine ⟨pc, .none, (c.mg (Str.ofString "__name__")).getD Value.none, ctv, clos, getElem?_mono hpc, ?_, rfl, ?_⟩
  · have := hCL.ren (f := fun i => i) (ρ' := ρ ++ [⟨h'.objs.size, []⟩]) fun i _ q hq => getElem?_mono hq
    simpa using this
  · refine (Heap.get?_push_size _ rfl).trans ?_
    unfold fnObj mkF
    rw [hbody]
end
end Mine
end

section
open PySem PySem.W PyProof.Rows PyProof.V PySem.Spec PySem.SeqAt Builtin
set_option linter.unusedVariables false
set_option maxRecDepth 100000
namespace Mine

/-- the closure of a nested block, by the frame's cells -/
noncomputable def Clo (fd : FD) (scope : Scope) (cl : List (Str × Nat)) : Prop :=
  (∀ q ∈ cl, fd.cells.lookup q.1 = some q.2) ∧ ∀ (env : Env) (f : Str → Addr), (∀ q ∈ cl, env.cells.lookup q.1 = some (f q.1)) → closureFor scope env = Pure.pure (cl.map fun q => (q.1, f q.1))

section
variable {c : Cx} {n : Nat} {fd : FD} {σ σ' σ₁ σ₂ σ₃ : S} {X : List Addr} {A : Around} {ρ : List Pl} {s : Shared} {os os' os₁ : List AO} {L : Law} {E : Value → Shared → Prop} {v v' : AV}

theorem Clo.run {scope : Scope} {cl : List (Str × Nat)} {env : Env} {h : Heap} {vs : List (Str × AV)} (k : Clo fd scope cl) (f : Fre fd vs env ρ h) : ∃ clos, closureFor scope env = Pure.pure clos ∧ CL ρ cl clos := by
  have key : ∀ q ∈ cl, ∃ p, ρ[q.2]? = some p ∧ env.cells.lookup q.1 = some p.a := fun q hq => f.cells q.1 q.2 (k.1 q hq)
  let g : Str → Addr := fun x => (env.cells.lookup x).getD 0
  have hg : ∀ q ∈ cl, env.cells.lookup q.1 = some (g q.1) := fun q hq => by
    obtain ⟨p, _, hp⟩ := key q hq
    show _ = some ((env.cells.lookup q.1).getD 0)
    rw [hp]; rfl
  refine ⟨_, k.2 env g hg, ?_⟩
  have : ∀ l : List (Str × Nat), (∀ q ∈ l, ∃ p, ρ[q.2]? = some p ∧ env.cells.lookup q.1 = some p.a) → CL ρ l (l.map fun q => (q.1, g q.1)) := by
    intro l
    induction l with
    | nil => intro _; trivial
    | cons q l ih =>
      intro hl
      obtain ⟨p, h1, h2⟩ := hl q List.mem_cons_self
      refine ⟨rfl, ⟨p, h1, ?_⟩, ih fun q hq => hl q (List.mem_cons_of_mem _ hq)⟩
      show (env.cells.lookup q.1).getD 0 = p.a
      rw [h2]; rfl
  exact this cl key

theorem Ex.defNew (H : Lc c L) {c0 : Addr} (M : Lm c L c0) {name q : Str} {params : Arguments} {body : List Stmt} {scope : Scope} {pos : Pos} {t : Nat} {cs : List Nat} {cl : List (Str × Nat)} (hcq : fd.cq = some (.ref c0, q)) (hN : L.N cs.length = ⟨name, q ++ name, params, .stmts body, scope, pos⟩)
    (ht : σ.os[t]? = some (.x (.tab cs))) (hk : Clo fd scope cl) (hnf : ∀ as : List Addr, as.length = cs.length → codeAmong pos (tabVals L.N 0 as) = Option.none) (hge : fd.scope.names.lookup name ≠ some .globalExplicit) (hd0 : params.defaults = []) (hk0 : params.kw_defaults = []) (ha : ∀ env, annTrees params none env = [])
    (hs : Sto fd name (.ref (σ.os.length + 1)) ⟨σ.vs, σ.os.set t (.x (.tab (cs ++ [σ.os.length]))) ++ [.x (.code cs.length), .x (.fn cs.length cl σ.os.length Option.none)]⟩ σ₁) (hkd : fd.scope.kind = .function := by rfl) :
    Ex c n fd (.FunctionDef name params body [] none [] scope none name pos) σ .next σ₁ := fun env A ρ s rm ii Q E hq => by
  obtain ⟨clos, hc1, hc2⟩ := hk.run ii.fre
  obtain ⟨e1, e2⟩ := ii.fre.cq _ hcq
  refine nestDef_K hd0 hk0 (ha env) ?_
  have hqn : qualnameIn env name name = q ++ name := by
    unfold qualnameIn
    rw [if_neg (by rw [ii.fre.kindOf]; intro e; exact hge (eq_of_beq e)), e2]
  rw [hqn]
  have := mk_new (s := s) (A := A) (fl := pos.line) (E := E) H M (env := env) (cl := cl) (clos := clos) (body := body) ii.rel ht (by rw [hN]) (by rw [hN]; exact hc1) hc2 ii.fre.glob e1 (by rw [hN]; exact hnf)
    (Q := fun v s' => wpAny c.M A (storeName env name v) (fun _ s'' => Q .next s'') E s') fun x h' tk ρ' q' r' hx => ?_
  · rw [hN] at this; exact this
  · have i' : In c fd ⟨σ.vs, _⟩ env ρ' h' := ii.lift q' r'.none
    intro dr; exact hs.run (s := { s with heap := h', toks := tk, drawn := _ }) i' hx hkd _ _ fun _ h₂ tk₂ ρ₂ q₂ i₂ => hq _ h₂ tk₂ ρ₂ ((q'.more (by simp)).trans q₂) ⟨i₂, rfl⟩

theorem Ex.defHit (H : Lc c L) {c0 : Addr} (M : Lm c L c0) {name q : Str} {params : Arguments} {body : List Stmt} {scope : Scope} {pos : Pos} {t j ci : Nat} {cs : List Nat} {cl : List (Str × Nat)} (hcq : fd.cq = some (.ref c0, q)) (hN : L.N j = ⟨name, q ++ name, params, .stmts body, scope, pos⟩)
    (ht : σ.os[t]? = some (.x (.tab cs))) (hj : cs[j]? = some ci) (hk : Clo fd scope cl) (hhit : ∀ (as : List Addr) a, as[j]? = some a → codeAmong pos (tabVals L.N 0 as) = some (.ref a)) (hge : fd.scope.names.lookup name ≠ some .globalExplicit) (hd0 : params.defaults = []) (hk0 : params.kw_defaults = []) (ha : ∀ env, annTrees params none env = [])
    (hs : Sto fd name (.ref σ.os.length) ⟨σ.vs, σ.os ++ [.x (.fn j cl ci Option.none)]⟩ σ₁) (hkd : fd.scope.kind = .function := by rfl) :
    Ex c n fd (.FunctionDef name params body [] none [] scope none name pos) σ .next σ₁ := fun env A ρ s rm ii Q E hq => by
  obtain ⟨clos, hc1, hc2⟩ := hk.run ii.fre
  obtain ⟨e1, e2⟩ := ii.fre.cq _ hcq
  refine nestDef_K hd0 hk0 (ha env) ?_
  have hqn : qualnameIn env name name = q ++ name := by
    unfold qualnameIn
    rw [if_neg (by rw [ii.fre.kindOf]; intro e; exact hge (eq_of_beq e)), e2]
  rw [hqn]
  have := mk_hit (s := s) (A := A) (fl := pos.line) (E := E) H M (env := env) (cl := cl) (clos := clos) (body := body) (j := j) ii.rel ht hj (by rw [hN]) (by rw [hN]; exact hc1) hc2 ii.fre.glob e1 (by rw [hN]; exact hhit)
    (Q := fun v s' => wpAny c.M A (storeName env name v) (fun _ s'' => Q .next s'') E s') fun x h' tk ρ' q' r' hx => ?_
  · rw [hN] at this; exact this
  · have i' : In c fd ⟨σ.vs, _⟩ env ρ' h' := ii.lift q' r'.none
    intro dr; exact hs.run (s := { s with heap := h', toks := tk, drawn := _ }) i' hx hkd _ _ fun _ h₂ tk₂ ρ₂ q₂ i₂ => hq _ h₂ tk₂ ρ₂ ((q'.more (by simp)).trans q₂) ⟨i₂, rfl⟩

theorem Ev.lamNew (H : Lc c L) {c0 : Addr} (M : Lm c L c0) {q : Str} {params : Arguments} {body : Expr} {scope : Scope} {pos : Pos} {t : Nat} {cs : List Nat} {cl : List (Str × Nat)} (hcq : fd.cq = some (.ref c0, q)) (hN : L.N cs.length = ⟨"<lambda>", q ++ "<lambda>", params, .expr body, scope, pos⟩)
    (ht : σ.os[t]? = some (.x (.tab cs))) (hk : Clo fd scope cl) (hnf : ∀ as : List Addr, as.length = cs.length → codeAmong pos (tabVals L.N 0 as) = Option.none) (hdef : ∀ env, defaultsOf params env = ([], [])) :
    Ev c n fd (.Lambda params body scope pos) σ (.ref (σ.os.length + 1)) ⟨σ.vs, σ.os.set t (.x (.tab (cs ++ [σ.os.length]))) ++ [.x (.code cs.length), .x (.fn cs.length cl σ.os.length Option.none)]⟩ := fun env A ρ s rm ii Q E hq => by
  obtain ⟨clos, hc1, hc2⟩ := hk.run ii.fre
  obtain ⟨e1, e2⟩ := ii.fre.cq _ hcq
  refine kla_eval (hdef env) ?_
  rw [e2]
  have := mkL_new (s := s) (A := A) (fl := pos.line) (E := E) H M (env := env) (cl := cl) (clos := clos) (body := body) ii.rel ht (by rw [hN]) (by rw [hN]; exact hc1) hc2 ii.fre.glob e1 (by rw [hN]; exact hnf)
    (Q := Q) fun x h' tk ρ' q' r' hx => hq x h' tk ρ' (q'.more (by simp)) ⟨ii.lift q' r'.none, hx⟩
  rw [hN] at this; exact this
theorem Ev.lamHit (H : Lc c L) {c0 : Addr} (M : Lm c L c0) {q : Str} {params : Arguments} {body : Expr} {scope : Scope} {pos : Pos} {t j ci : Nat} {cs : List Nat} {cl : List (Str × Nat)} (hcq : fd.cq = some (.ref c0, q)) (hN : L.N j = ⟨"<lambda>", q ++ "<lambda>", params, .expr body, scope, pos⟩)
    (ht : σ.os[t]? = some (.x (.tab cs))) (hj : cs[j]? = some ci) (hk : Clo fd scope cl) (hhit : ∀ (as : List Addr) a, as[j]? = some a → codeAmong pos (tabVals L.N 0 as) = some (.ref a)) (hdef : ∀ env, defaultsOf params env = ([], [])) :
    Ev c n fd (.Lambda params body scope pos) σ (.ref σ.os.length) ⟨σ.vs, σ.os ++ [.x (.fn j cl ci Option.none)]⟩ := fun env A ρ s rm ii Q E hq => by
  obtain ⟨clos, hc1, hc2⟩ := hk.run ii.fre
  obtain ⟨e1, e2⟩ := ii.fre.cq _ hcq
  refine kla_eval (hdef env) ?_
  rw [e2]
  have := mkL_hit (s := s) (A := A) (fl := pos.line) (E := E) H M (env := env) (cl := cl) (clos := clos) (body := body) (j := j) ii.rel ht hj (by rw [hN]) (by rw [hN]; exact hc1) hc2 ii.fre.glob e1 (by rw [hN]; exact hhit)
    (Q := Q) fun x h' tk ρ' q' r' hx => hq x h' tk ρ' (q'.more (by simp)) ⟨ii.lift q' r'.none, hx⟩
  rw [hN] at this; exact this
end
end Mine
end

section
open PySem PySem.W PyProof.Rows PyProof.V PySem.Spec PySem.SeqAt Builtin
set_option linter.unusedVariables false
set_option maxRecDepth 100000
namespace Mine

section
variable {c : Cx} {n : Nat} {fd : FD} {σ σ' σ₁ σ₂ σ₃ : S} {X : List Addr} {A : Around} {ρ : List Pl} {s : Shared} {os os' os₁ : List AO} {L : Law} {E : Value → Shared → Prop} {v v' : AV}

theorem CodeR.of_cells {a : Addr} {d : FuncData} {body : List Stmt} {ps cn : List Str} {args : List AV} (D : DefAt c a d body) (hclo : d.closure = [])
    (hcs : ∀ b, cellsFrom b d.scope.names [] = (cellIx cn b).reverse) (hnd : cn.Nodup) (hbind : ∀ xs : List Value, xs.length = args.length → bindArgs d ⟨xs, []⟩ = Pure.pure (ps.zip xs))
    (hps : ∀ x ∈ ps, d.scope.names.lookup x = some .local ∨ (d.scope.names.lookup x = some .cell ∧ x ∈ cn)) (hcn : ∀ x ∈ cn, d.scope.names.lookup x = some .cell)
    (h : Exs c n ⟨d.scope, cellIx cn os.length, some (d.code, d.qualname ++ ".<locals>.")⟩ body ⟨locOf d.scope (ps.zip args), os ++ cellObjs cn (ps.zip args)⟩ (.ret v) σ') (hb : Back os v σ'.os v' os') : CodeR c (n + 1) (.ref a) args os v' os' := fun A ρ s xs R rm r hx hq => by
  obtain ⟨o, ho, hd⟩ := D.there
  refine codeAny_size ?_
  have hlen := hx.length
  have hcell : ∀ (b : Nat) (x : Str), x ∈ cn → ∃ j, cn[j]? = some x ∧ ((cellsFrom b d.scope.names []).lookup x) = some (b + j) := fun b x hx => by
    obtain ⟨j, hj, e⟩ := List.getElem_of_mem hx
    have hj' : cn[j]? = some x := by rw [List.getElem?_eq_getElem hj, e]
    refine ⟨j, hj', ?_⟩
    rw [hcs]
    refine lookup_of_mem ?_ (List.mem_reverse.mpr (cellIx_mem cn b j x hj'))
    rw [List.map_reverse, cellIx_names]; exact (List.reverse_perm cn).nodup_iff.mpr hnd
  refine codeAny_call_cells (binds := ps.zip xs) rm.lt (r.keep _ _ ho) hd (c.nolimit.keeps r.keep) (D.code.keeps r.keep) D.body (hbind xs hlen.symm) hclo (fun x hx' => ?_) (fun s₁ ic => ?_) D.co D.gen D.kind
  · rcases hps x.1 (List.of_mem_zip (a := x.1) (b := x.2) hx').1 with h1 | ⟨h1, h2⟩
    · exact .inl h1
    · obtain ⟨j, _, e⟩ := hcell (s.heap.objs.size + 1) x.1 h2
      exact .inr ⟨h1, by rw [e]; rfl⟩
  obtain ⟨h₀, tk₀, rfl⟩ := ic.toInCall.same
  have hk' := ic.toInCall.keep
  have hns := ic.toInCall.ns
  dsimp only at hk' hns
  have hL : ∀ a o, s.heap.get? a = some o → a < s.heap.objs.size := fun a o e => Heap.lt_size e
  have fresh : ∀ a, s.heap.objs.size ≤ a → c.hb.get? a = Option.none := fun a ha => by
    cases e : c.hb.get? a with
    | none => rfl
    | some o => exact absurd (hL _ _ (r.keep _ _ e)) (Nat.not_lt.mpr ha)
  have cellAt : ∀ j x, cn[j]? = some x → h₀.IsCell (s.heap.objs.size + 1 + j) ((ps.zip xs).reverse.lookup x) := fun j x hj => by
    obtain ⟨j', hj', e⟩ := hcell (s.heap.objs.size + 1) x (List.mem_of_getElem? hj)
    have hjj : j' = j := by
      have h1 := (List.getElem?_eq_some_iff.mp hj')
      have h2 := (List.getElem?_eq_some_iff.mp hj)
      obtain ⟨l1, e1⟩ := h1
      obtain ⟨l2, e2⟩ := h2
      rw [← hnd.idxOf_getElem j' l1, ← hnd.idxOf_getElem j l2, e1, e2]
    subst hjj
    have := ic.cell x _ e
    rw [bindC_eq] at this
    have hkx : (callEnvC d s.heap.objs.size a).kindOf x = some .cell := hcn x (List.mem_of_getElem? hj)
    rw [hkx, if_neg (by intro e; cases e)] at this
    simpa using this
  have hLs : s.heap.objs.size < h₀.objs.size := hns.lt
  have hpl : ∀ a ∈ foot (cellPl cn (s.heap.objs.size + 1)), s.heap.objs.size < a ∧ a < h₀.objs.size := fun a ha => by
    obtain ⟨i, p, hp, hap⟩ := foot_get ha
    have hi : i < cn.length := by have := (List.getElem?_eq_some_iff.mp hp).1; rw [cellPl_length] at this; exact this
    rw [cellPl_get cn _ i _ (List.getElem?_eq_getElem hi)] at hp
    cases hp
    rcases List.mem_cons.mp hap with rfl | hap
    · obtain ⟨o', ho', _⟩ := cellAt i _ (List.getElem?_eq_getElem hi)
      exact ⟨by show s.heap.objs.size < s.heap.objs.size + 1 + i; omega, Heap.lt_size ho'⟩
    · cases hap
  have hkv : KV ρ (ps.zip args).reverse (ps.zip xs).reverse := KV.reverse (KV.zip hx)
  have r0 : Rel c [s.heap.objs.size] (os ++ cellObjs cn (ps.zip args)) (ρ ++ cellPl cn (s.heap.objs.size + 1)) h₀ := by
    have kb : Keeps c.hb h₀ := fun b o e => hk' b o (r.keep b o e)
    refine ⟨?_, ?_, kb, fun a ha => ?_, fun a ha => ?_⟩
    · refine ((r.objs.loc kb fun a _ o e => hk' a o e).mono _).append (ORs.of_get (by simp [cellObjs, cellPl_length]) fun i o p h1 h2 => ?_)
      have hi : i < cn.length := by have := (List.getElem?_eq_some_iff.mp h2).1; rw [cellPl_length] at this; exact this
      rw [cellPl_get cn _ i _ (List.getElem?_eq_getElem hi)] at h2
      cases h2
      unfold cellObjs at h1
      rw [List.getElem?_map, List.getElem?_eq_getElem hi] at h1
      cases h1
      exact ⟨rfl, _, (hkv.lookupO).mono _, cellAt i _ (List.getElem?_eq_getElem hi)⟩
    · rw [foot_append]
      show (s.heap.objs.size :: (foot ρ ++ foot (cellPl cn (s.heap.objs.size + 1)))).Nodup
      refine List.nodup_cons.mpr ⟨fun hm => ?_, List.nodup_append.mpr ⟨by simpa using r.nodup, foot_cellPl_nodup _ _, fun a ha b hb e => ?_⟩⟩
      · rcases List.mem_append.mp hm with hm | hm
        · exact absurd (r.live _ (by simpa using hm)) (Nat.lt_irrefl _)
        · exact absurd (hpl _ hm).1 (Nat.lt_irrefl _)
      · subst e
        exact absurd (Nat.lt_trans (r.live a (by simpa using ha)) (hpl a hb).1) (Nat.lt_irrefl _)
    · rw [foot_append] at ha
      replace ha : a ∈ s.heap.objs.size :: (foot ρ ++ foot (cellPl cn (s.heap.objs.size + 1))) := ha
      rcases List.mem_cons.mp ha with rfl | ha
      · exact fresh _ (Nat.le_refl _)
      · rcases List.mem_append.mp ha with ha | ha
        · exact r.fresh a (by simpa using ha)
        · exact fresh _ (Nat.le_of_lt (hpl a ha).1)
    · rw [foot_append] at ha
      replace ha : a ∈ s.heap.objs.size :: (foot ρ ++ foot (cellPl cn (s.heap.objs.size + 1))) := ha
      rcases List.mem_cons.mp ha with rfl | ha
      · exact hLs
      · rcases List.mem_append.mp ha with ha | ha
        · exact Nat.lt_trans (r.live a (by simpa using ha)) hLs
        · exact (hpl a ha).2
  have i0 : In c ⟨d.scope, cellIx cn os.length, some (d.code, d.qualname ++ ".<locals>.")⟩ ⟨locOf d.scope (ps.zip args), os ++ cellObjs cn (ps.zip args)⟩ (callEnvC d s.heap.objs.size a) (ρ ++ cellPl cn (s.heap.objs.size + 1)) h₀ := by
    refine ⟨r0, rfl, D.glob, D.blt, (fun _ e => by cases e; exact ⟨rfl, rfl⟩), fun x i e => ?_, _, hns, fun x u e => ?_⟩
    · obtain ⟨j, rfl, hj⟩ := cellIx_lookup cn os.length i x e
      refine ⟨⟨s.heap.objs.size + 1 + j, []⟩, ?_, ?_⟩
      · rw [r.objs.length, List.getElem?_append_right (Nat.le_add_right _ _), Nat.add_sub_cancel_left]
        exact cellPl_get cn _ j x hj
      · obtain ⟨j', hj', e'⟩ := hcell (s.heap.objs.size + 1) x (List.mem_of_getElem? hj)
        have hjj : j' = j := by
          obtain ⟨l1, e1⟩ := List.getElem?_eq_some_iff.mp hj'
          obtain ⟨l2, e2⟩ := List.getElem?_eq_some_iff.mp hj
          rw [← hnd.idxOf_getElem j' l1, ← hnd.idxOf_getElem j l2, e1, e2]
        subst hjj
        exact e'
    · obtain ⟨h1, h2⟩ := lookup_filter (f := fun y => d.scope.names.lookup y == some .local) e
      have hkx : (callEnvC d s.heap.objs.size a).kindOf x = some .local := eq_of_beq h1
      obtain ⟨u', h3, h4⟩ := KV.lookup hkv h2
      refine ⟨u', ?_, h4.mono _⟩
      rw [bindL_eq, hkx, if_pos rfl, h3]; rfl
  refine (h (callEnvC d s.heap.objs.size a) _ _ { s with heap := h₀, toks := tk₀, drawn := _ } rm.deeper i0) _ _ fun f h₁ tk₁ ρ₁ q₁ p₁ => ?_
  intro dr
  obtain ⟨i₁, y, rfl, hy⟩ := p₁
  obtain ⟨new, rfl, hnew⟩ := q₁.grow
  have i₁r := i₁.rel.none
  rw [List.append_assoc] at i₁r hy
  have hfoot : ∀ a ∈ foot (cellPl cn (s.heap.objs.size + 1) ++ new), s.heap.objs.size ≤ a := fun a ha => by
    rw [foot_append] at ha
    rcases List.mem_append.mp ha with ha | ha
    · exact Nat.le_of_lt (hpl a ha).1
    · exact Nat.le_trans (Nat.le_of_lt hLs) (hnew a ha)
  obtain ⟨nw, g1, g2, g3⟩ := hb.run (h := s.heap) (X := []) r.objs.length i₁r hy hfoot
  intro sz
  refine hq y h₁ tk₁ (ρ ++ nw) ⟨⟨_, rfl, g3⟩, fun b ob e hb' => ?_, sz⟩ g1 g2
  refine q₁.keep b ob (hk' b ob e) fun hm => ?_
  rw [foot_append] at hm
  replace hm : b ∈ s.heap.objs.size :: (foot ρ ++ foot (cellPl cn (s.heap.objs.size + 1))) := hm
  rcases List.mem_cons.mp hm with rfl | hm
  · exact absurd (hL _ _ e) (Nat.lt_irrefl _)
  · rcases List.mem_append.mp hm with hm | hm
    · exact hb' (by simpa using hm)
    · exact absurd (Nat.lt_trans (hpl b hm).1 (hL _ _ e)) (Nat.lt_irrefl _)

/-- a class called -/
theorem CallR.of_class (H : Lc c L) {fI : Addr} {args : List AV} (hi : findIn c.K (.ref L.C) "__init__" = some (some (.ref fI))) (hf : typeIn c.K (.ref fI) = some (.type "function"))
    (h : CodeR c n (.ref fI) (.ref os.length :: args) (os ++ [.x (.inst [])]) .none os') : CallR c (n + 3) (.ref L.C) args os (.ref os.length) os' := fun A ρ s xs rm r hx => by
  refine Run.wp fun Q E hq => wpAny_call ?_
  obtain ⟨hh, g, d, t, o⟩ := s
  have XK := r.inK
  dsimp only at XK r
  refine make_core (makes_of XK H.mks) (looks_findIn XK hi) (fun self => bind_fn XK self hf) (.inl rfl) ?_
  have keep : Keeps hh ((hh.push emptyDict).push (instObj L.C hh.objs.size)) := fun b o e => Heap.get?_push_of_some _ (Heap.get?_push_of_some _ e)
  have hd0 : ((hh.push emptyDict).push (instObj L.C hh.objs.size)).get? hh.objs.size = some emptyDict := Heap.get?_push_of_some _ (Heap.get?_push_size _ rfl)
  have hx0 : ((hh.push emptyDict).push (instObj L.C hh.objs.size)).get? (hh.objs.size + 1) = some (instObj L.C hh.objs.size) := by
    have := Heap.get?_push_size (h := hh.push emptyDict) (o := instObj L.C hh.objs.size) rfl
    rwa [Heap.size_push] at this
  have hn0 : ((hh.push emptyDict).push (instObj L.C hh.objs.size)).Ns hh.objs.size (fun _ => Option.none) := ⟨_, #[], _, hd0, rfl, fun e he => absurd he (by simp), fun _ => rfl⟩
  have r1 : Rel c [] (os ++ [.x (.inst [])]) (ρ ++ [⟨hh.objs.size + 1, [hh.objs.size]⟩]) ((hh.push emptyDict).push (instObj L.C hh.objs.size)) := by
    refine r.grow0 keep (by simp only [Heap.size_push]; omega) (fun a ha => ?_) ?_ ⟨?_, trivial⟩
    · simp only [Heap.size_push]
      rcases List.mem_cons.mp (show a ∈ [hh.objs.size + 1, hh.objs.size] from ha) with rfl | ha
      · exact ⟨Nat.le_succ _, Nat.lt_succ_self _⟩
      · rcases List.mem_cons.mp ha with rfl | ha
        · exact ⟨Nat.le_refl _, Nat.lt_succ_of_lt (Nat.lt_succ_self _)⟩
        · cases ha
    · show [hh.objs.size + 1, hh.objs.size].Nodup
      simp only [List.nodup_cons, List.mem_cons, List.not_mem_nil, or_false, not_false_eq_true, List.nodup_nil, and_true]
      exact fun e => absurd e (Nat.succ_ne_self _)
    · show c.XR _ _ _ _
      rw [H.xr]
      exact ⟨hh.objs.size, _, rfl, ⟨hx0, Heap.Ns1.of_empty hn0⟩, fun _ => trivial, fun _ h => nomatch h⟩
  have hv : VR (ρ ++ [⟨hh.objs.size + 1, [hh.objs.size]⟩]) (.ref os.length) (.ref (hh.objs.size + 1)) := ⟨⟨hh.objs.size + 1, [hh.objs.size]⟩, by rw [r.objs.length]; simp, rfl⟩
  refine h (A.under _) _ _ (.ref (hh.objs.size + 1) :: xs) _ ⟨rm.handled, ?_, ?_⟩ r1 ⟨hv, hx.mono _⟩ fun y h' tk' ρ' q r' hy => ?_
  · have := rm.depth
    have hw : (Code.builtin "type.__call__" ⟨.ref L.C :: xs, []⟩).weight ≤ 2 := by first | exact Nat.le_of_ble_eq_true rfl | decide +kernel
    show A.depth + (Code.builtin "type.__call__" ⟨.ref L.C :: xs, []⟩).weight + n < _; omega
  · have := rm.units
    have hc : (Code.builtin "type.__call__" ⟨.ref L.C :: xs, []⟩).cUnits ≤ 20 := by first | exact Nat.le_of_ble_eq_true rfl | decide +kernel
    show A.units + (Code.builtin "type.__call__" ⟨.ref L.C :: xs, []⟩).cUnits + 20 * n + 100 < _; omega
  · cases hy
    refine ⟨rfl, ?_⟩
    obtain ⟨new, rfl, hnew⟩ := q.grow
    refine hq _ h' tk' _ fun sz => ⟨⟨⟨[⟨hh.objs.size + 1, [hh.objs.size]⟩] ++ new, by rw [List.append_assoc], fun a ha => ?_⟩, fun b o e hb => ?_, sz⟩, r', hv.mono _⟩
    · rw [foot_append] at ha
      rcases List.mem_append.mp ha with ha | ha
      · rcases List.mem_cons.mp (show a ∈ [hh.objs.size + 1, hh.objs.size] from ha) with rfl | ha
        · exact Nat.le_succ _
        · rcases List.mem_cons.mp ha with rfl | ha
          · exact Nat.le_refl _
          · cases ha
      · refine Nat.le_trans ?_ (hnew a ha)
        simp only [Heap.size_push]; exact Nat.le_succ_of_le (Nat.le_succ _)
    · refine q.keep b o (keep b o e) fun hm => ?_
      rw [List.nil_append, foot_append] at hm
      rcases List.mem_append.mp hm with hm | hm
      · exact hb (by simpa using hm)
      · have := Heap.lt_size e
        rcases List.mem_cons.mp (show b ∈ [hh.objs.size + 1, hh.objs.size] from hm) with rfl | hm
        · exact absurd this (Nat.not_lt.mpr (Nat.le_succ _))
        · rcases List.mem_cons.mp hm with rfl | hm
          · exact absurd this (Nat.lt_irrefl _)
          · cases hm

/-- an item stored -/
theorem setItem_ll {A : Around} {E : Value → Shared → Prop} {s : Shared} {l : Addr} {items : Array Value} {k : Int} {t : Tok} {v : Value} {Q : Unit → Shared → Prop} (hl : LL s.heap l items) (h0 : 0 ≤ k) (hfit : k < 2 ^ 63) (hn : k < items.size)
    (hQ : ∀ h', LL h' l (items.setIfInBounds k.toNat v) → Heap.SameBut l s.heap h' → Q () { s with heap := h' }) : wpAny c.M A (setItem (.ref l) (.int k t) v) Q E s := by
  obtain ⟨n, ho⟩ := id hl
  have hil := hl.isList
  unfold setItem
  try with_reducible refine wpAny_holding ?_
  first | refine wpAny_bind (wpAny_pure ?_) | skip
  refine wpAny_bind (wpAny_sequenceKey hil.typeIs (by decide) ?_)
  refine wpAny_bind (wpAny_callSpecial?_slot (name := Str.ofString "__setitem__") hil.typeIs slot_list_setitem
    (wpAny_call_entry slot_list_setitem hil.typeIs entry_list_setitem ?_ (args_list_setitem _ _ _)))
  show wpAny _ _ (Builtin.List.listSubscript? (.int k t) >>= _) _ _ s
  refine wpAny_bind (wpAny_listSubscript_int (fitsIndex_of h0 hfit) ?_)
  clear hfit
  obtain ⟨j, rfl⟩ := Int.eq_ofNat_of_zero_le h0
  have hj : j < items.size := by omega
  have hx' : items[j]? = some items[j] := Array.getElem?_eq_getElem hj
  show wpAny _ _ ((seqItemAt l j >>= fun r => pure (r.map (j, ·))) >>= _) _ _ s
  refine wpAny_bind (wpAny_bind (wpAny_seqItemAt ho rfl (wpAny_pure ?_)))
  rw [hx']
  show wpAny _ _ (setSeqItemAt l j v >>= _) _ _ s
  have hfin : LL (s.heap.update l (Obj.mapSeq (·.setIfInBounds j v))) l (items.setIfInBounds j v) := ⟨_, Heap.get?_update_self _ ho rfl⟩
  refine wpAny_bind (wpAny_setSeqItemAt ho rfl ?_)
  first
    | exact wpAny_bind (wpAny_pure (wpAny_pure ⟨.none, rfl, wpAny_pure (hQ _ hfin (Heap.SameBut.update ..))⟩))
    | exact wpAny_pure ⟨.none, rfl, wpAny_pure (hQ _ hfin (Heap.SameBut.update ..))⟩

theorem VRs.set {x : AV} {y : Value} (h : VR ρ x y) : ∀ {j : Nat} {xs : List AV} {vs : List Value}, VRs ρ xs vs → VRs ρ (xs.set j x) (vs.set j y)
  | _, [], [], _ => trivial
  | 0, _ :: _, _ :: _, h' => ⟨h, h'.2⟩
  | _ + 1, _ :: _, _ :: _, h' => ⟨h'.1, VRs.set h h'.2⟩

/-- o[i] = e -/
theorem Ex.setSub {o i value : Expr} {pos' pos : Pos} {k j : Nat} {xs : List AV} {v : AV} (h1 : Ev c n fd value σ v σ₁) (h2 : Ev c n fd o σ₁ (.ref k) σ₂) (h3 : Ev c n fd i σ₂ (.int (j : Int)) σ₃) (ho : σ₃.os[k]? = some (.list xs)) (hj : j < xs.length) (hf : j < 2 ^ 63)
    (hs : ∀ env, swapsWith value (some (.Subscript o i pos')) pos.line env = Pure.pure false) (hi : ∀ w x y : Value, (match i with | .Slice _ _ none _ => [w, x, y] | _ => [x, y, w]) = [x, y, w]) :
    Ex c n fd (.Assign [.Subscript o i pos'] value pos) σ .next ⟨σ₃.vs, σ₃.os.set k (.list (xs.set j v))⟩ := fun env A ρ s rm ii => by
  rw [exec_Assign_Subscript o i pos' value pos (hs env)]
  refine Run.stand (Run.bind (h1 env A ρ s rm ii) fun x h₁ tk₁ ρ₁ q₁ p₁ => ?_)
  refine Run.bind (P := fun ρ' h' _ => In c fd ⟨σ₃.vs, σ₃.os.set k (.list (xs.set j v))⟩ env ρ' h') ?_ fun _ h₂ tk₂ ρ₂ q₂ p₂ => Run.pure ⟨p₂, rfl⟩
  rw [assign_Subscript]
  refine Run.bind (Run.holding (h2 env A ρ₁ _ rm p₁.1)) fun y h₂ tk₂ ρ₂ q₂ p₂ => ?_
  refine Run.bind (Run.holding (h3 env A ρ₂ _ rm p₂.1)) fun z h₃ tk₃ ρ₃ q₃ p₃ => Run.stand ?_
  refine Run.bind (P := fun ρ' h' _ => In c fd ⟨σ₃.vs, σ₃.os.set k (.list (xs.set j v))⟩ env ρ' h') (Run.holding ?_) fun _ h₄ tk₄ ρ₄ q₄ p₄ => Run.release p₄
  obtain ⟨i₃, t, rfl⟩ := p₃
  have hv : VR ρ₃ v x := (p₁.2.reach q₂).reach q₃
  obtain ⟨p, vs, hp, hm, rfl, hvs, hl⟩ := i₃.rel.list ho (p₂.2.reach q₃)
  intro Q E hq
  refine setItem_ll (s := { s with heap := h₃, toks := tk₃, drawn := _ }) hl (by omega) (by omega) (by rw [List.size_toArray, ← hvs.length]; omega) fun h' hl' hs' => ?_
  refine hq () h' tk₃ ρ₃ ((Reach.set hp hs').more (by simp)) (i₃.lift (Reach.set hp hs') (i₃.rel.none.setList hp hm (vs := vs.set j x) ?_ hs' (VRs.set hv hvs)))
  simpa using hl'

/-- o.read = e, o a function -/
theorem Ex.setRead (H : Lc c L) {o value : Expr} {pos' pos : Pos} {i j t q : Nat} {cl : List (Str × Nat)} (h1 : Ev c n fd value σ (.ref q) σ₁) (h2 : Ev c n fd o σ₁ (.ref i) σ₂) (ho : σ₂.os[i]? = some (.x (.fn j cl t Option.none)))
    (hs : ∀ env, swapsWith value (some (.Attribute o "read" pos')) pos.line env = Pure.pure false) : Ex c n fd (.Assign [.Attribute o "read" pos'] value pos) σ .next ⟨σ₂.vs, σ₂.os.set i (.x (.fn j cl t (some σ₂.os.length))) ++ [.x (.rdict q)]⟩ := fun env A ρ s rm ii => by
  rw [plainObj_exec_Assign_Attribute o "read" pos' value pos (hs env)]
  refine Run.stand (Run.bind (h1 env A ρ s rm ii) fun x h₁ tk₁ ρ₁ q₁ p₁ => ?_)
  refine Run.bind (P := fun ρ' h' _ => In c fd ⟨σ₂.vs, σ₂.os.set i (.x (.fn j cl t (some σ₂.os.length))) ++ [.x (.rdict q)]⟩ env ρ' h') ?_ fun _ h₂ tk₂ ρ₂ q₂ p₂ => Run.pure ⟨p₂, rfl⟩
  rw [assign_Attribute]
  refine Run.bind (Run.holding (h2 env A ρ₁ _ rm p₁.1)) fun y h₂ tk₂ ρ₂ q₂ p₂ => Run.stand ?_
  refine Run.bind (P := fun ρ' h' _ => In c fd ⟨σ₂.vs, σ₂.os.set i (.x (.fn j cl t (some σ₂.os.length))) ++ [.x (.rdict q)]⟩ env ρ' h') (Run.holding ?_) fun _ h₃ tk₃ ρ₃ q₃ p₃ => Run.release p₃
  obtain ⟨i₂, p, hp, rfl⟩ := p₂
  obtain ⟨pq, hpq, rfl⟩ := p₁.2.reach q₂
  obtain ⟨p', hp', hx⟩ := i₂.rel.objs.get ho
  rw [hp] at hp'; cases hp'
  have hx : XRof L (.fn j cl t Option.none) ρ₂ p h₂ := H.xr ▸ hx
  obtain ⟨pt, doc, pm, ctv, clos, g1, g3, g4, g5⟩ := hx
  have r := i₂.rel.none
  intro Q E hq
  refine fn_set (s := { s with heap := h₂, toks := tk₂, drawn := _ }) g5 fun h' tk hk hf hns hsz => ?_
  have keep : ∀ a ob, h₂.get? a = some ob → a ∉ p.a :: p.more → h'.get? a = some ob := fun a ob e ha => hk a ob (fun e' => ha (by rw [e']; exact List.mem_cons_self)) e
  have sz : h₂.objs.size ≤ h'.objs.size := by rw [show h'.objs.size = h₂.objs.size + 1 from hsz]; exact Nat.le_succ _
  have hfo : ∀ a ∈ foot [⟨h₂.objs.size, []⟩], h₂.objs.size ≤ a ∧ a < h'.objs.size := fun a ha => by
    rcases List.mem_cons.mp (show a ∈ [h₂.objs.size] from ha) with rfl | ha
    · exact ⟨Nat.le_refl _, by rw [show h'.objs.size = h₂.objs.size + 1 from hsz]; exact Nat.lt_succ_self _⟩
    · cases ha
  have hlen := r.objs.length
  have hnew : (ρ₂ ++ [⟨h₂.objs.size, []⟩])[σ₂.os.length]? = some ⟨h₂.objs.size, []⟩ := by rw [hlen]; simp
  have q' : Reach [] ρ₂ h₂ (ρ₂ ++ [⟨h₂.objs.size, []⟩]) h' := Reach.grown hp keep sz hfo
  refine hq () h' tk _ (q'.more (by simp)) (i₂.lift q' (r.grow hp keep sz hfo (by simp [foot]) ?_ ⟨?_, trivial⟩))
  · show c.XR _ _ _ _
    rw [H.xr]
    refine ⟨pt, doc, pm, ctv, clos, getElem?_mono g1, ?_, ⟨h₂.objs.size, []⟩, g4, hnew, hf⟩
    have := g3.ren (f := fun i => i) (ρ' := ρ₂ ++ [⟨h₂.objs.size, []⟩]) fun i _ q hq => getElem?_mono hq
    simpa using this
  · show c.XR _ _ _ _
    rw [H.xr]
    exact ⟨pq, rfl, getElem?_mono hpq, hns⟩

theorem fdiv_i {a b : Int} (hb : b ≠ 0) (hs : b.natAbs < 1073741824) : Op2 c n (binaryOp .FloorDiv) (.int a) (.int b) os (.int (a.fdiv b)) os :=
  Op2.pure fun _ _ _ _ _ _ _ _ hx hy hq => by obtain ⟨t, rfl⟩ := hx; obtain ⟨u, rfl⟩ := hy; exact PyProof.Rows.floordiv_int hb (hq _ _ ⟨_, rfl⟩) (Or.inl (PyProof.noPylong_small hs))
end
end Mine
end

section
open PySem PySem.W PyProof.Rows PyProof.V PySem.Spec PySem.SeqAt Builtin
set_option linter.unusedVariables false
set_option maxRecDepth 100000
namespace Mine

section
variable {c : Cx} {n : Nat} {fd : FD} {σ σ' σ₁ σ₂ σ₃ : S} {X : List Addr} {A : Around} {ρ ρ₁ : List Pl} {s : Shared} {os os' os₁ os₂ : List AO} {L : Law} {E : Value → Shared → Prop} {v v' : AV}

theorem VR.cut {a b : List Pl} {x : AV} {v : Value} (h : VR (a ++ b) x v) (hx : ∀ i ∈ x.refs, i < a.length) : VR a x v :=
  h.ext fun i hi p hp => by rwa [List.getElem?_append_left (hx i hi)] at hp

theorem Reach.cut {b : List Pl} {h h' : Heap} (q : Reach X ρ h (ρ ++ b) h') : Reach X ρ h ρ h' := ⟨⟨[], by simp, by simp [foot]⟩, q.keep, q.size⟩

/-- of what was made, nothing is left -/
theorem In.cut {vs : List (Str × AV)} {os' js : List AO} {env : Env} {ρ new : List Pl} {h : Heap} (i : In c fd ⟨vs, os' ++ js⟩ env (ρ ++ new) h) (hl : os'.length = ρ.length) (hc : ∀ o ∈ os', ∀ i ∈ o.refs, i < ρ.length) (hv : ∀ x v, vs.lookup x = some v → ∀ i ∈ v.refs, i < ρ.length)
    (hcl : ∀ x i, fd.cells.lookup x = some i → i < ρ.length) : In c fd ⟨vs, os'⟩ env ρ h := by
  refine ⟨i.rel.cut hl hc, i.fre.scope, i.fre.glob, i.fre.blt, i.fre.cq, fun x k e => ?_, ?_⟩
  · obtain ⟨p, h1, h2⟩ := i.fre.cells x k e
    exact ⟨p, by rwa [List.getElem?_append_left (hcl x k e)] at h1, h2⟩
  · obtain ⟨m, hn, hm⟩ := i.fre.ns
    refine ⟨m, hn, fun x v e => ?_⟩
    obtain ⟨v', h1, h2⟩ := hm x v e
    exact ⟨v', h1, h2.cut (hv x v e)⟩

theorem In.cellsLt {env : Env} {h : Heap} (i : In c fd σ env ρ h) : ∀ x k, fd.cells.lookup x = some k → k < ρ.length := fun x k e => by
  obtain ⟨p, h1, _⟩ := i.fre.cells x k e
  exact (List.getElem?_eq_some_iff.mp h1).1
theorem In.vsLt {env : Env} {h : Heap} (i : In c fd σ env ρ h) : ∀ x v, σ.vs.lookup x = some v → ∀ k ∈ v.refs, k < ρ.length := fun x v e => by
  obtain ⟨m, hn, hm⟩ := i.fre.ns
  obtain ⟨v', h1, h2⟩ := hm x v e
  exact h2.lt

noncomputable def AF.refs : AF → List Nat
  | .ret v => v.refs
  | _ => []

theorem Exs.cut {sts : List Stmt} {f : AF} {vs' : List (Str × AV)} {js : List AO} (go : Exs c n fd sts σ f ⟨vs', os' ++ js⟩) (hl : os'.length = σ.os.length) (hc : ∀ o ∈ os', ∀ i ∈ o.refs, i < os'.length) (hv : ∀ q ∈ vs', ∀ i ∈ q.2.refs, i < os'.length) (hf : ∀ i ∈ f.refs, i < os'.length) : Exs c n fd sts σ f ⟨vs', os'⟩ := fun env A ρ s rm i Q E hq => by
  refine go env A ρ s rm i Q E fun x h' tk' ρ' q p => ?_
  intro dr
  obtain ⟨new, rfl, hfr⟩ := q.grow
  have hlen : os'.length = ρ.length := hl.trans i.rel.objs.length
  refine hq x h' tk' ρ q.cut ⟨p.1.cut hlen (fun o ho k hk => hlen ▸ hc o ho k hk) (fun y v e k hk => hlen ▸ hv (y, v) (mem_of_lookup' e) k hk) i.cellsLt, ?_⟩
  have p2 := p.2
  cases f with
  | ret v => obtain ⟨z, rfl, hz⟩ := p2; exact ⟨z, rfl, hz.cut fun k hk => hlen ▸ hf k hk⟩
  | _ => exact p2

/-- objects chosen -/
theorem Rel.sel {h : Heap} {π : List Nat} (r : Rel c X os₁ ρ₁ h) (nd : π.Nodup) (hd : Held (out π os₁.length) os₁ π os₂) (hc : ∀ o ∈ os₂, ∀ i ∈ o.refs, i < os₂.length) : Rel c X os₂ (plc ρ₁ π) h := by
  have hlen := r.objs.length
  have hπl := hd.length
  have hlt : ∀ i ∈ π, i < ρ₁.length := fun i hi => hlen ▸ hd.lt i hi
  have o2i : ∀ j p, ρ₁[out π os₁.length j]? = some p → (plc ρ₁ π)[j]? = some p := fun j p e => by
    unfold out at e
    by_cases hj : j < π.length
    · rw [if_pos hj] at e
      have : π[j]? = some (π.getD j 0) := by rw [List.getD_eq_getElem?_getD, List.getElem?_eq_getElem hj]; rfl
      exact plc_get this e
    · rw [if_neg hj, hlen] at e
      have := (List.getElem?_eq_some_iff.mp e).1
      omega
  let g : Nat → Nat := fun i => π.idxOf i
  have hg : ∀ j, j < π.length → g (out π os₁.length j) = j := fun j hj => by
    show π.idxOf (out π os₁.length j) = j
    unfold out
    rw [if_pos hj, List.getD_eq_getElem?_getD, List.getElem?_eq_getElem hj]
    exact nd.idxOf_getElem j hj
  have nd0 := (List.nodup_append.mp r.nodup)
  refine ⟨ORs.of_get (by rw [plc_length, hπl]) fun j o p h1 h2 => ?_, ?_, r.keep, fun a ha => ?_, fun a ha => ?_⟩
  · obtain ⟨i, h3, h4⟩ := hd.get h1
    obtain ⟨q, h5, h6⟩ := r.objs.get h4
    have h7 := plc_get h3 h5
    rw [h2] at h7; cases h7
    refine h6.unren (g := g) (fun k hk => hg k ?_) fun k hk p hp => o2i k p hp
    have := hc o (List.mem_of_getElem? h1) k hk
    omega
  · refine List.nodup_append.mpr ⟨nd0.1, plc_nodup nd0.2.1 nd hlt, fun a ha b hb e => ?_⟩
    exact nd0.2.2 a ha b (plc_sub hlt hb) e
  · rcases List.mem_append.mp ha with ha | ha
    · exact r.fresh a (List.mem_append_left _ ha)
    · exact r.fresh a (List.mem_append_right _ (plc_sub hlt ha))
  · rcases List.mem_append.mp ha with ha | ha
    · exact r.live a (List.mem_append_left _ ha)
    · exact r.live a (List.mem_append_right _ (plc_sub hlt ha))

theorem plc_append (ρ : List Pl) : ∀ (a b : List Nat), plc ρ (a ++ b) = plc ρ a ++ plc ρ b
  | [], _ => rfl
  | _ :: a, b => congrArg (_ :: ·) (plc_append ρ a b)
theorem plc_range (ρ new : List Pl) : plc (ρ ++ new) (List.range ρ.length) = ρ := by
  apply List.ext_getElem?
  intro i
  by_cases hi : i < ρ.length
  · rw [plc_get (i := i) (by rw [List.getElem?_range hi]) (List.getElem?_append_left hi ▸ List.getElem?_eq_getElem hi), List.getElem?_eq_getElem hi]
  · rw [List.getElem?_eq_none (by rw [plc_length, List.length_range]; omega), List.getElem?_eq_none (by omega)]

noncomputable def AF.ren (r : Nat → Nat) : AF → AF
  | .ret v => .ret (v.ren r)
  | f => f
noncomputable def SubR (r : Nat → Nat) : List (Str × AV) → List (Str × AV) → Prop
  | [], _ => True
  | (x, v) :: t, vs => vs.lookup x = some (v.ren r) ∧ (∀ i ∈ v.refs, True) ∧ SubR r t vs
theorem SubR.lookup {r : Nat → Nat} {vs' : List (Str × AV)} : ∀ {vs : List (Str × AV)}, SubR r vs vs' → ∀ {x : Str} {v : AV}, vs.lookup x = some v → vs'.lookup x = some (v.ren r)
  | [], _, _, _, e => by cases e
  | (y, w) :: t, h, x, v, e => by
    rw [List.lookup_cons] at e
    cases hy : x == y with
    | true => rw [hy] at e; cases e; obtain rfl := eq_of_beq hy; exact h.1
    | false => rw [hy] at e; exact h.2.2.lookup e

theorem VR.unout {π : List Nat} {m : Nat} {x : AV} {v : Value} (hm : m = ρ₁.length) (h : VR ρ₁ (x.ren (out π m)) v) : VR (plc ρ₁ π) x v := by
  refine h.unren fun j p e => ?_
  unfold out at e
  by_cases hj : j < π.length
  · rw [if_pos hj] at e
    have : π[j]? = some (π.getD j 0) := by rw [List.getD_eq_getElem?_getD, List.getElem?_eq_getElem hj]; rfl
    exact plc_get this e
  · rw [if_neg hj, hm] at e
    have := (List.getElem?_eq_some_iff.mp e).1
    omega

theorem Exs.sel {sts : List Stmt} {f f' : AF} {vs' vs'' : List (Str × AV)} (m : Nat) (π' : List Nat) (go : Exs c n fd sts σ f ⟨vs', os₁⟩) (hm : σ.os.length = m) (nd : (List.range m ++ π').Nodup) (hd : Held (Mine.out (List.range m ++ π') os₁.length) os₁ (List.range m ++ π') os₂)
    (hc : ∀ o ∈ os₂, ∀ i ∈ o.refs, i < os₂.length) (hv : SubR (Mine.out (List.range m ++ π') os₁.length) vs'' vs') (hf : f = f'.ren (Mine.out (List.range m ++ π') os₁.length)) : Exs c n fd sts σ f' ⟨vs'', os₂⟩ := fun env A ρ s rm i Q E hq => by
  refine go env A ρ s rm i Q E fun x h' tk' ρ' q p => ?_
  intro dr
  obtain ⟨new, rfl, hfr⟩ := q.grow
  have hlen : m = ρ.length := hm.symm.trans i.rel.objs.length
  have hlen' := p.1.rel.objs.length
  dsimp only at hlen'
  have hpl : plc (ρ ++ new) (List.range m ++ π') = ρ ++ plc (ρ ++ new) π' := by rw [plc_append, hlen, plc_range]
  have hlt : ∀ i ∈ List.range m ++ π', i < (ρ ++ new).length := fun i hi => hlen' ▸ hd.lt i hi
  have r' := p.1.rel.sel nd hd hc
  rw [hpl] at r'
  have q' : Reach [env.locals] ρ s.heap (ρ ++ plc (ρ ++ new) π') h' := by
    refine ⟨⟨_, rfl, fun a ha => ?_⟩, q.keep, q.size⟩
    obtain ⟨j, pp, h1, h2⟩ := foot_get ha
    obtain ⟨k, h3, h4⟩ := plc_get' (fun i hi => hlt i (List.mem_append_right _ hi)) h1
    have hk : ¬ k < ρ.length := fun hk => (List.nodup_append.mp nd).2.2 k (List.mem_range.mpr (hlen ▸ hk)) k (List.mem_of_getElem? h3) rfl
    rw [List.getElem?_append_right (by omega)] at h4
    exact hfr a (foot_mem_of_get h4 a h2)
  refine hq x h' tk' _ q' ⟨⟨r', p.1.fre.scope, p.1.fre.glob, p.1.fre.blt, p.1.fre.cq, fun y k e => ?_, ?_⟩, ?_⟩
  · obtain ⟨pp, h1, h2⟩ := i.fre.cells y k e
    exact ⟨pp, getElem?_mono h1, h2⟩
  · obtain ⟨mm, hn, hmm⟩ := p.1.fre.ns
    refine ⟨mm, hn, fun y v e => ?_⟩
    obtain ⟨v', h1, h2⟩ := hmm y _ (hv.lookup e)
    refine ⟨v', h1, ?_⟩
    rw [← hpl]; exact h2.unout hlen'
  · have p2 := p.2
    subst hf
    cases f' with
    | ret v =>
      obtain ⟨z, rfl, hz⟩ := p2
      refine ⟨z, rfl, ?_⟩
      rw [← hpl]; exact hz.unout hlen'
    | _ => exact p2
end
end Mine
end

section
open PySem PySem.W PyProof.Rows PyProof.V PySem.Spec PySem.SeqAt
set_option linter.unusedVariables false
namespace Mine

section
variable {c : Cx} {n : Nat}
noncomputable def fdivv (a b : AV) (os : List AO) : Option (AV × List AO × Prop) := match a with
  | .int i => (match b with | .int j => some (.int (i.fdiv j), os, j ≠ 0 ∧ j.natAbs < 1073741824) | _ => none)
  | _ => none
noncomputable def isFD : Operator → Bool
  | .FloorDiv => true
  | _ => false
theorem isFD_ok {op : Operator} (h : isFD op = true) : op = .FloorDiv := by
  cases op <;> first | rfl | cases h
noncomputable def autoBin2 (op : Operator) (a b : AV) (os : List AO) : Option (AV × List AO × Prop) := match isFD op with
  | true => fdivv a b os
  | false => autoBin op a b os
theorem autoBin2_ok (op : Operator) (a b : AV) (os : List AO) : OkR (autoBin2 op a b os) (Op2 c n (binaryOp op) a b os) := by
  unfold autoBin2
  cases h : isFD op with
  | false => exact autoBin_ok op a b os
  | true =>
    rw [isFD_ok h]
    cases a with
    | int i => cases b with
      | int j => exact fun hφ => fdiv_i hφ.1 hφ.2
      | _ => exact True.intro
    | _ => exact True.intro

noncomputable def strOf : AV → Option Str
  | .str x => some x
  | _ => none
theorem strOf_ok (a : AV) : OkO (strOf a) fun x => a = .str x := by
  cases a with
  | str x => exact rfl
  | _ => exact True.intro
noncomputable def autoItem2 (a b : AV) (os : List AO) : Option (AV × List AO × Prop) := match strOf a with
  | some x => (toInt b).bind fun i => ((seqIndex? i x.length).bind (x.cps[·]?)).bind fun ch => some (.str ⟨#[ch]⟩, os, (decide (i < -(2 ^ 63 : Int)) || decide (i ≥ 2 ^ 63)) = false)
  | none => autoItem a b os
theorem autoItem2_ok (a b : AV) (os : List AO) : OkR (autoItem2 a b os) (Op2 c n getItem a b os) := by
  unfold autoItem2
  cases h : strOf a with
  | none => exact autoItem_ok a b os
  | some x =>
    obtain rfl := (strOf_ok a).get h
    exact OkR.bind fun i hi => OkR.bind fun ch h1 hφ => (toInt_ok b).get hi ▸ item_s hφ h1

noncomputable def instOf : Option AO → Option (List (Str × AV))
  | none => none
  | some o => match o with
    | .x k => (match k with | .inst m => some m | _ => none)
    | _ => none
theorem instOf_ok {o : Option AO} {m : List (Str × AV)} (h : instOf o = some m) : o = some (.x (.inst m)) := by
  cases o with
  | none => cases h
  | some o => cases o with
    | x k => cases k with
      | inst m => cases h; rfl
      | _ => cases h
    | _ => cases h
noncomputable def rdOf : Option AO → Option Nat
  | none => none
  | some o => match o with
    | .x k => (match k with | .fn _ _ _ t => t | _ => none)
    | _ => none
noncomputable def rdictOf : Option AO → Option Nat
  | none => none
  | some o => match o with
    | .x k => (match k with | .rdict q => some q | _ => none)
    | _ => none
inductive MC where
  | bi (f : Value) | me (f : Addr) | rd (q : Nat)
noncomputable def mcO (Mt : List (Str × Addr)) (a : AV) (name : Str) (os : List AO) (o : Option AO) : Option MC := match instOf o with
  | some m => (match m.lookup name with | none => (Mt.lookup name).map .me | some _ => none)
  | none => (match rdOf o with
    | some e => (rdictOf os[e]?).map .rd
    | none => (autoMth a name os).map .bi)
noncomputable def mcOf (Mt : List (Str × Addr)) (a : AV) (name : Str) (os : List AO) : Option MC := match a with
  | .ref i => mcO Mt a name os os[i]?
  | a => (autoMth a name os).map .bi

noncomputable def attrOf (a : AV) (name : Str) (os : List AO) : Option AV := match a with
  | .ref i => (instOf os[i]?).bind fun m => m.lookup name
  | _ => none

noncomputable def ifv (z : Bool) (a b : AV) : Option AV := match a with
  | .str x => (match b with | .str y => some (.str (bif z then x else y)) | _ => none)
  | .int x => (match b with | .int y => some (.int (bif z then x else y)) | _ => none)
  | _ => none
theorem ifv_ok (z : Bool) (a b : AV) : OkO (ifv z a b) fun v => v = bif z then a else b := by
  cases a with
  | str x => cases b with
    | str y => cases z <;> exact rfl
    | _ => exact True.intro
  | int x => cases b with
    | int y => cases z <;> exact rfl
    | _ => exact True.intro
  | _ => exact True.intro
noncomputable def toBool : AV → Option Bool
  | .bool b => some b
  | _ => none
theorem toBool_ok (a : AV) : OkO (toBool a) fun b => a = .bool b := by
  cases a with
  | bool j => exact rfl
  | _ => exact True.intro
noncomputable def litOf : AV → Option Value
  | .lit f => some f
  | _ => none
theorem litOf_ok (a : AV) : OkO (litOf a) fun f => a = .lit f := by
  cases a with
  | lit f => exact rfl
  | _ => exact True.intro
noncomputable def one {α : Type} (l : List α) : Option α := match l with
  | [] => none
  | a :: l => match l with | [] => some a | _ :: _ => none
theorem one_ok {α : Type} (l : List α) : OkO (one l) fun a => l = [a] := by
  cases l with
  | nil => exact True.intro
  | cons a l => cases l with
    | nil => exact rfl
    | cons b l => exact True.intro
noncomputable def asName : Expr → Option Str
  | .Name x _ => some x
  | _ => none
theorem asName_ok (e : Expr) : OkO (asName e) fun x => ∃ p, e = .Name x p := by
  cases e with
  | Name x p => exact ⟨p, rfl⟩
  | _ => exact True.intro
noncomputable def asCmp : Expr → Option (Expr × CmpOp × Expr)
  | .Compare l ops rs _ => (one ops).bind fun op => (one rs).bind fun r => some (l, op, r)
  | _ => none
theorem OkO.bind {α β : Type} {o : Option α} {f : α → Option β} {P : α → Prop} {Q : β → Prop} (ho : OkO o P) (h : ∀ x, P x → OkO (f x) Q) : OkO (o.bind f) Q := by
  cases o with
  | none => exact True.intro
  | some x => exact h x ho
theorem asCmp_ok (e : Expr) : OkO (asCmp e) fun q => ∃ p, e = .Compare q.1 [q.2.1] [q.2.2] p := by
  cases e with
  | Compare l ops rs p => exact OkO.bind (one_ok ops) fun op h1 => OkO.bind (one_ok rs) fun r h2 => ⟨p, h1 ▸ h2 ▸ rfl⟩
  | _ => exact True.intro
noncomputable def asSlice : Expr → Option (Option Expr × Option Expr × Option Expr)
  | .Slice lo hi step _ => some (lo, hi, step)
  | _ => none
theorem asSlice_ok (e : Expr) : OkO (asSlice e) fun q => ∃ p, e = .Slice q.1 q.2.1 q.2.2 p := by
  cases e with
  | Slice lo hi step p => exact ⟨p, rfl⟩
  | _ => exact True.intro
noncomputable def asInt : Expr → Option Int
  | .Constant co _ _ => (match co with | .int i => some i | _ => none)
  | _ => none
theorem asInt_ok (e : Expr) : OkO (asInt e) fun i => ∃ p q, e = .Constant (.int i) p q := by
  cases e with
  | Constant co p q => cases co with
    | int i => exact ⟨p, q, rfl⟩
    | _ => exact True.intro
  | _ => exact True.intro

variable {fd : FD} {σ : S} {L : Law} {K : Frag}

noncomputable def calleeOk (K : Frag) : Value → Bool
  | .builtin _ => true
  | .type _ => true
  | f => keepIn K f
theorem calleeOk_of (hK : c.K = K) {f : Value} (h : calleeOk K f = true) : Callee c f := by
  cases f with
  | builtin id => exact .bi _
  | type T => exact .ty _
  | _ => exact .kp (hK ▸ h)

noncomputable def bands (ev : Expr → St → Option (AV × St)) : List Expr → St → Option (Bool × St)
  | [], _ => none
  | e :: es, st => (ev e st).bind fun r => (toBool r.1).bind fun b => match es.isEmpty with
    | true => some (b, r.2)
    | false => (bands ev es r.2).bind fun q => some (b && q.1, also q.2 (q.2.σ = r.2.σ))
theorem bands_ok {ev : Expr → St → Option (AV × St)} (hev : ∀ e st, OkE (ev e st) st (Ev c n fd e st.σ)) (es : List Expr) :
    ∀ st, OkE (bands ev es st) st (Ands c n fd es st.σ) := by
  induction es with
  | nil => exact fun st => True.intro
  | cons e es ih =>
    refine fun st => OkE.bind (hev e st) fun v st1 => OkE.bindP (toBool_ok v) fun b hb => ?_
    subst hb
    cases es with
    | nil => exact fun hφ => ⟨hφ, fun a => Ands.last a⟩
    | cons e' es =>
      refine OkE.bind (ih st1) fun b2 st2 hφ => ⟨hφ.1, fun a2 a1 => Ands.cons a1 (fun e => ?_) fun e => ?_⟩
      · subst e; exact a2
      · subst e; exact ⟨rfl, hφ.2⟩

variable (c n fd) in
noncomputable def bAsk (e : Expr) (st : St) : Option (AV × St) := ask st fun v os' => Ev c n fd e st.σ v ⟨st.σ.vs, os'⟩
theorem bAsk_ok (e : Expr) (st : St) : OkE (bAsk c n fd e st) st (Ev c n fd e st.σ) := ask_ok fun _ _ h => h

section
variable (ev : Expr → St → Option (AV × St)) (G : List (Str × AV)) (Mt : List (Str × Addr)) (sk : Bool)
variable (c n fd K) in
noncomputable def bCall (x : Str) (p : Pos) (es : List Expr) (pos : Pos) (st : St) : Option (AV × St) := match isPlain es with
  | true => (nm fd G x st.σ).bind fun f => (litOf f).bind fun f => (evs ev es st).bind fun b => fin (also b.2 (calleeOk K f = true)) (autoCall f b.1 b.2.σ.os) (CallR c n f b.1 b.2.σ.os)
  | false => bAsk c n fd (.Call (.Name x p) es [] pos) st
variable (c n K) in
noncomputable def bMBi (a : AV) (as : S) (name : Str) (vs : List AV) (p : Prop) (st : St) (f : Value) : Option (AV × St) := fin (also st (autoMth a name as.os = some f ∧ p)) (autoCall f (a :: vs) st.σ.os) (CallR c n f (a :: vs) st.σ.os)
variable (c n L K) in
noncomputable def bMMe (a : AV) (as : S) (name : Str) (vs : List AV) (p : Prop) (st : St) (f : Addr) : Option (AV × St) := ask (also st ((∃ i m, a = .ref i ∧ as.os[i]? = some (.x (.inst m)) ∧ m.lookup name = none) ∧ findIn K (.ref L.C) name = some (some (.ref f)) ∧ typeIn K (.ref f) = some (.type "function") ∧ calleeOk K (.ref f) = true ∧ p))
        (CallR c n (.ref f) (a :: vs) st.σ.os)
variable (c n) in
noncomputable def bMRd (a : AV) (as : S) (name : Str) (vs : List AV) (p : Prop) (st : St) (q : Nat) : Option (AV × St) := ask (also st (name = "read" ∧ (∃ i j cl t e, a = .ref i ∧ as.os[i]? = some (.x (.fn j cl t (some e))) ∧ as.os[e]? = some (.x (.rdict q))) ∧ (∃ j' cl' t' rd', st.σ.os[q]? = some (.x (.fn j' cl' t' rd')) ∧ st.σ.os[t']? = some (.x (.code j'))) ∧ p))
        (CallV c n (.ref q) vs st.σ.os)
variable (c n L K) in
noncomputable def bMC (a : AV) (as : S) (name : Str) (vs : List AV) (p : Prop) (st : St) (mc : MC) : Option (AV × St) := match mc with
  | .bi f => bMBi c n a as name vs p st f
  | .me f => bMMe c n L K a as name vs p st f
  | .rd q => bMRd c n a as name vs p st q
variable (c n L K) in
noncomputable def bMeth (o : Expr) (name : Str) (apos : Pos) (es : List Expr) (pos : Pos) (st : St) : Option (AV × St) := match isPlain es with
  | true => (ev o st).bind fun a => (mcOf Mt a.1 name a.2.σ.os).bind fun mc => (evs ev es a.2).bind fun b =>
    bMC c n L K a.1 a.2.σ name b.1 ((apos.endLine == pos.line) = true ∧ es.length < 30 ∧ ∀ env, attributeBase o name env (eval o env) = eval o env) b.2 mc
  | false => none
variable (c n fd) in
noncomputable def bSlice (value : Expr) (lo hi step : Option Expr) (e : Expr) (st : St) : Option (AV × St) := (ev value st).bind fun a => match autoSq a.1 a.2.σ.os with
  | true => (evp ev lo a.2).bind fun l => (evp ev hi l.2).bind fun h => (evp ev step h.2).bind fun t => match autoSq a.1 t.2.σ.os with
    | true => fin t.2 (autoSlice a.1 l.1 h.1 t.1 t.2.σ.os) (SlOp c n a.1 l.1 h.1 t.1 t.2.σ.os)
    | false => none
  | false => bAsk c n fd e st
variable (c n fd) in
noncomputable def bSub (value slice : Expr) (e : Expr) (st : St) : Option (AV × St) := match sk with
  | true => bAsk c n fd e st
  | false => (ev value st).bind fun a => match autoSq a.1 a.2.σ.os with
    | true => (ev slice a.2).bind fun b => match autoSq a.1 b.2.σ.os with
      | true => fin (also b.2 (∀ o i, subscripted slice false o i = operate [o, i] (getItem o i))) (autoItem2 a.1 b.1 b.2.σ.os) (Op2 c n getItem a.1 b.1 b.2.σ.os)
      | false => none
    | false => bAsk c n fd e st
variable (c n fd) in
noncomputable def bSbs (value slice : Expr) (e : Expr) (st : St) : Option (AV × St) := match asSlice slice with
  | some q => bSlice c n fd ev value q.1 q.2.1 q.2.2 e st
  | none => bSub c n fd ev sk value slice e st
variable (c n) in
noncomputable def bCmp (l : Expr) (op : CmpOp) (r : Expr) (st : St) : Option (AV × St) := (ev l st).bind fun a => (ev r a.2).bind fun b => fin (also b.2 (behindInMarks op r = false)) (autoCmp op a.1 b.1 b.2.σ.os) (Op2 c n (compareOp op) a.1 b.1 b.2.σ.os)
variable (c n fd) in
noncomputable def bConst (co : Const) (e : Expr) (st : St) : Option (AV × St) := match co with
  | .int i => some (.int i, st)
  | .str x => some (.str x, st)
  | .bool b => some (.bool b, st)
  | .none => some (.none, st)
  | _ => bAsk c n fd e st
variable (c n fd) in
noncomputable def bUn (op : UnaryOp) (o e : Expr) (st : St) : Option (AV × St) := match op with
  | .USub => (match asInt o with
    | some i => some (.int (-i), st)
    | none => bAsk c n fd e st)
  | _ => bAsk c n fd e st
variable (c n) in
noncomputable def bBin (l : Expr) (op : Operator) (r : Expr) (st : St) : Option (AV × St) := (ev l st).bind fun a => (ev r a.2).bind fun b => fin b.2 (autoBin2 op a.1 b.1 b.2.σ.os) (Op2 c n (binaryOp op) a.1 b.1 b.2.σ.os)
variable (c n fd) in
noncomputable def bIf (t x y e : Expr) (st : St) : Option (AV × St) := match asCmp t with
  | none => bAsk c n fd e st
  | some q => (bCmp c n ev q.1 q.2.1 q.2.2 st).bind fun r => (toBool r.1).bind fun z => (asName x).bind fun x => (asName y).bind fun y => (nm fd G x r.2.σ).bind fun u => (nm fd G y r.2.σ).bind fun w => (ifv z u w).bind fun v => some (v, r.2)
variable (c n fd) in
noncomputable def bBool (op : BoolOp) (es : List Expr) (e : Expr) (st : St) : Option (AV × St) := match op with
  | .And => (bands ev es st).bind fun r => some (.bool r.1, r.2)
  | .Or => bAsk c n fd e st
variable (c n fd L K) in
noncomputable def bAttr (o : Expr) (name : Str) (e : Expr) (st : St) : Option (AV × St) := (ev o st).bind fun a => match attrOf a.1 name a.2.σ.os with
  | some v => some (v, also a.2 ((∃ i m, a.1 = .ref i ∧ a.2.σ.os[i]? = some (.x (.inst m)) ∧ m.lookup name = some v) ∧ notLit v = true ∧ findIn K (.ref L.C) name = some none ∧ ∀ env, attributeBase o name env (eval o env) = eval o env))
  | none => bAsk c n fd e st
variable (c n fd L K) in
noncomputable def bCl (f : Expr) (es : List Expr) (kws : List Keyword) (pos : Pos) (st : St) : Option (AV × St) := match kws with
  | [] => (match f with
    | .Name x p => bCall c n fd K ev G x p es pos st
    | .Attribute o name apos => bMeth c n L K ev Mt o name apos es pos st
    | _ => bAsk c n fd (.Call f es kws pos) st)
  | _ :: _ => bAsk c n fd (.Call f es kws pos) st
variable (c n fd L K) in
noncomputable def bE1 (e : Expr) (st : St) : Option (AV × St) := match e with
  | .Constant co _ _ => bConst c n fd co e st
  | .Name x _ => (nm fd G x st.σ).bind fun v => some (v, st)
  | .UnaryOp op o _ => bUn c n fd op o e st
  | .BinOp l op r _ => bBin c n ev l op r st
  | .Compare _ _ _ _ => (match asCmp e with
    | some q => bCmp c n ev q.1 q.2.1 q.2.2 st
    | none => bAsk c n fd e st)
  | .IfExp t x y _ => bIf c n fd ev G t x y e st
  | .BoolOp op es _ => bBool c n fd ev op es e st
  | .Attribute o name _ => bAttr c n fd L K ev o name e st
  | .Call f es kws pos => bCl c n fd L K ev G Mt f es kws pos st
  | .Subscript value slice _ => bSbs c n fd ev sk value slice e st
  | .List es _ => (evs ev es st).bind fun b => some (.ref b.2.σ.os.length, ⟨⟨b.2.σ.vs, b.2.σ.os ++ [.list b.1]⟩, b.2.q, b.2.φ ∧ b.1.length ≤ sizeLine⟩)
  | .Tuple es _ _ => (evs ev es st).bind fun b => some (.ref b.2.σ.os.length, ⟨⟨b.2.σ.vs, b.2.σ.os ++ [.tup b.1]⟩, b.2.q, b.2.φ ∧ b.1.length ≤ sizeLine⟩)
  | _ => bAsk c n fd e st

section
variable {ev} (hev : ∀ e st, OkE (ev e st) st (Ev c n fd e st.σ))
include hev
theorem bCall_ok (hK : c.K = K) {G : List (Str × AV)} (hG : GOK c G) (hk : fd.scope.kind = .function) (x : Str) (p pos : Pos) (es : List Expr) (st : St) : OkE (bCall c n fd K ev G x p es pos st) st (Ev c n fd (.Call (.Name x p) es [] pos) st.σ) := by
  unfold bCall
  cases hp : isPlain es with
  | true => exact OkE.bindO fun f h1 => OkE.bindP (litOf_ok f) fun f' hf => OkE.bind (evs_ok hev es st) fun b st1 => OkE.more (fin_ok (autoCall_ok f' b _) fun v os' h2 h3 h4 => Ev.call (nm_ok hG hk (hf ▸ h1)) h4 (calleeOk_of hK h3) h2 (isPlain_p1 hp) (.inl (isPlain_star hp)))
  | false => exact bAsk_ok _ st
theorem bMeth_ok (H : Lc c L) (hK : c.K = K) (o : Expr) (name : Str) (apos pos : Pos) (es : List Expr) (st : St) : OkE (bMeth c n L K ev Mt o name apos es pos st) st (Ev c n fd (.Call (.Attribute o name apos) es [] pos) st.σ) := by
  unfold bMeth
  cases hp : isPlain es with
  | false => exact True.intro
  | true =>
    refine OkE.bind (hev o st) fun a st1 => OkE.bindO fun mc _ => OkE.bind (evs_ok hev es st1) fun b st2 => ?_
    cases mc with
    | bi f => exact OkE.more (fin_ok (autoCall_ok f (a :: b) _) fun v os' h2 h3 h4 h5 => have hm := (autoMth_ok (c := c) (n := n) a name st1.σ.os).get h3.1; Ev.meth h5 hm.1 h4 hm.2 h2 (isPlain_p1 hp) (isPlain_star hp) h3.2.1 h3.2.2.1 h3.2.2.2)
    | me f => exact OkE.more (ask_ok fun v os' h2 h3 h4 h5 => by
        obtain ⟨i, m, hi, q1, q2⟩ := h3.1
        have hi : a = .ref i := hi
        exact Ev.meth h5 (hi ▸ mth_i H q1 q2 (hK ▸ h3.2.1) (hK ▸ h3.2.2.1)) h4 (calleeOk_of hK h3.2.2.2.1) h2 (isPlain_p1 hp) (isPlain_star hp) h3.2.2.2.2.1 h3.2.2.2.2.2.1 h3.2.2.2.2.2.2)
    | rd q => exact OkE.more (ask_ok fun v os' h2 h3 h4 h5 => by
        obtain ⟨i, j, cl, t, e, hi, q1, q2⟩ := h3.2.1
        have hi : a = .ref i := hi
        obtain ⟨j', cl', t', rd', q3, q4⟩ := h3.2.2.1
        have g := h3.2.2.2
        obtain rfl := h3.1
        exact Ev.methV H (hi ▸ h5) q1 q2 h4 q3 q4 h2 (isPlain_p1 hp) (isPlain_star hp) g.1 g.2.1 g.2.2)
theorem bSlice_ok (value : Expr) (lo hi step : Option Expr) (sp pos : Pos) (st : St) : OkE (bSlice c n fd ev value lo hi step (.Subscript value (.Slice lo hi step sp) pos) st) st (Ev c n fd (.Subscript value (.Slice lo hi step sp) pos) st.σ) := by
  refine OkE.bindO fun a ha => ?_
  cases autoSq a.1 a.2.σ.os with
  | true =>
    refine OkE.step (hev value st) ha (OkE.bind (evp_ok hev lo a.2) fun l st2 => OkE.bind (evp_ok hev hi st2) fun h st3 => OkE.bind (evp_ok hev step st3) fun t st4 => ?_)
    cases hs : autoSq a.1 st4.σ.os with
    | true => exact fin_ok (autoSlice_ok a.1 l h t _) fun v os' g1 g2 g3 g4 g5 => Ev.slice g5 g4 g3 g2 (autoSq_ok hs) g1
    | false => exact True.intro
  | false => exact bAsk_ok _ st
theorem bSub_ok (value slice : Expr) (pos : Pos) (st : St) : OkE (bSub c n fd ev sk value slice (.Subscript value slice pos) st) st (Ev c n fd (.Subscript value slice pos) st.σ) := by
  cases sk with
  | true => exact bAsk_ok _ st
  | false =>
    refine OkE.bindO fun a ha => ?_
    cases autoSq a.1 a.2.σ.os with
    | true =>
      refine OkE.step (hev value st) ha (OkE.bind (hev slice a.2) fun b st2 => ?_)
      cases hs : autoSq a.1 st2.σ.os with
      | true => exact OkE.more (fin_ok (autoItem2_ok a.1 b _) fun v os' g1 g2 g3 g4 => Ev.sub g4 g3 (autoSq_ok hs) g1 g2)
      | false => exact True.intro
    | false => exact bAsk_ok _ st
theorem bSbs_ok (value slice : Expr) (pos : Pos) (st : St) : OkE (bSbs c n fd ev sk value slice (.Subscript value slice pos) st) st (Ev c n fd (.Subscript value slice pos) st.σ) := by
  have h := asSlice_ok slice
  unfold bSbs
  cases hs : asSlice slice with
  | none => exact bSub_ok sk hev value slice pos st
  | some q =>
    obtain ⟨p, rfl⟩ := h.get hs
    exact bSlice_ok hev value q.1 q.2.1 q.2.2 p pos st
theorem bCmp_ok (l : Expr) (op : CmpOp) (r : Expr) (st : St) : OkE (bCmp c n ev l op r st) st fun v σ' => (∀ pos, Ev c n fd (.Compare l [op] [r] pos) st.σ v σ') ∧ ∀ z pos, v = .bool z → Tst c n fd (.Compare l [op] [r] pos) st.σ z σ' :=
  OkE.bind (hev l st) fun a st1 => OkE.bind (hev r st1) fun b st2 => OkE.more (fin_ok (autoCmp_ok op a b _) fun v os' g1 g2 g3 g4 => ⟨fun pos => Ev.cmp g4 g3 g1 g2, fun z pos e => Tst.cmp g4 g3 (e ▸ g1) g2⟩)
omit hev in
theorem bConst_ok (co : Const) (p : Nat) (q : Pos) (st : St) : OkE (bConst c n fd co (.Constant co p q) st) st (Ev c n fd (.Constant co p q) st.σ) := by
  cases co with
  | int i => exact fun hφ => ⟨hφ, Ev.int⟩
  | str i => exact fun hφ => ⟨hφ, Ev.str⟩
  | bool i => exact fun hφ => ⟨hφ, Ev.bool⟩
  | none => exact fun hφ => ⟨hφ, Ev.none⟩
  | _ => exact bAsk_ok _ st
omit hev in
theorem bUn_ok (op : UnaryOp) (o : Expr) (p : Pos) (st : St) : OkE (bUn c n fd op o (.UnaryOp op o p) st) st (Ev c n fd (.UnaryOp op o p) st.σ) := by
  cases op with
  | USub =>
    have h := asInt_ok o
    unfold bUn
    dsimp only
    cases hi : asInt o with
    | none => exact bAsk_ok _ st
    | some i =>
      obtain ⟨p, q, rfl⟩ := h.get hi
      exact fun hφ => ⟨hφ, Ev.neg⟩
  | _ => exact bAsk_ok _ st
theorem bIf_ok {G : List (Str × AV)} (hG : GOK c G) (hk : fd.scope.kind = .function) (t x y : Expr) (p : Pos) (st : St) : OkE (bIf c n fd ev G t x y (.IfExp t x y p) st) st (Ev c n fd (.IfExp t x y p) st.σ) := by
  have h := asCmp_ok t
  unfold bIf
  cases hi : asCmp t with
  | none => exact bAsk_ok _ st
  | some q =>
    obtain ⟨p', rfl⟩ := h.get hi
    refine OkE.bind (bCmp_ok hev q.1 q.2.1 q.2.2 st) fun v st1 => OkE.bindP (toBool_ok v) fun z hz => OkE.bindP (asName_ok x) fun x hx => OkE.bindP (asName_ok y) fun y hy => OkE.bindO fun u hu => OkE.bindO fun w hw => OkE.bindP (ifv_ok z u w) fun v' hv hφ => ⟨hφ, fun g => ?_⟩
    obtain ⟨_, rfl⟩ := hx
    obtain ⟨_, rfl⟩ := hy
    subst hv
    refine Ev.ifexp (g.2 z _ hz) (fun e => ?_) fun e => ?_
    · subst e; exact nm_ok hG hk hu
    · subst e; exact nm_ok hG hk hw
theorem bBool_ok (op : BoolOp) (es : List Expr) (p : Pos) (st : St) : OkE (bBool c n fd ev op es (.BoolOp op es p) st) st (Ev c n fd (.BoolOp op es p) st.σ) := by
  cases op with
  | And => exact OkE.bind (bands_ok hev es st) fun b st1 hφ => ⟨hφ, fun a => Ev.and a⟩
  | Or => exact bAsk_ok _ st
theorem bAttr_ok (H : Lc c L) (hK : c.K = K) (o : Expr) (name : Str) (p : Pos) (st : St) : OkE (bAttr c n fd L K ev o name (.Attribute o name p) st) st (Ev c n fd (.Attribute o name p) st.σ) := by
  refine OkE.bindO fun a ha => ?_
  cases attrOf a.1 name a.2.σ.os with
  | none => exact bAsk_ok _ st
  | some w =>
    refine OkE.step (hev o st) ha fun hφ => ⟨hφ.1, fun g => ?_⟩
    obtain ⟨⟨i, m, hi, p1, p2⟩, p3, p4, p5⟩ := hφ.2
    exact Ev.attr H (hi ▸ g) p1 p2 p3 (hK ▸ p4) p5
theorem bCl_ok (H : Lc c L) (hK : c.K = K) {G : List (Str × AV)} (hG : GOK c G) (hk : fd.scope.kind = .function) (f : Expr) (es : List Expr) (kws : List Keyword) (pos : Pos) (st : St) : OkE (bCl c n fd L K ev G Mt f es kws pos st) st (Ev c n fd (.Call f es kws pos) st.σ) := by
  cases kws with
  | cons kw kws => exact bAsk_ok _ st
  | nil => cases f with
    | Name x p => exact bCall_ok hev hK hG hk x p pos es st
    | Attribute o name apos => exact bMeth_ok Mt hev H hK o name apos pos es st
    | _ => exact bAsk_ok _ st
theorem bE1_ok (H : Lc c L) (hK : c.K = K) {G : List (Str × AV)} (hG : GOK c G) (hk : fd.scope.kind = .function) (e : Expr) (st : St) : OkE (bE1 c n fd L K ev G Mt sk e st) st (Ev c n fd e st.σ) := by
  cases e with
  | Constant co p q => exact bConst_ok co p q st
  | Name x p => exact OkE.bindO fun v h hφ => ⟨hφ, nm_ok hG hk h⟩
  | UnaryOp op o p => exact bUn_ok op o p st
  | BinOp l op r p => exact OkE.bind (hev l st) fun a st1 => OkE.bind (hev r st1) fun b st2 => fin_ok (autoBin2_ok op a b _) fun v os' g1 g2 g3 => Ev.bin g3 g2 g1
  | Compare l ops rs p =>
    have h := asCmp_ok (.Compare l ops rs p)
    unfold bE1
    dsimp only
    cases hi : asCmp (.Compare l ops rs p) with
    | none => exact bAsk_ok _ st
    | some q =>
      obtain ⟨p', e⟩ := h.get hi
      rw [e]
      exact (bCmp_ok hev q.1 q.2.1 q.2.2 st).mono fun v σ' g => g.1 p'
  | IfExp t x y p => exact bIf_ok hev hG hk t x y p st
  | BoolOp op es p => exact bBool_ok hev op es p st
  | Attribute o name p => exact bAttr_ok hev H hK o name p st
  | Call f es kws p => exact bCl_ok Mt hev H hK hG hk f es kws p st
  | Subscript value slice pos => exact bSbs_ok sk hev value slice pos st
  | List es p => exact OkE.bind (evs_ok hev es st) fun b st1 hφ => ⟨hφ.1, fun g => Ev.list g hφ.2⟩
  | Tuple es k p => exact OkE.bind (evs_ok hev es st) fun b st1 hφ => ⟨hφ.1, fun g => Ev.tup g hφ.2⟩
  | _ => exact bAsk_ok _ st
end
end

variable (c n fd L K) in
noncomputable def bE (G : List (Str × AV)) (Mt : List (Str × Addr)) (sk : Bool) : Nat → Expr → St → Option (AV × St)
  | 0, _, _ => none
  | k + 1, e, st => bE1 c n fd L K (bE G Mt sk k) G Mt sk e st
theorem bE_ok (H : Lc c L) (hK : c.K = K) {G : List (Str × AV)} (hG : GOK c G) {Mt : List (Str × Addr)} {sk : Bool} (hk : fd.scope.kind = .function) (k : Nat) : ∀ e st, OkE (bE c n fd L K G Mt sk k e st) st (Ev c n fd e st.σ) := by
  induction k with
  | zero => exact fun _ _ => True.intro
  | succ k ih => exact bE1_ok Mt sk ih H hK hG hk

/-! tests -/
noncomputable def bbs (z : Bool) (tv : Expr → St → Option (Bool × St)) : List Expr → St → Option (Bool × St)
  | [], _ => none
  | e :: es, st => (tv e st).bind fun r => match es.isEmpty with
    | true => some (r.1, r.2)
    | false => bbs z tv es (also r.2 (r.1 = z))
theorem Tsts.last {e : Expr} {op : BoolOp} {b : Bool} {σ₁ : S} (h : Tst c n fd e σ b σ₁) : Tsts c n fd op [e] σ b σ₁ := by
  cases op with
  | And => cases b with
    | true => exact Tsts.and h (fun _ => Tsts.nilAnd) (fun e => by cases e)
    | false => exact Tsts.and h (fun e => by cases e) (fun _ => ⟨rfl, rfl⟩)
  | Or => cases b with
    | false => exact Tsts.or h (fun _ => Tsts.nilOr) (fun e => by cases e)
    | true => exact Tsts.or h (fun e => by cases e) (fun _ => ⟨rfl, rfl⟩)
noncomputable def zOf : BoolOp → Bool
  | .And => true
  | .Or => false
theorem Tsts.on {op : BoolOp} {e : Expr} {es : List Expr} {b' : Bool} {σ₁ σ₂ : S} (h1 : Tst c n fd e σ (zOf op) σ₁) (h2 : Tsts c n fd op es σ₁ b' σ₂) : Tsts c n fd op (e :: es) σ b' σ₂ := by
  cases op with
  | And => exact Tsts.and h1 (fun _ => h2) (fun e => by cases e)
  | Or => exact Tsts.or h1 (fun _ => h2) (fun e => by cases e)
theorem bbs_ok {op : BoolOp} {tv : Expr → St → Option (Bool × St)} (htv : ∀ e st, OkE (tv e st) st (Tst c n fd e st.σ)) (es : List Expr) : ∀ st, OkE (bbs (zOf op) tv es st) st (Tsts c n fd op es st.σ) := by
  induction es with
  | nil => exact fun _ => True.intro
  | cons e es ih =>
    refine fun st => OkE.bind (htv e st) fun b st1 => ?_
    cases es with
    | nil => exact fun hφ => ⟨hφ, fun a => Tsts.last a⟩
    | cons e' es => exact OkE.more ((ih (also st1 (b = zOf op))).mono fun v σ' g hb a => Tsts.on (hb ▸ a) g)
section
variable (ev : Expr → St → Option (AV × St)) (tv : Expr → St → Option (Bool × St))
noncomputable def bTv (e : Expr) (st : St) : Option (Bool × St) := (ev e st).bind fun a => (autoTru a.1 a.2.σ.os).bind fun r => some (r.1, also a.2 (r.2 ∧ ∀ env whole, isTrue e env whole = (do let v ← whole; standAt e.pos; holding [v] (truthy v))))
noncomputable def bTbop (op : BoolOp) (es : List Expr) (e : Expr) (st : St) : Option (Bool × St) := match op with
  | .Or => (match Nat.ble es.length 3 with
    | true => bbs false tv es st
    | false => bTv ev e st)
  | .And => (match es.length == 2 with
    | true => bbs true tv es st
    | false => bTv ev e st)
noncomputable def bTun (op : UnaryOp) (o e : Expr) (st : St) : Option (Bool × St) := match op with
  | .Not => (tv o st).bind fun r => some (!r.1, r.2)
  | _ => bTv ev e st
variable (c n) in
noncomputable def bTcmp (e : Expr) (st : St) : Option (Bool × St) := match asCmp e with
  | some q => (bCmp c n ev q.1 q.2.1 q.2.2 st).bind fun r => (toBool r.1).bind fun z => some (z, r.2)
  | none => bTv ev e st
variable (c n) in
noncomputable def bT1 (e : Expr) (st : St) : Option (Bool × St) := match e with
  | .Compare _ _ _ _ => bTcmp c n ev e st
  | .UnaryOp op o _ => bTun ev tv op o e st
  | .BoolOp op es _ => bTbop ev tv op es e st
  | e => bTv ev e st
variable {ev} (hev : ∀ e st, OkE (ev e st) st (Ev c n fd e st.σ))
include hev
theorem bTv_ok (e : Expr) (st : St) : OkE (bTv ev e st) st (Tst c n fd e st.σ) := OkE.bind (hev e st) fun a st1 => by
  have h := autoTru_ok (c := c) (n := n) a st1.σ.os
  cases ha : autoTru a st1.σ.os with
  | none => exact True.intro
  | some r => rw [ha] at h; exact fun hφ => ⟨hφ.1, fun g => Tst.val g (h hφ.2.1) hφ.2.2⟩
variable {tv} (htv : ∀ e st, OkE (tv e st) st (Tst c n fd e st.σ))
include htv
theorem bTbop_ok (op : BoolOp) (es : List Expr) (p : Pos) (st : St) : OkE (bTbop ev tv op es (.BoolOp op es p) st) st (Tst c n fd (.BoolOp op es p) st.σ) := by
  cases op with
  | Or =>
    unfold bTbop
    dsimp only
    cases Nat.ble es.length 3 with
    | true => exact (bbs_ok (op := .Or) htv es st).mono fun v σ' g => Tst.bop g
    | false => exact bTv_ok hev _ st
  | And =>
    unfold bTbop
    dsimp only
    cases es.length == 2 with
    | true => exact (bbs_ok (op := .And) htv es st).mono fun v σ' g => Tst.bop g
    | false => exact bTv_ok hev _ st
theorem bT1_ok (e : Expr) (st : St) : OkE (bT1 c n ev tv e st) st (Tst c n fd e st.σ) := by
  cases e with
  | Compare l ops rs p =>
    have h := asCmp_ok (.Compare l ops rs p)
    show OkE (bTcmp c n ev (.Compare l ops rs p) st) st _
    unfold bTcmp
    cases hi : asCmp (.Compare l ops rs p) with
    | none => exact bTv_ok hev _ st
    | some q =>
      obtain ⟨p', e⟩ := h.get hi
      rw [e]
      exact OkE.bind (bCmp_ok hev q.1 q.2.1 q.2.2 st) fun v st1 => OkE.bindP (toBool_ok v) fun z hz hφ => ⟨hφ, fun g => g.2 z p' hz⟩
  | UnaryOp op o p => cases op with
    | Not => exact OkE.bind (htv o st) fun b st1 hφ => ⟨hφ, fun g => Tst.not g⟩
    | _ => exact bTv_ok hev _ st
  | BoolOp op es p => exact bTbop_ok hev htv op es p st
  | _ => exact bTv_ok hev _ st
end
variable (c n fd L K) in
noncomputable def bT (G : List (Str × AV)) (Mt : List (Str × Addr)) (sk : Bool) : Nat → Expr → St → Option (Bool × St)
  | 0, _, _ => none
  | k + 1, e, st => bT1 c n (bE c n fd L K G Mt sk k) (bT G Mt sk k) e st
theorem bT_ok (H : Lc c L) (hK : c.K = K) {G : List (Str × AV)} (hG : GOK c G) {Mt : List (Str × Addr)} {sk : Bool} (hk : fd.scope.kind = .function) (k : Nat) : ∀ e st, OkE (bT c n fd L K G Mt sk k e st) st (Tst c n fd e st.σ) := by
  induction k with
  | zero => exact fun _ _ => True.intro
  | succ k ih => exact bT1_ok (bE_ok H hK hG hk k) ih

/-! statements -/
noncomputable def OkS (r : Option St) (st : St) (Q : S → Prop) : Prop := match r with
  | none => True
  | some r => r.φ → st.φ ∧ Q r.σ
theorem OkS.get {r : Option St} {st st' : St} {Q : S → Prop} (h : OkS r st Q) (e : r = some st') (hφ : st'.φ) : st.φ ∧ Q st'.σ := by subst e; exact h hφ
theorem OkS.bind {α : Type} {r : Option (α × St)} {f : α × St → Option St} {st : St} {P : α → S → Prop} {Q : S → Prop} (h1 : OkE r st P) (h2 : ∀ a st1, OkS (f (a, st1)) st1 fun σ' => P a st1.σ → Q σ') : OkS (r.bind f) st Q := by
  cases r with
  | none => exact True.intro
  | some x =>
    have h2 := h2 x.1 x.2
    show OkS (f x) st Q
    cases hf : f x with
    | none => exact True.intro
    | some p => rw [show f (x.1, x.2) = some p from hf] at h2; exact fun hφ => ⟨(h1 (h2 hφ).1).1, (h2 hφ).2 (h1 (h2 hφ).1).2⟩
theorem OkS.bindO {α : Type} {o : Option α} {f : α → Option St} {st : St} {Q : S → Prop} (h : ∀ x, o = some x → OkS (f x) st Q) : OkS (o.bind f) st Q := by
  cases o with
  | none => exact True.intro
  | some x => exact h x rfl
section
variable (ev : Expr → St → Option (AV × St)) (tv : Expr → St → Option (Bool × St)) (G : List (Str × AV))
variable (fd) in
noncomputable def bAsN (x : Str) (px : Pos) (e : Expr) (pos : Pos) (st : St) : Option St := (ev e st).bind fun r => (sto fd x r.1 r.2.σ).bind fun σ' => some ⟨σ', r.2.q, r.2.φ ∧ ∀ env, swapsWith e (some (.Name x px)) pos.line env = Pure.pure false⟩
noncomputable def refOf : AV → Option Nat
  | .ref i => some i
  | _ => none
theorem refOf_ok {a : AV} {i : Nat} (h : refOf a = some i) : a = .ref i := by
  cases a with
  | ref j => cases h; rfl
  | _ => cases h
variable (L K) in
noncomputable def bAsA (o : Expr) (name : Str) (pos' : Pos) (e : Expr) (pos : Pos) (st : St) : Option St := (ev e st).bind fun r => (ev o r.2).bind fun a => (refOf a.1).bind fun i => (instOf a.2.σ.os[i]?).bind fun m => some ⟨⟨a.2.σ.vs, a.2.σ.os.set i (.x (.inst (putIn name r.1 m)))⟩, a.2.q, a.2.φ ∧ takerIn K L.C name = some none ∧ m.length ≤ 1000 ∧ ∀ env, swapsWith e (some (.Attribute o name pos')) pos.line env = Pure.pure false⟩
variable (c n fd) in
noncomputable def bAug (x : Str) (op : Operator) (e : Expr) (st : St) : Option St := match x == ("__debug__" : Str) with
  | true => none
  | false => (nm fd G x st.σ).bind fun a => (ev e st).bind fun b => (fin b.2 (autoInp op a b.1 b.2.σ.os) (Op2 c n (inplaceOp op) a b.1 b.2.σ.os)).bind fun r => (sto fd x r.1 r.2.σ).bind fun σ' => some ⟨σ', r.2.q, r.2.φ⟩
noncomputable def bExp (e : Expr) (pos : Pos) (st : St) : Option St := (ev e st).bind fun r => match plainV r.1 with
  | true => some (also r.2 (∀ env, swapsWith e Option.none pos.line env = Pure.pure false))
  | false => none
variable (fd L K) in
noncomputable def bAsg (t : Expr) (e : Expr) (pos : Pos) (st : St) : Option St := match t with
  | .Name x px => bAsN fd ev x px e pos st
  | .Attribute o name pos' => bAsA L K ev o name pos' e pos st
  | _ => none
variable (c n fd L K) in
noncomputable def bS1 (s : Stmt) (st : St) : Option St := match s with
  | .Assign ts e pos => (one ts).bind fun t => bAsg fd L K ev t e pos st
  | .AugAssign t op e _ => (asName t).bind fun x => bAug c n fd ev G x op e st
  | .Expr e pos => bExp ev e pos st
  | .Assert t _ _ => (tv t st).bind fun r => some (also r.2 (r.1 = true))
  | _ => none
variable {ev} (hev : ∀ e st, OkE (ev e st) st (Ev c n fd e st.σ))
include hev
theorem bAsg_ok (H : Lc c L) (hK : c.K = K) (hk : fd.scope.kind = .function) (t e : Expr) (pos : Pos) (st : St) : OkS (bAsg fd L K ev t e pos st) st (Ex c n fd (.Assign [t] e pos) st.σ .next) := by
  cases t with
  | Name x px => exact OkS.bind (hev e st) fun a st1 => OkS.bindO fun σ' h2 hφ => ⟨hφ.1, fun g => Ex.assign' g (sto_ok h2) hφ.2 hk⟩
  | Attribute o name pos' => exact OkS.bind (hev e st) fun a st1 => OkS.bind (hev o st1) fun b st2 => OkS.bindO fun i hi => OkS.bindO fun m hm hφ => ⟨hφ.1, fun g2 g1 => Ex.setAttr H g1 (refOf_ok hi ▸ g2) (instOf_ok hm) (hK ▸ hφ.2.1) hφ.2.2.1 hφ.2.2.2⟩
  | _ => exact True.intro
theorem bAug_ok {G : List (Str × AV)} (hG : GOK c G) (hk : fd.scope.kind = .function) (x : Str) (px : Pos) (op : Operator) (e : Expr) (pos : Pos) (st : St) : OkS (bAug c n fd ev G x op e st) st (Ex c n fd (.AugAssign (.Name x px) op e pos) st.σ .next) := by
  unfold bAug
  cases hd : x == ("__debug__" : Str) with
  | true => exact True.intro
  | false => exact OkS.bindO fun a h1 => OkS.bind (hev e st) fun b st1 => OkS.bind (P := fun v σ' => ∃ os', Op2 c n (inplaceOp op) a b st1.σ.os v os' ∧ σ' = ⟨st1.σ.vs, os'⟩) (fin_ok (autoInp_ok op a b _) fun v os' h => ⟨os', h, rfl⟩) fun r st2 => OkS.bindO fun σ' h4 hφ => ⟨hφ, fun g2 g1 => by
      obtain ⟨os', h, e⟩ := g2
      have h4 := sto_ok h4
      dsimp only at h4
      rw [e] at h4
      exact Ex.aug (nm_ok hG hk h1) g1 h h4 hd hk⟩
theorem bExp_ok (hk : fd.scope.kind = .function) (e : Expr) (pos : Pos) (st : St) : OkS (bExp ev e pos st) st (Ex c n fd (.Expr e pos) st.σ .next) := OkS.bind (hev e st) fun a st1 => by
  dsimp only
  cases hp : plainV a with
  | false => exact True.intro
  | true => exact fun hφ => ⟨hφ.1, fun g => Ex.expr g (by cases a <;> first | rfl | cases hp) (by intro u e; subst e; cases hp) hk hφ.2⟩
theorem bS1_ok {tv : Expr → St → Option (Bool × St)} (htv : ∀ e st, OkE (tv e st) st (Tst c n fd e st.σ)) (H : Lc c L) (hK : c.K = K) {G : List (Str × AV)} (hG : GOK c G) (hk : fd.scope.kind = .function) (s : Stmt) (st : St) : OkS (bS1 c n fd L K ev tv G s st) st (Ex c n fd s st.σ .next) := by
  cases s with
  | Assign ts e pos => exact OkS.bindO fun t h1 => (show ts = [t] from (one_ok ts).get h1) ▸ bAsg_ok hev H hK hk t e pos st
  | AugAssign t op e pos =>
    refine OkS.bindO fun x h1 => ?_
    obtain ⟨px, rfl⟩ := (asName_ok t).get h1
    exact bAug_ok hev hG hk x px op e pos st
  | Expr e pos => exact bExp_ok hev hk e pos st
  | Assert t m pos => exact OkS.bind (htv t st) fun b st1 hφ => ⟨hφ.1, fun g => Ex.asrt (hφ.2 ▸ g)⟩
  | _ => exact True.intro
end
variable (c n fd L K) in
noncomputable def bS (G : List (Str × AV)) (Mt : List (Str × Addr)) (sk : Bool) (k : Nat) (s : Stmt) (st : St) : Option St := bS1 c n fd L K (bE c n fd L K G Mt sk k) (bT c n fd L K G Mt sk k) G s st
theorem bS_ok (H : Lc c L) (hK : c.K = K) {G : List (Str × AV)} (hG : GOK c G) {Mt : List (Str × Addr)} {sk : Bool} (hk : fd.scope.kind = .function) {k : Nat} {s : Stmt} {st st' : St} (h : bS c n fd L K G Mt sk k s st = some st') (hφ : st'.φ) : st.φ ∧ Ex c n fd s st.σ .next st'.σ :=
  (bS1_ok (bE_ok H hK hG hk k) (bT_ok H hK hG hk k) H hK hG hk s st).get h hφ

variable (c n fd L K) in
noncomputable def bSs (G : List (Str × AV)) (Mt : List (Str × Addr)) (sk : Bool) (k m : Nat) : List Stmt → St → Option (List Stmt × St) := m.rec (fun sts st => some (sts, st)) fun _ ih sts st => match sts with
  | [] => none
  | s :: sts => (bS c n fd L K G Mt sk k s st).bind (ih sts)
theorem bSs_ok (H : Lc c L) (hK : c.K = K) {G : List (Str × AV)} (hG : GOK c G) {Mt : List (Str × Addr)} {sk : Bool} (hk : fd.scope.kind = .function) {k : Nat} {f : AF} {σ' : S} {m : Nat} : ∀ {sts rest : List Stmt} {st st' : St}, bSs c n fd L K G Mt sk k m sts st = some (rest, st') → st'.φ → st.φ ∧ (Exs c n fd rest st'.σ f σ' → Exs c n fd sts st.σ f σ') := by
  induction m with
  | zero => intro sts rest st st' h hφ; cases h; exact ⟨hφ, id⟩
  | succ m ih =>
    intro sts rest st st' h hφ
    cases sts with
    | nil => cases h
    | cons s sts =>
      obtain ⟨st1, h1, h⟩ := Option.bind_eq_some_iff.mp h
      have a := ih h hφ
      have b := bS_ok H hK hG hk h1 a.1
      exact ⟨b.1, fun g => Exs.cons b.2 (a.2 g)⟩

/-- what the evaluator stands on -/
structure Bk (c : Cx) (L : Law) where
  H : Lc c L
  K : Frag
  hK : c.K = K
  G : List (Str × AV)
  hG : GOK c G
  Mt : List (Str × Addr)

theorem Bk.run (B : Bk c L) (k m : Nat) (q : List (AV × List AO)) (σ₁ : S) {f : AF} {σ' : S} {sts rest : List Stmt} {st' : St} (h : bSs c n fd L B.K B.G B.Mt false k m sts ⟨σ, q, True⟩ = some (rest, st')) (hφ : st'.φ) (hs : Sub σ₁.vs st'.σ.vs) (ho : st'.σ.os = σ₁.os) (go : Exs c n fd rest σ₁ f σ') (hk : fd.scope.kind = .function := by rfl) : Exs c n fd sts σ f σ' :=
  (bSs_ok B.H B.hK B.hG hk h hφ).2 (go.fewer hs ho)
theorem Bk.ev (B : Bk c L) (k : Nat) (q : List (AV × List AO)) {e : Expr} {v v' : AV} {st' : St} {σ' : S} (h : bE c n fd L B.K B.G B.Mt false k e ⟨σ, q, True⟩ = some (v', st')) (hφ : st'.φ) (hv : v' = v) (ho : st'.σ = σ') (hk : fd.scope.kind = .function := by rfl) : Ev c n fd e σ v σ' := hv ▸ ho ▸ ((bE_ok B.H B.hK B.hG hk _ _ _).get h hφ).2
theorem Bk.tst (B : Bk c L) (k : Nat) (q : List (AV × List AO)) {e : Expr} {v v' : Bool} {st' : St} {σ' : S} (h : bT c n fd L B.K B.G B.Mt false k e ⟨σ, q, True⟩ = some (v', st')) (hφ : st'.φ) (hv : v' = v) (ho : st'.σ = σ') (hk : fd.scope.kind = .function := by rfl) : Tst c n fd e σ v σ' := hv ▸ ho ▸ ((bT_ok B.H B.hK B.hG hk _ _ _).get h hφ).2
theorem Bk.ret (B : Bk c L) (k : Nat) (q : List (AV × List AO)) {e : Expr} {v v' : AV} {st' : St} {os' : List AO} {rest : List Stmt} {pos : Pos} (h : bE c n fd L B.K B.G B.Mt false k e ⟨σ, q, True⟩ = some (v', st')) (hφ : st'.φ) (hv : v' = v) (ho : st'.σ.os = os') (hk : fd.scope.kind = .function := by rfl) : Exs c n fd (.Return (some e) pos :: rest) σ (.ret v) ⟨[], os'⟩ :=
  hv ▸ Exs.less (Exs.out (Ex.ret (B.ev k q h hφ rfl rfl hk)) (by intro e; cases e)) trivial ho
theorem Bk.test (B : Bk c L) (k : Nat) (q : List (AV × List AO)) (z : Bool) {t : Expr} {b o rest : List Stmt} {pos} {f : AF} {z' : Bool} {st' : St} {σ₂ : S} (h : bT c n fd L B.K B.G B.Mt false k t ⟨σ, q, True⟩ = some (z', st')) (hφ : st'.φ) (hz : z' = z) (h1 : Exs c n fd ((bif z then b else o) ++ rest) st'.σ f σ₂) (hk : fd.scope.kind = .function := by rfl) : Exs c n fd (.If t b o pos :: rest) σ f σ₂ :=
  Exs.ite z (B.tst k q h hφ hz rfl hk) h1

/-! the same, items asked -/
theorem Bk.run' (B : Bk c L) (k m : Nat) (q : List (AV × List AO)) (σ₁ : S) {f : AF} {σ' : S} {sts rest : List Stmt} {st' : St} (h : bSs c n fd L B.K B.G B.Mt true k m sts ⟨σ, q, True⟩ = some (rest, st')) (hφ : st'.φ) (hs : Sub σ₁.vs st'.σ.vs) (ho : st'.σ.os = σ₁.os) (go : Exs c n fd rest σ₁ f σ') (hk : fd.scope.kind = .function := by rfl) : Exs c n fd sts σ f σ' :=
  (bSs_ok B.H B.hK B.hG hk h hφ).2 (go.fewer hs ho)
theorem Bk.ev' (B : Bk c L) (k : Nat) (q : List (AV × List AO)) {e : Expr} {v v' : AV} {st' : St} {σ' : S} (h : bE c n fd L B.K B.G B.Mt true k e ⟨σ, q, True⟩ = some (v', st')) (hφ : st'.φ) (hv : v' = v) (ho : st'.σ = σ') (hk : fd.scope.kind = .function := by rfl) : Ev c n fd e σ v σ' := hv ▸ ho ▸ ((bE_ok B.H B.hK B.hG hk _ _ _).get h hφ).2
theorem Bk.tst' (B : Bk c L) (k : Nat) (q : List (AV × List AO)) {e : Expr} {v v' : Bool} {st' : St} {σ' : S} (h : bT c n fd L B.K B.G B.Mt true k e ⟨σ, q, True⟩ = some (v', st')) (hφ : st'.φ) (hv : v' = v) (ho : st'.σ = σ') (hk : fd.scope.kind = .function := by rfl) : Tst c n fd e σ v σ' := hv ▸ ho ▸ ((bT_ok B.H B.hK B.hG hk _ _ _).get h hφ).2
theorem Bk.test' (B : Bk c L) (k : Nat) (q : List (AV × List AO)) (z : Bool) {t : Expr} {b o rest : List Stmt} {pos} {f : AF} {z' : Bool} {st' : St} {σ₂ : S} (h : bT c n fd L B.K B.G B.Mt true k t ⟨σ, q, True⟩ = some (z', st')) (hφ : st'.φ) (hz : z' = z) (h1 : Exs c n fd ((bif z then b else o) ++ rest) st'.σ f σ₂) (hk : fd.scope.kind = .function := by rfl) : Exs c n fd (.If t b o pos :: rest) σ f σ₂ :=
  Exs.ite z (B.tst' k q h hφ hz rfl hk) h1
end
end Mine
end

section
open PySem PySem.W PyProof.Rows PyProof.V PySem.Spec PySem.SeqAt
set_option linter.unusedVariables false
namespace Mine
section
variable {c : Cx} {n m : Nat} {fd : FD} {σ σ₁ σ₂ σ₃ : S} {L : Law} {K : Frag} {os os' os₁ : List AO} {v : AV} {A : Around}

theorem Room.down (h : n ≤ m) (r : Room A m) : Room A n := ⟨r.handled, by have := r.depth; omega, by have := r.units; omega⟩
theorem Op.up {t : List Value → Sem Value} {args : List AV} (h : n ≤ m) (g : Op c n t args os v os') : Op c m t args os v os' := fun A ρ s xs rm => g A ρ s xs (rm.down h)
theorem Lt.ret (H : Lc c L) {x : Str} {body bR : List Stmt} {k b y : Nat} {d : FuncData} {ch : Str} {u : AV} (D : DefAt c L.fR d bR) (ho : σ.os[k]? = some (.x (.citer b))) (hb : σ.os[b]? = some (.x (.meth y)))
    (hc : CodeR c n (.ref L.fR) [.ref y] σ.os (.str ch) os₁) (hk : os₁[k]? = some (.x (.citer b))) (hb₁ : os₁[b]? = some (.x (.meth y))) (hne : ch ≠ "") (hs : Sto fd x (.str ch) ⟨σ.vs, os₁⟩ σ₁) (hx : Exs c (n + 1) fd body σ₁ (.ret u) σ₂) (hkd : fd.scope.kind = .function) :
    Lt c (n + 1) fd x body k σ (.ret u) σ₂ :=
  Lt.turn H D ho hb hc hk hb₁ hne hs hx hkd (fun h => by rcases h with h | h <;> cases h) fun _ => ⟨rfl, rfl⟩
theorem Lt.next (H : Lc c L) {x : Str} {body bR : List Stmt} {k b y : Nat} {d : FuncData} {ch : Str} {f : AF} (D : DefAt c L.fR d bR) (ho : σ.os[k]? = some (.x (.citer b))) (hb : σ.os[b]? = some (.x (.meth y)))
    (hc : CodeR c n (.ref L.fR) [.ref y] σ.os (.str ch) os₁) (hk : os₁[k]? = some (.x (.citer b))) (hb₁ : os₁[b]? = some (.x (.meth y))) (hne : ch ≠ "") (hs : Sto fd x (.str ch) ⟨σ.vs, os₁⟩ σ₁) (hx : Exs c (n + 1) fd body σ₁ .next σ₂) (hkd : fd.scope.kind = .function)
    (go : Lt c (n + 1) fd x body k σ₂ f σ₃) : Lt c (n + 1) fd x body k σ f σ₃ :=
  Lt.turn H D ho hb hc hk hb₁ hne hs hx hkd (fun _ => go) fun h => absurd (.inl rfl) h

/-! ### what objects name -/
noncomputable def RefsLt (m : Nat) (l : List Nat) : Prop := ∀ i ∈ l, i < m
noncomputable def CloP (m : Nat) : List AO → Prop
  | [] => True
  | o :: os => RefsLt m o.refs ∧ CloP m os
theorem CloP.all {m : Nat} {os : List AO} (h : CloP m os) : ∀ o ∈ os, ∀ i ∈ o.refs, i < m := by
  induction os with
  | nil => exact fun _ h => nomatch h
  | cons o₀ os ih =>
    intro o ho
    rcases List.mem_cons.mp ho with rfl | ho
    · exact h.1
    · exact ih h.2 o ho
theorem refsLt_of {m : Nat} {l : List Nat} (h : l.all (fun i => Nat.blt i m) = true) : RefsLt m l := fun i hi => by
  have := List.all_eq_true.mp h i hi
  exact Nat.le_of_ble_eq_true this
theorem AVs.refs_strs : ∀ ss : List Str, AVs.refs (ss.map .str) = []
  | [] => rfl
  | _ :: ss => AVs.refs_strs ss
theorem AVs.refs_ints : ∀ ss : List Int, AVs.refs (ss.map .int) = []
  | [] => rfl
  | _ :: ss => AVs.refs_ints ss
theorem refsLt_strs {m : Nat} {ss : List Str} : RefsLt m (AO.list (ss.map .str)).refs := fun i hi => by
  rw [show (AO.list (ss.map .str)).refs = [] from AVs.refs_strs ss] at hi; cases hi
theorem refsLt_ints {m : Nat} {ss : List Int} : RefsLt m (AO.list (ss.map .int)).refs := fun i hi => by
  rw [show (AO.list (ss.map .int)).refs = [] from AVs.refs_ints ss] at hi; cases hi
theorem ren_strs (r : Nat → Nat) (ss : List Str) : (ss.map AV.str).map (AV.ren r) = ss.map .str := by rw [List.map_map]; rfl
theorem ren_ints (r : Nat → Nat) (ss : List Int) : (ss.map AV.int).map (AV.ren r) = ss.map .int := by rw [List.map_map]; rfl
end
end Mine
end

section
open PySem PySem.W PyProof.Rows PyProof.V PySem.Spec PySem.SeqAt Builtin
set_option linter.unusedVariables false
set_option maxRecDepth 100000
namespace Mine
section
variable {c : Cx} {n : Nat} {fd : FD} {σ σ' σ₁ σ₂ σ₃ : S} {X : List Addr} {A : Around} {ρ : List Pl} {s : Shared} {os os' os₁ : List AO} {L : Law} {E : Value → Shared → Prop} {v v' : AV}

/-- a def that falls off its end -/
theorem CodeR.of_def0 {a : Addr} {d : FuncData} {body : List Stmt} {ps : List Str} {args : List AV} (D : DefAt c a d body)
    (hcell : ∀ x ∈ d.scope.names, x.2 ≠ .cell) (hbind : ∀ xs : List Value, xs.length = args.length → bindArgs d ⟨xs, []⟩ = Pure.pure (ps.zip xs)) (hloc : ∀ x ∈ ps, d.scope.names.lookup x = some .local)
    (h : Exs c n ⟨d.scope, [], Option.none⟩ body ⟨(ps.zip args).reverse, os⟩ .next σ') (hb : Back os .none σ'.os .none os') : CodeR c (n + 1) (.ref a) args os .none os' := fun A ρ s xs R rm r hx hq => by
  obtain ⟨o, ho, hd⟩ := D.there
  have hlen := hx.length
  refine codeAny_size ?_
  refine codeAny_call_def (binds := ps.zip xs) rm.lt (r.keep _ _ ho) hd (c.nolimit.keeps r.keep) (D.code.keeps r.keep) D.body (BindsTo.of_eq (hbind xs hlen.symm)) hcell (fun x hx' => hloc x.1 (List.of_mem_zip (a := x.1) (b := x.2) hx').1) (fun h₀ hns hk => ?_) D.co D.gen D.kind
  have hL : ∀ a o, s.heap.get? a = some o → a ≠ s.heap.objs.size := fun a o e he => by rw [he] at e; exact absurd (Heap.lt_size e) (Nat.lt_irrefl _)
  have fresh : c.hb.get? s.heap.objs.size = Option.none := by
    cases e : c.hb.get? s.heap.objs.size with
    | none => rfl
    | some o => exact absurd rfl (hL _ _ (r.keep _ _ e))
  have r0 : Rel c [s.heap.objs.size] os ρ h₀ := by
    refine ⟨r.objs.loc (fun b o e => hk b o (r.keep b o e)) fun a _ o e => hk a o e, ?_, fun b o e => hk b o (r.keep b o e), fun a ha => ?_, fun a ha => ?_⟩
    · refine List.nodup_cons.mpr ⟨fun hm => ?_, by simpa using r.nodup⟩
      exact absurd (r.live _ (by simpa using hm)) (Nat.lt_irrefl _)
    · rcases List.mem_cons.mp ha with rfl | ha
      · exact fresh
      · exact r.fresh a (by simpa using ha)
    · rcases List.mem_cons.mp ha with rfl | ha
      · exact hns.lt
      · have := r.live a (by simpa using ha)
        exact Nat.lt_trans this hns.lt
  have i0 : In c ⟨d.scope, [], Option.none⟩ ⟨(ps.zip args).reverse, os⟩ (callEnv d s.heap.objs.size a) ρ h₀ :=
    ⟨r0, rfl, D.glob, D.blt, (fun _ e => by cases e), fun x i e => (by cases e), _, hns, fun x u e => KV.lookup (KV.reverse (KV.zip hx)) e⟩
  refine (h (callEnv d s.heap.objs.size a) _ ρ { s with heap := h₀, toks := s.toks + (ps.zip xs).length } rm.deeper i0) _ _ fun f h₁ tk₁ ρ₁ q₁ p₁ => ?_
  intro dr
  obtain ⟨i₁, rfl⟩ := p₁
  obtain ⟨new, rfl, hnew⟩ := q₁.grow
  intro sz
  obtain ⟨nw, g1, g2, g3⟩ := hb.run (h := s.heap) (X := []) r.objs.length i₁.rel.none (v := .none) (x := .none) rfl (fun a ha => Nat.le_trans (Nat.le_of_lt hns.lt) (hnew a ha))
  refine hq .none h₁ tk₁ (ρ ++ nw) ⟨⟨_, rfl, g3⟩, fun b ob e hb' => ?_, sz⟩ g1 g2
  exact q₁.keep b ob (hk b ob e) fun hm => by
    rcases List.mem_cons.mp hm with rfl | hm
    · exact hL _ _ e rfl
    · exact hb' (by simpa using hm)
/-- a def with a starred last parameter -/
theorem CodeR.of_var {a : Addr} {d : FuncData} {body : List Stmt} {p q : Str} {x0 : AV} {args : List AV} (D : DefAt c a d body)
    (hcell : ∀ x ∈ d.scope.names, x.2 ≠ .cell) (hbind : ∀ (x : Value) (xs : List Value), xs.length = args.length → bindArgs d ⟨x :: xs, []⟩ = (newTuple xs >>= fun t => Pure.pure [(p, x), (q, t)])) (hp : d.scope.names.lookup p = some .local) (hq' : d.scope.names.lookup q = some .local) (hz : args.length ≤ sizeLine)
    (h : Exs c n ⟨d.scope, [], Option.none⟩ body ⟨[(q, .ref os.length), (p, x0)], os ++ [.tup args]⟩ (.ret v) σ') (hb : Back os v σ'.os v' os') : CodeR c (n + 1) (.ref a) (x0 :: args) os v' os' := fun A ρ s xs R rm r hx hq => by
  obtain ⟨o, ho, hd⟩ := D.there
  match xs, hx with
  | x :: xs, ⟨hx0, hxs⟩ =>
  have hlen := hxs.length
  refine codeAny_size ?_
  refine codeAny_call_function rm.lt (r.keep _ _ ho) hd D.co D.gen D.body (D.code.keeps r.keep) ?_
  rw [hbind x xs hlen.symm]
  refine wpAny_bind (wpAny_newObj_type (wpAny_pure ?_) (by show xs.toArray.size ≤ sizeLine; rw [List.size_toArray, ← hlen]; exact hz))
  have r1 := Rel.newTup (k := 0) r hxs
  have q1 := Reach.alloc ρ s.heap { cls := .type "tuple", data := .seq xs.toArray }
  have hv1 : VR (ρ ++ [⟨s.heap.objs.size, []⟩]) (.ref os.length) (.ref s.heap.objs.size) := VR.new r
  refine wpAny_newFunctionEnv hcell (fun y hy => ?_) (fun h₀ hns hsb₀ => ⟨(c.nolimit.keeps r1.keep).fresh _ hsb₀, codeAny_func ?_⟩) D.kind
  · rcases List.mem_cons.mp hy with rfl | hy
    · exact hp
    · rcases List.mem_cons.mp hy with rfl | hy
      · exact hq'
      · cases hy
  dsimp only at hns hsb₀ hv1 ⊢
  generalize hh1 : s.heap.push { cls := .type "tuple", data := .seq xs.toArray } = h1 at *
  have hsz : h1.objs.size = s.heap.objs.size + 1 := by rw [← hh1, Heap.size_push]
  have hk : ∀ b o, h1.get? b = some o → h₀.get? b = some o := fun b o e => hsb₀.extBut b o (Nat.ne_of_lt (Heap.lt_size e)) (Heap.get?_push_of_some _ e)
  have hk0 : ∀ b o, s.heap.get? b = some o → h1.get? b = some o := fun b o e => by rw [← hh1]; exact Heap.get?_push_of_some _ e
  have hL : ∀ a o, h1.get? a = some o → a ≠ h1.objs.size := fun a o e he => by rw [he] at e; exact absurd (Heap.lt_size e) (Nat.lt_irrefl _)
  have fresh : c.hb.get? h1.objs.size = Option.none := by
    cases e : c.hb.get? h1.objs.size with
    | none => rfl
    | some o => exact absurd rfl (hL _ _ (r1.keep _ _ e))
  have r0 : Rel c [h1.objs.size] (os ++ [.tup args]) (ρ ++ [⟨s.heap.objs.size, []⟩]) h₀ := by
    refine ⟨r1.objs.loc (fun b o e => hk b o (r1.keep b o e)) fun a _ o e => hk a o e, ?_, fun b o e => hk b o (r1.keep b o e), fun a ha => ?_, fun a ha => ?_⟩
    · refine List.nodup_cons.mpr ⟨fun hm => ?_, by simpa using r1.nodup⟩
      exact absurd (r1.live _ (by simpa using hm)) (Nat.lt_irrefl _)
    · rcases List.mem_cons.mp ha with rfl | ha
      · exact fresh
      · exact r1.fresh a (by simpa using ha)
    · rcases List.mem_cons.mp ha with rfl | ha
      · exact hns.lt
      · have := r1.live a (by simpa using ha)
        exact Nat.lt_trans this hns.lt
  have i0 : In c ⟨d.scope, [], Option.none⟩ ⟨[(q, .ref os.length), (p, x0)], os ++ [.tup args]⟩ (callEnv d h1.objs.size a) (ρ ++ [⟨s.heap.objs.size, []⟩]) h₀ :=
    ⟨r0, rfl, D.glob, D.blt, (fun _ e => by cases e), fun x i e => (by cases e), _, hns, fun y u e => KV.lookup (ρ := ρ ++ [⟨s.heap.objs.size, []⟩]) (xs := [(q, .ref os.length), (p, x0)]) (vs := [(p, x), (q, .ref s.heap.objs.size)].reverse) (show KV (ρ ++ [⟨s.heap.objs.size, []⟩]) [(q, .ref os.length), (p, x0)] [(q, .ref s.heap.objs.size), (p, x)] from ⟨rfl, hv1, rfl, hx0.mono _, trivial⟩) e⟩
  refine (h (callEnv d h1.objs.size a) _ (ρ ++ [⟨s.heap.objs.size, []⟩]) { s with heap := h₀, toks := s.toks + 2 } rm.deeper i0) _ _ fun f h₁ tk₁ ρ₁ q₁ p₁ => ?_
  intro dr
  obtain ⟨i₁, y, rfl, hy⟩ := p₁
  obtain ⟨new, rfl, hnew⟩ := q₁.grow
  have hs0 : s.heap.objs.size ≤ h₀.objs.size := Nat.le_of_lt (Nat.lt_of_le_of_lt (Nat.le_of_lt (show s.heap.objs.size < h1.objs.size from hsz.symm ▸ Nat.lt_succ_self _)) hns.lt)
  intro sz
  rw [List.append_assoc] at hy
  have i₁r := i₁.rel.none
  rw [List.append_assoc] at i₁r
  obtain ⟨nw, g1, g2, g3⟩ := hb.run (h := s.heap) (X := []) r.objs.length i₁r hy (fun a ha => by
    rw [foot_append] at ha
    rcases List.mem_append.mp ha with ha | ha
    · rcases List.mem_cons.mp (show a ∈ [s.heap.objs.size] from ha) with rfl | ha
      · exact Nat.le_refl _
      · cases ha
    · exact Nat.le_trans hs0 (hnew a ha))
  refine hq y h₁ tk₁ (ρ ++ nw) ⟨⟨_, rfl, g3⟩, fun b ob e hb' => ?_, sz⟩ g1 g2
  refine q₁.keep b ob (hk b ob (hk0 b ob e)) fun hm => ?_
  have hbl := Heap.lt_size e
  rcases List.mem_cons.mp hm with rfl | hm
  · exact absurd hbl (Nat.not_lt.mpr (hsz ▸ Nat.le_succ _))
  · replace hm : b ∈ foot (ρ ++ [⟨s.heap.objs.size, []⟩]) := hm
    rw [foot_append] at hm
    rcases List.mem_append.mp hm with hm | hm
    · exact hb' hm
    · rcases List.mem_cons.mp (show b ∈ [s.heap.objs.size] from hm) with rfl | hm
      · exact absurd hbl (Nat.lt_irrefl _)
      · cases hm
end
end Mine
end

section
open PySem PySem.W PyProof.Rows PyProof.V PySem.Spec PySem.SeqAt
set_option linter.unusedVariables false
namespace Mine
section
variable {c : Cx} {n : Nat}

end
end Mine
end

section
open PySem PySem.W PyProof.Rows PyProof.V PySem.Spec PySem.SeqAt
set_option linter.unusedVariables false
namespace Mine
section
variable {c : Cx} {n : Nat} {fd : FD} {σ σ₁ σ₂ σ₃ : S}

theorem Lp.loop {x : Str} {body : List Stmt} {src : Src} (N : Nat) (Sf : Nat → S) (item : Nat → AV) (hitem : ∀ k, k < N → src.item (Sf k).os k = some (item k)) (hdone : src.item (Sf N).os N = none) (ok : src.Ok (Sf N).os)
    (hl : fd.scope.names.lookup x = some .local) (hk : fd.scope.kind = .function) (turn : ∀ k, k < N → Exs c n fd body ⟨put x (item k) (Sf k).vs, (Sf k).os⟩ .next (Sf (k + 1))) : Lp c n fd x body src 0 (Sf 0) .next (Sf N) := by
  have key : ∀ m k, k + m = N → Lp c n fd x body src k (Sf k) .next (Sf N) := by
    intro m
    induction m with
    | zero => intro k hk0; obtain rfl : k = N := hk0; exact Lp.done hdone ok
    | succ m ih => intro k hkm; exact Lp.step (hitem k (by omega)) (.loc hl) (turn k (by omega)) (ih (k + 1) (by omega)) hk
  exact key N 0 (by omega)

theorem Cp.fewer {elt : Expr} {gens : List Comprehension} {scope : Scope} {pos : Pos} {d : Nat} {src : Src} {k : Nat} {acc acc' : List AV} (hs : Sub σ₁.vs σ.vs) (ho : σ.os = σ₁.os) (go : Cp c n fd elt gens scope pos d src k σ₁ acc σ₂ acc') : Cp c n fd elt gens scope pos d src k σ acc σ₂ acc' :=
  fun env A ρ s it al vs R rm i => go env A ρ s it al vs R rm (i.fewer hs ho)

theorem Cp.loop {elt : Expr} {gens : List Comprehension} {scope : Scope} {pos : Pos} {d : Nat} {src : Src} {x : Str} {px : Pos} {iter : Expr} (N : Nat) (osf : Nat → List AO) (item u : Nat → AV) (acc : List AV) (hitem : ∀ k, k < N → src.item (osf k) k = some (item k)) (hdone : src.item (osf N) N = none) (ok : src.Ok (osf N))
    (hl : fd.scope.names.lookup x = some .local) (turn : ∀ k, k < N → ∃ vs', Ev c n fd elt ⟨[(x, item k)], osf k⟩ (u k) ⟨vs', osf (k + 1)⟩) (hz : acc.length + N ≤ sizeLine)
    (hg : gens[d]? = some ⟨.Name x px, iter, [], 0⟩) (hn : gens[d + 1]? = none) (hk : fd.scope.kind = .function := by rfl) : Cp c n fd elt gens scope pos d src 0 ⟨[], osf 0⟩ acc ⟨[], osf N⟩ (acc ++ (List.range N).map u) := by
  have key : ∀ m k, k + m = N → Cp c n fd elt gens scope pos d src k ⟨[], osf k⟩ (acc ++ (List.range k).map u) ⟨[], osf N⟩ (acc ++ (List.range N).map u) := by
    intro m
    induction m with
    | zero => intro k hk0; obtain rfl : k = N := hk0; exact Cp.done hg hdone ok
    | succ m ih =>
      intro k hkm
      obtain ⟨vs', he⟩ := turn k (by omega)
      have := ih (k + 1) (by omega)
      rw [List.range_succ, List.map_append, ← List.append_assoc] at this
      exact Cp.step (hitem k (by omega)) (.loc hl) he (Cp.fewer (σ₁ := ⟨[], osf (k + 1)⟩) trivial rfl this) (by rw [List.length_append, List.length_map, List.length_range]; omega) hg hn hk
  have := key N 0 (by omega)
  simpa using this

theorem item_r {os : List AO} {lo hi : Int} {k : Nat} (h : lo + k < hi) : (Src.rng lo hi).item os k = some (.int (lo + k)) := if_pos h
theorem item_rE {os : List AO} {lo hi : Int} {k : Nat} (h : hi ≤ lo + k) : (Src.rng lo hi).item os k = none := if_neg (by omega)
theorem item_rng {os : List AO} {N k : Nat} (h : k < N) : (Src.rng 0 (N : Int)).item os k = some (.int k) := by
  rw [item_r (by omega), Int.zero_add]
theorem item_rngE {os : List AO} {N : Nat} : (Src.rng 0 (N : Int)).item os N = none := item_rE (by omega)
end
end Mine
end

section
open PySem PySem.StrLaws Builtin Builtin.Str
set_option linter.unusedVariables false
namespace Mine

/-! ## texts as lists -/
noncomputable def T (l : List Nat) : Str := ⟨l.toArray⟩
theorem T_len (l : List Nat) : (T l).length = l.length := by simp [T, Str.length]
theorem T_list (l : List Nat) : (T l).cps.toList = l := rfl
theorem T_app (a b : List Nat) : T a ++ T b = T (a ++ b) := Str.ext' (by rw [Str.cps_append]; simp [T])
theorem T_inj {a b : List Nat} (h : T a = T b) : a = b := by have := congrArg (fun x : Str => x.cps.toList) h; simpa [T] using this
theorem T_beq (a b : List Nat) : (T a == T b) = (a == b) := by
  by_cases h : a = b
  · subst h; simp
  · have : T a ≠ T b := fun e => h (T_inj e)
    rw [beq_eq_false_iff_ne.mpr this, beq_eq_false_iff_ne.mpr h]

noncomputable def occR (s sub : Str) (hi lim : Nat) : List Nat → Nat → Nat → List Nat
  | [], _, _ => []
  | i :: r, k, f => if ((k < lim ∧ f ≤ i) ∧ i + sub.length ≤ hi) ∧ subAt s sub i = true then i :: occR s sub hi lim r (k + 1) (i + sub.length) else occR s sub hi lim r k f

theorem occ_fold (s sub : Str) (hi lim : Nat) : ∀ (l : List Nat) (st : Array Nat) (f : Nat), (forIn (m := Id) l (st, f) (occBody s sub hi lim)).run.fst.toList = st.toList ++ occR s sub hi lim l st.size f
  | [], st, f => by simp [occR]
  | i :: r, st, f => by
    rw [List.forIn_cons]
    unfold occBody occR
    by_cases h : ((st.size < lim ∧ f ≤ i) ∧ i + sub.length ≤ hi) ∧ subAt s sub i = true
    · rw [if_pos h, if_pos h]
      have := occ_fold s sub hi lim r (st.push i) (i + sub.length)
      rw [Array.size_push] at this
      exact this.trans (by simp)
    · rw [if_neg h, if_neg h]
      exact occ_fold s sub hi lim r st f
theorem occ_R (s sub : Str) (lo hi lim : Nat) : occurrences s sub lo hi lim = occR s sub hi lim (List.range' lo (hi + 1 - lo)) 0 lo := by
  rw [occ_eq, occ_fold]; simp

theorem pre_iff (p l : List Nat) : p.isPrefixOf l = true ↔ l.take p.length = p := by
  rw [List.isPrefixOf_iff_prefix, List.prefix_iff_eq_take]; exact eq_comm
theorem at_iff (l p : List Nat) (i : Nat) (hi : i ≤ l.length) : (i + (T p).length ≤ l.length ∧ subAt (T l) (T p) i = true) ↔ p.isPrefixOf (l.drop i) = true := by
  rw [pre_iff, subAt_eq, T_list, T_list, T_len, beq_iff_eq]
  constructor
  · exact fun h => h.2
  · intro h
    refine ⟨?_, h⟩
    have := congrArg List.length h
    simp at this; omega

/-- the places of p, each behind the one before -/
noncomputable def occS (p : List Nat) : List Nat → Nat → Nat → List Nat
  | [], _, _ => []
  | x :: t, pos, 0 => if p.isPrefixOf (x :: t) then pos :: occS p t (pos + 1) (p.length - 1) else occS p t (pos + 1) 0
  | _ :: t, pos, k + 1 => occS p t (pos + 1) k

theorem drop_cons {l : List Nat} {x : Nat} {t : List Nat} {pos : Nat} (h : l.drop pos = x :: t) : pos < l.length ∧ l.drop (pos + 1) = t := by
  constructor
  · by_cases hp : pos < l.length
    · exact hp
    · rw [List.drop_eq_nil_of_le (by omega)] at h; cases h
  · have := congrArg (List.drop 1) h
    rw [List.drop_drop] at this; simpa using this

theorem occR_S (l p : List Nat) (hp : p ≠ []) (lim : Nat) : ∀ (r : List Nat) (pos k f : Nat), l.drop pos = r → pos ≤ l.length → k + r.length < lim → f ≤ pos + (f - pos) →
    occR (T l) (T p) l.length lim (List.range' pos (r.length + 1)) k f = occS p r pos (f - pos)
  | [], pos, k, f, hr, hpos, hk, hf => by
    have : pos = l.length := by
      have := congrArg List.length hr; simp at this; omega
    subst this
    have hn : ¬ (((k < lim ∧ f ≤ l.length) ∧ l.length + (T p).length ≤ l.length) ∧ subAt (T l) (T p) l.length = true) := fun h => by
      have := h.1.2; rw [T_len] at this
      have : p.length = 0 := by omega
      exact hp (List.length_eq_zero_iff.mp this)
    show occR _ _ _ _ [l.length] k f = []
    simp only [occR]
    rw [if_neg hn]
  | x :: t, pos, k, f, hr, hpos, hk, hf => by
    obtain ⟨h1, h2⟩ := drop_cons hr
    simp only [List.length_cons] at hk
    show occR _ _ _ _ (List.range' pos ((t.length + 1) + 1)) k f = _
    rw [List.range'_succ]
    unfold occR
    by_cases hfp : f ≤ pos
    · rw [show f - pos = 0 by omega]
      unfold occS
      have key := at_iff l p pos hpos
      rw [hr] at key
      by_cases hpre : p.isPrefixOf (x :: t) = true
      · rw [if_pos hpre, if_pos ⟨⟨⟨by omega, hfp⟩, (key.mpr hpre).1⟩, (key.mpr hpre).2⟩]
        have := occR_S l p hp lim t (pos + 1) (k + 1) (pos + (T p).length) h2 h1 (by omega) (by omega)
        rw [this, T_len, show pos + p.length - (pos + 1) = p.length - 1 by omega]
      · rw [if_neg hpre, if_neg (fun h => hpre (key.mp ⟨h.1.2, h.2⟩))]
        have := occR_S l p hp lim t (pos + 1) k f h2 h1 (by omega) (by omega)
        rw [this, show f - (pos + 1) = 0 by omega]
    · rw [if_neg (fun h => hfp h.1.1.2)]
      obtain ⟨j, hj⟩ : ∃ j, f - pos = j + 1 := ⟨f - pos - 1, by omega⟩
      rw [hj]
      unfold occS
      have := occR_S l p hp lim t (pos + 1) k f h2 h1 (by omega) (by omega)
      rw [this, show f - (pos + 1) = j by omega]

theorem occ_S (l p : List Nat) (hp : p ≠ []) : occurrences (T l) (T p) 0 (T l).length ((T l).length + 1) = occS p l 0 0 := by
  rw [occ_R, T_len, Nat.sub_zero]
  exact occR_S l p hp (l.length + 1) l 0 0 0 rfl (Nat.zero_le _) (by omega) (by omega)

/-! ### split and join: a text put in the place of another -/
noncomputable def repl (p q : List Nat) : List Nat → Nat → List Nat
  | [], _ => []
  | x :: t, 0 => if p.isPrefixOf (x :: t) then q ++ repl p q t (p.length - 1) else x :: repl p q t 0
  | _ :: t, k + 1 => repl p q t k

theorem sub_T (l : List Nat) (i j : Nat) : strSub (T l) i j = T ((l.drop i).take (j - i)) := by
  apply Str.ext'; apply Array.toList_inj.mp
  rw [strSub_toList]; rfl
theorem join_two (sep x : Str) {r : List Str} (h : ∃ p t, r = p :: t) : Str.join sep (x :: r) = x ++ sep ++ Str.join sep r := by
  obtain ⟨p, t, rfl⟩ := h; rfl

theorem parts_repl (l p q : List Nat) (hp : p ≠ []) : ∀ (r : List Nat) (pos a k : Nat), l.drop pos = r → pos ≤ l.length → a ≤ l.length → (k = 0 → a ≤ pos) → (0 < k → a = pos + k) →
    Str.join (T q) (partsFrom (T l) p.length a (occS p r pos k)) = T ((l.drop a).take (pos - a) ++ repl p q r k)
  | [], pos, a, k, hr, hpos, ha, h0, h1 => by
    have hl : pos = l.length := by
      have := congrArg List.length hr; simp at this; omega
    show Str.join (T q) [strSub (T l) a (T l).length] = _
    show strSub (T l) a (T l).length = _
    rw [sub_T, T_len, hl]
    simp [repl]
  | x :: t, pos, a, 0, hr, hpos, ha, h0, h1 => by
    obtain ⟨g1, g2⟩ := drop_cons hr
    have ha' := h0 rfl
    unfold occS repl
    by_cases hpre : p.isPrefixOf (x :: t) = true
    · rw [if_pos hpre, if_pos hpre]
      have hlen : 0 < p.length := List.length_pos_iff.mpr hp
      have hfit : pos + p.length ≤ l.length := by
        have key := (at_iff l p pos hpos).mpr (by rw [hr]; exact hpre)
        have := key.1; rwa [T_len] at this
      show Str.join (T q) (strSub (T l) a pos :: partsFrom (T l) p.length (pos + p.length) _) = _
      rw [join_two _ _ (partsFrom_ne _ _ _ _), parts_repl l p q hp t (pos + 1) (pos + p.length) (p.length - 1) g2 g1 hfit (by omega) (by omega), sub_T,
        show pos + 1 - (pos + p.length) = 0 by omega, T_app, T_app]
      simp
    · rw [if_neg hpre, if_neg hpre, parts_repl l p q hp t (pos + 1) a 0 g2 g1 ha (by omega) (by omega)]
      have : (l.drop a).take (pos + 1 - a) = (l.drop a).take (pos - a) ++ [x] := by
        rw [show pos + 1 - a = (pos - a) + 1 by omega, List.take_add_one]
        congr 1
        rw [List.getElem?_drop, show a + (pos - a) = pos by omega]
        have := congrArg List.head? hr
        rw [List.head?_drop] at this
        rw [this]; rfl
      rw [this]; simp
  | x :: t, pos, a, k + 1, hr, hpos, ha, h0, h1 => by
    obtain ⟨g1, g2⟩ := drop_cons hr
    have ha' := h1 (by omega)
    unfold occS repl
    rw [parts_repl l p q hp t (pos + 1) a k g2 g1 ha (by omega) (by omega)]
    rw [show pos + 1 - a = 0 by omega, show pos - a = 0 by omega]

theorem split_parts (x y : Str) (hy : y.length ≠ 0) : Txt.split x y = partsBetween x (occurrences x y 0 x.length (x.length + 1)) y.length := by
  unfold Txt.split
  split
  · rename_i h
    rw [PySem.W.occ_nil_of_no x y, PySem.W.parts_nil]
    intro i hi
    cases e : subAt x y i with
    | false => rfl
    | true =>
      have h1 := PySem.W.subAt_le x y e
      have h2 := PySem.W.kind_le x y e
      simp only [Bool.or_eq_true, decide_eq_true_eq] at h
      omega
  · split
    · rename_i h
      rw [List.isEmpty_iff.mp h, PySem.W.parts_nil]
    · rfl

theorem join_split (l p q : List Nat) (hp : p ≠ []) : Txt.join (T q) (Txt.split (T l) (T p)) = T (repl p q l 0) := by
  have hl : (T p).length ≠ 0 := by rw [T_len]; exact fun h => hp (List.length_eq_zero_iff.mp h)
  rw [split_parts _ _ hl, occ_S l p hp]
  show Builtin.Str.glued _ _ = _
  rw [glued_eq_join, partsBetween_eq, T_len, parts_repl l p q hp l 0 0 0 rfl (Nat.zero_le _) (Nat.zero_le _) (fun _ => Nat.le_refl _) (by omega)]
  simp
end Mine
end

section
open PySem PySem.StrLaws Builtin Builtin.Str
set_option linter.unusedVariables false
namespace Mine

/-! ### find -/
/-- where p stands first -/
noncomputable def fnd (p : List Nat) : List Nat → Nat → Option Nat
  | [], pos => if p = [] then some pos else none
  | x :: t, pos => if p.isPrefixOf (x :: t) then some pos else fnd p t (pos + 1)

theorem occR_one (s sub : Str) (hi : Nat) : ∀ (r : List Nat) (k f : Nat), 0 < k → occR s sub hi 1 r k f = []
  | [], _, _, _ => rfl
  | i :: r, k, f, h => by
    unfold occR
    rw [if_neg (fun c => by have := c.1.1.1; omega)]
    exact occR_one s sub hi r k f h

theorem occR_fnd (l p : List Nat) : ∀ (r : List Nat) (pos : Nat), l.drop pos = r → pos ≤ l.length → ∀ f, f ≤ pos →
    occR (T l) (T p) l.length 1 (List.range' pos (r.length + 1)) 0 f = (fnd p r pos).toList
  | [], pos, hr, hpos, f, hf => by
    have : pos = l.length := by
      have := congrArg List.length hr; simp at this; omega
    subst this
    have key := at_iff l p l.length (Nat.le_refl _)
    rw [hr] at key
    show occR _ _ _ _ [l.length] 0 f = _
    unfold fnd
    simp only [occR]
    by_cases hp : p = []
    · subst hp
      rw [if_pos rfl, if_pos ⟨⟨⟨by omega, hf⟩, (key.mpr rfl).1⟩, (key.mpr rfl).2⟩]; rfl
    · rw [if_neg hp, if_neg]
      · rfl
      · intro h
        have := key.mp ⟨h.1.2, h.2⟩
        cases p with
        | nil => exact hp rfl
        | cons a b => cases this
  | x :: t, pos, hr, hpos, f, hf => by
    obtain ⟨h1, h2⟩ := drop_cons hr
    have key := at_iff l p pos hpos
    rw [hr] at key
    show occR _ _ _ _ (List.range' pos ((t.length + 1) + 1)) 0 f = _
    rw [List.range'_succ]
    unfold occR fnd
    by_cases hpre : p.isPrefixOf (x :: t) = true
    · rw [if_pos hpre, if_pos ⟨⟨⟨by omega, hf⟩, (key.mpr hpre).1⟩, (key.mpr hpre).2⟩, occR_one _ _ _ _ _ _ (by omega)]; rfl
    · rw [if_neg hpre, if_neg (fun h => hpre (key.mp ⟨h.1.2, h.2⟩))]
      exact occR_fnd l p t (pos + 1) h2 h1 f (by omega)

theorem find4_T (l p : List Nat) (pos : Nat) (h : pos ≤ l.length) : find4 (T l) (T p) pos (T l).length = match fnd p (l.drop pos) pos with | some k => (k : Int) | none => -1 := by
  unfold find4
  rw [occ_R, T_len, Nat.min_self]
  have := occR_fnd l p (l.drop pos) pos rfl h pos (Nat.le_refl _)
  rw [List.length_drop] at this
  rw [show l.length + 1 - pos = l.length - pos + 1 by omega, this]
  cases fnd p (l.drop pos) pos <;> rfl
theorem fnd_nil : ∀ (l : List Nat) (pos : Nat), fnd [] l pos = some pos
  | [], _ => rfl
  | _ :: _, _ => rfl
theorem fnd_le (p : List Nat) : ∀ (l : List Nat) (pos k : Nat), fnd p l pos = some k → pos ≤ k ∧ k + p.length ≤ pos + l.length
  | [], pos, k, h => by
    unfold fnd at h
    split at h
    · rename_i hp; subst hp; cases h; simp
    · cases h
  | x :: t, pos, k, h => by
    unfold fnd at h
    split at h
    · rename_i hp
      cases h
      have := (List.isPrefixOf_iff_prefix.mp hp).length_le
      simp at this ⊢; exact this
    · have := fnd_le p t (pos + 1) k h
      simp; omega

/-! ### ...p... -/
noncomputable def dots (p : List Nat) : List Nat := [46, 46, 46] ++ p ++ [46, 46, 46]
theorem occ_dots2 (p : List Nat) (pos : Nat) (hp : 46 ∉ p) : occS [46, 46, 46] (p ++ [46, 46, 46]) pos 0 = [pos + p.length] := by
  induction p generalizing pos with
  | nil => show occS [46, 46, 46] [46, 46, 46] pos 0 = _; simp [occS]
  | cons x t ih =>
    have hx : x ≠ 46 := fun e => hp (e ▸ List.mem_cons_self)
    show occS [46, 46, 46] (x :: (t ++ [46, 46, 46])) pos 0 = _
    have hpre : ([46, 46, 46] : List Nat).isPrefixOf (x :: (t ++ [46, 46, 46])) = false := by
      simp [List.isPrefixOf]; intro e; exact absurd e.symm hx
    unfold occS
    rw [hpre, if_neg (by decide), ih (pos + 1) fun h => hp (List.mem_cons_of_mem _ h)]
    simp; omega
theorem occ_dots (p : List Nat) (hp : 46 ∉ p) : occS [46, 46, 46] (dots p) 0 0 = [0, 3 + p.length] := by
  show occS [46, 46, 46] (46 :: 46 :: 46 :: (p ++ [46, 46, 46])) 0 0 = _
  unfold occS
  rw [if_pos (by simp [List.isPrefixOf])]
  show 0 :: occS [46, 46, 46] (46 :: 46 :: (p ++ [46, 46, 46])) 1 2 = _
  unfold occS
  unfold occS
  rw [occ_dots2 p _ hp]
theorem T_dot3 : (Str.ofString "...") = T [46, 46, 46] := by decide +kernel
theorem T_nil : (Str.ofString "") = T [] := by decide +kernel
theorem dots_in (p : List Nat) (hp : 46 ∉ p) : inS (T (dots p)) "..." = true := by
  unfold inS
  rw [T_dot3, found_iff]
  refine ⟨0, ?_⟩
  have := at_iff (dots p) [46, 46, 46] 0 (Nat.zero_le _)
  rw [T_len (dots p)]
  exact this.mpr (by simp [dots, List.isPrefixOf])
theorem dots_split (p : List Nat) (hp : 46 ∉ p) : Txt.split (T (dots p)) "..." = [Str.ofString "", T p, Str.ofString ""] := by
  rw [T_dot3, T_nil, split_parts _ _ (by rw [T_len]; decide), occ_S _ _ (by decide), occ_dots p hp, partsBetween_eq]
  show [strSub (T (dots p)) 0 0, strSub (T (dots p)) (0 + (T [46, 46, 46]).length) (3 + p.length), strSub (T (dots p)) (3 + p.length + (T [46, 46, 46]).length) (T (dots p)).length] = _
  rw [sub_T, sub_T, sub_T, T_len, T_len]
  congr 1
  · congr 1
    · congr 1
      simp [dots]
    · congr 1
      · congr 1
        simp [dots]; omega
theorem dots_parts (p : List Nat) (hp : 46 ∉ p) : (partsBetween (T (dots p)) (occurrences (T (dots p)) "..." 0 (T (dots p)).length ((T (dots p)).length + 1)) 3).length = 3 := by
  rw [T_dot3, occ_S _ _ (by decide), occ_dots p hp, partsBetween_eq]; rfl

/-! ### counts, membership -/
theorem inS_T (l : List Nat) (c : Nat) : inS (T l) (T [c]) = decide (c ∈ l) := by
  unfold inS
  exact found_one (T l) c

/-! ### slices -/
theorem cutS_T (l : List Nat) (lo hi : Option Int) : cutS (T l) lo hi = T (cut l lo hi) := rfl
theorem clip_nat (n a : Nat) : clipAt n (a : Int) = min a n := by
  unfold clipAt
  rw [if_neg (by omega)]; omega
theorem cut_nat (l : List Nat) (a b : Nat) : cut l (some (a : Int)) (some (b : Int)) = (l.drop a).take (b - a) := by
  show (l.drop (clipAt l.length (a : Int))).take (clipAt l.length (b : Int) - clipAt l.length (a : Int)) = _
  rw [clip_nat, clip_nat]
  by_cases ha : a ≤ l.length
  · rw [Nat.min_eq_left ha]
    by_cases hb : b ≤ l.length
    · rw [Nat.min_eq_left hb]
    · rw [Nat.min_eq_right (by omega), List.take_of_length_le (by rw [List.length_drop]; omega), List.take_of_length_le (by rw [List.length_drop]; omega)]
  · rw [List.drop_eq_nil_of_le (by omega), List.drop_eq_nil_of_le (by omega)]; simp
theorem cut_to {α : Type} (l : List α) (b : Nat) : cut l none (some (b : Int)) = l.take b := by
  show (l.drop 0).take (clipAt l.length (b : Int) - 0) = _
  rw [clip_nat, List.drop_zero, Nat.sub_zero]
  by_cases hb : b ≤ l.length
  · rw [Nat.min_eq_left hb]
  · rw [Nat.min_eq_right (by omega), List.take_of_length_le (by omega), List.take_of_length_le (by omega)]
theorem cut_from {α : Type} (l : List α) (a : Nat) : cut l (some (a : Int)) none = l.drop a := by
  show (l.drop (clipAt l.length (a : Int))).take (l.length - clipAt l.length (a : Int)) = _
  rw [clip_nat]
  by_cases ha : a ≤ l.length
  · rw [Nat.min_eq_left ha, List.take_of_length_le (by rw [List.length_drop]; omega)]
  · rw [List.drop_eq_nil_of_le (by omega), List.drop_eq_nil_of_le (by omega)]; simp

/-! ### joining -/
theorem join_T0 (ls : List (List Nat)) : Txt.join (T []) (ls.map T) = T ls.flatten := by
  show Builtin.Str.glued _ _ = _
  rw [glued_eq_join]
  induction ls with
  | nil => rfl
  | cons x r ih =>
    cases r with
    | nil => show T x = _; simp
    | cons y r =>
      show T x ++ T [] ++ Str.join (T []) (T y :: r.map T) = _
      rw [show (T y :: r.map T) = (y :: r).map T from rfl, ih, T_app, T_app]; simp
theorem joinOk_of {sep : Str} {ss : List Str} (h : (ss.map (·.length)).sum + ss.length * sep.length ≤ 16000000) : JoinOk sep ss = true := by
  unfold JoinOk tooLong
  rw [joinTotal, sizeLine_eq]
  simp; omega
theorem sum_T (ls : List (List Nat)) : ((ls.map T).map (·.length)).sum = ls.flatten.length := by
  induction ls with
  | nil => rfl
  | cons x r ih => rw [List.map_cons, List.map_cons, List.sum_cons, ih, T_len, List.flatten_cons, List.length_append]
theorem joinOk_T {q : List Nat} {ls : List (List Nat)} (h : ls.flatten.length + ls.length * q.length ≤ 16000000) : JoinOk (T q) (ls.map T) = true := joinOk_of (by rw [sum_T, List.length_map, T_len]; exact h)
theorem sum_le {ss : List Str} {m : Nat} (h : ∀ x ∈ ss, x.length ≤ m) : (ss.map (·.length)).sum ≤ ss.length * m := by
  induction ss with
  | nil => simp
  | cons x r ih =>
    have h1 := h x List.mem_cons_self
    have h2 := ih fun y hy => h y (List.mem_cons_of_mem _ hy)
    rw [List.map_cons, List.sum_cons, List.length_cons, Nat.succ_mul]; omega
theorem parts_le (x : Str) (w : Nat) : ∀ (cuts : List Nat) (a : Nat), ∀ z ∈ partsFrom x w a cuts, z.length ≤ x.length
  | [], a, z, h => by
    rcases List.mem_cons.mp h with rfl | h
    · simp only [strSub, Str.length, Array.size_extract]; omega
    · cases h
  | c :: r, a, z, h => by
    rcases List.mem_cons.mp h with rfl | h
    · simp only [strSub, Str.length, Array.size_extract]; omega
    · exact parts_le x w r _ z h
theorem parts_len (x : Str) (w : Nat) : ∀ (cuts : List Nat) (a : Nat), (partsFrom x w a cuts).length = cuts.length + 1
  | [], _ => rfl
  | _ :: r, a => congrArg (· + 1) (parts_len x w r _)
theorem split_len {x y : Str} (hy : y.length ≠ 0) (hx : x.length ≤ 1000) : (partsBetween x (occurrences x y 0 x.length (x.length + 1)) y.length).length ≤ 1002 := by
  rw [partsBetween_eq, parts_len]
  have := occ_length_le x y 0 x.length (x.length + 1)
  omega
theorem split_ok {x y q : Str} (hy : y.length ≠ 0) (hx : x.length ≤ 1000) (hq : q.length ≤ 1000) : JoinOk q (Txt.split x y) = true := by
  have hl := split_len hy hx
  rw [split_parts x y hy]
  refine joinOk_of ?_
  have h1 := sum_le (ss := partsBetween x (occurrences x y 0 x.length (x.length + 1)) y.length) (m := x.length) (by rw [partsBetween_eq]; exact parts_le x _ _ _)
  have h2 := Nat.mul_le_mul hl hx
  have h3 := Nat.mul_le_mul hl hq
  omega
end Mine
end

section
open PySem PySem.W PyProof.Rows PyProof.V PySem.Spec PySem.SeqAt
set_option linter.unusedVariables false
namespace Mine
section
variable {c : Cx} {n : Nat} {fd : FD} {σ σ₁ σ₂ σ₃ : S}

theorem small_rr {lo hi : Int} (h0 : 0 ≤ lo) (h1 : lo ≤ 10000) (h2 : 0 ≤ hi) (h3 : hi ≤ 10000) : Builtin.Range.small lo hi 1 = true := by
  unfold Builtin.Range.small Builtin.Range.rangeSize
  simp only [Builtin.Range.rangeFitsLong, Bool.and_eq_true, Bool.or_eq_true, decide_eq_true_eq, beq_iff_eq, show ((1 : Int) > 0) = True by simp, if_true, Int.ediv_one]
  split <;> omega
theorem small_rng {N : Nat} (h : N ≤ 1000) : Builtin.Range.small 0 (N : Int) 1 = true := small_rr (by omega) (by omega) (by omega) (by omega)
theorem seqIx {j m : Nat} (h : j < m) : seqIndex? (j : Int) m = some j := by
  unfold seqIndex?
  simp [h]; try omega

theorem Ev.idxT {value slice : Expr} {pos : Pos} {i j : Nat} {xs : List AV} {v : AV} (h1 : Ev c n fd value σ (.ref i) σ₁) (h2 : Ev c n fd slice σ₁ (.int (j : Int)) σ₂) (ho : σ₂.os[i]? = some (.tup xs)) (hv : xs[j]? = some v) (hj : j < 1000000)
    (hsub : ∀ o i, subscripted slice false o i = operate [o, i] (getItem o i)) : Ev c n fd (.Subscript value slice pos) σ v σ₂ :=
  Ev.sub h1 h2 (.tup ho) (item_t (j := j) ho (by omega) (by omega) (seqIx (List.getElem?_eq_some_iff.mp hv).1) hv) hsub
theorem Ev.idxL {value slice : Expr} {pos : Pos} {i j : Nat} {xs : List AV} {v : AV} (h1 : Ev c n fd value σ (.ref i) σ₁) (h2 : Ev c n fd slice σ₁ (.int (j : Int)) σ₂) (ho : σ₂.os[i]? = some (.list xs)) (hv : xs[j]? = some v) (hj : j < 1000000)
    (hsub : ∀ o i, subscripted slice false o i = operate [o, i] (getItem o i)) : Ev c n fd (.Subscript value slice pos) σ v σ₂ :=
  Ev.sub h1 h2 (.list ho) (item_l (k := (j : Int)) ho (by omega) (by omega) (by simpa using hv)) hsub
theorem Ev.idxS {value slice : Expr} {pos : Pos} {j ch : Nat} {l : List Nat} (h1 : Ev c n fd value σ (.str (T l)) σ₁) (h2 : Ev c n fd slice σ₁ (.int (j : Int)) σ₂) (hv : l[j]? = some ch) (hj : j < 1000000)
    (hsub : ∀ o i, subscripted slice false o i = operate [o, i] (getItem o i)) : Ev c n fd (.Subscript value slice pos) σ (.str (T [ch])) σ₂ := by
  have hlt := (List.getElem?_eq_some_iff.mp hv).1
  refine Ev.sub h1 h2 .str (item_s (x := T l) (i := (j : Int)) (ch := ch) ?_ ?_) hsub
  · simp; omega
  · rw [T_len, seqIx hlt]
    show (T l).cps[j]? = some ch
    simpa [T] using hv
end
end Mine
end

section
open PySem PySem.W PyProof.Rows PyProof.V PySem.Spec PySem.SeqAt
set_option linter.unusedVariables false
namespace Mine
section
variable {c : Cx} {n : Nat} {fd : FD} {σ σ₁ σ₂ σ₃ : S}

theorem item_str {os : List AO} {l : List Nat} {k : Nat} (h : k < l.length) : (Src.str (T l)).item os k = some (.str (T [l.getD k 0])) := by
  unfold Src.item
  show Option.map _ (l.toArray[k]?) = _
  rw [List.getElem?_toArray, List.getD_eq_getElem?_getD, List.getElem?_eq_getElem h]; rfl
theorem item_strE {os : List AO} {l : List Nat} : (Src.str (T l)).item os l.length = Option.none := by
  unfold Src.item
  show Option.map _ (l.toArray[l.length]?) = _
  rw [List.getElem?_toArray, List.getElem?_eq_none (Nat.le_refl _)]; rfl
theorem Ev.map (N : Nat) (osf : Nat → List AO) (item u : Nat → AV) {elt : Expr} {scope : Scope} {pos : Pos} {x : Str} {px : Pos} {iter : Expr} {a : AV} {src : Src} {vs : List (Str × AV)} (h1 : Ev c n fd iter σ a ⟨vs, osf 0⟩) (hi : Itr (osf 0) a src)
    (hitem : ∀ k, k < N → src.item (osf k) k = some (item k)) (hdone : src.item (osf N) N = Option.none) (ok : src.Ok (osf N)) (hl : (fd.sub scope).scope.names.lookup x = some .local) (turn : ∀ k, k < N → ∃ vs', Ev c n (fd.sub scope) elt ⟨[(x, item k)], osf k⟩ (u k) ⟨vs', osf (k + 1)⟩) (hz : N ≤ sizeLine) (k : CompOk fd scope)
    (hs : ∀ env v, foldedSetIterable iter env v = Pure.pure v) (hk : (fd.sub scope).scope.kind = .function := by rfl) :
    Ev c n fd (.ListComp elt [⟨.Name x px, iter, [], 0⟩] scope pos) σ (.ref (osf N).length) ⟨vs, osf N ++ [.list ((List.range N).map u)]⟩ := by
  have := Cp.loop (c := c) (n := n) (fd := fd.sub scope) (elt := elt) (gens := [⟨.Name x px, iter, [], 0⟩]) (scope := scope) (pos := pos) (d := 0) (src := src) (x := x) (px := px) (iter := iter) N osf item u [] hitem hdone ok hl turn (by simpa using hz) rfl rfl hk
  exact Ev.comp (σ₁ := ⟨vs, osf 0⟩) (σ₂ := ⟨[], osf N⟩) h1 hi this ⟨_, rfl⟩ k hs

theorem Ex.assignMap (N : Nat) (osf : Nat → List AO) (item u : Nat → AV) {y : Str} {py ps : Pos} {elt : Expr} {scope : Scope} {pos : Pos} {x : Str} {px : Pos} {iter : Expr} {a : AV} {src : Src} {vs : List (Str × AV)} (h1 : Ev c n fd iter σ a ⟨vs, osf 0⟩) (hi : Itr (osf 0) a src)
    (hitem : ∀ k, k < N → src.item (osf k) k = some (item k)) (hdone : src.item (osf N) N = Option.none) (ok : src.Ok (osf N)) (hl : (fd.sub scope).scope.names.lookup x = some .local) (turn : ∀ k, k < N → ∃ vs', Ev c n (fd.sub scope) elt ⟨[(x, item k)], osf k⟩ (u k) ⟨vs', osf (k + 1)⟩) (hz : N ≤ sizeLine) (k : CompOk fd scope)
    (hst : Sto fd y (.ref (osf N).length) ⟨vs, osf N ++ [.list ((List.range N).map u)]⟩ σ₃) (hw : ∀ env, env.scope = fd.scope → swapsWith (.ListComp elt [⟨.Name x px, iter, [], 0⟩] scope pos) (some (.Name y py)) ps.line env = Pure.pure true)
    (hs : ∀ env v, foldedSetIterable iter env v = Pure.pure v) (hk : fd.scope.kind = .function := by rfl) (hk' : (fd.sub scope).scope.kind = .function := by rfl) :
    Ex c n fd (.Assign [.Name y py] (.ListComp elt [⟨.Name x px, iter, [], 0⟩] scope pos) ps) σ .next σ₃ := by
  have := Cp.loop (c := c) (n := n) (fd := fd.sub scope) (elt := elt) (gens := [⟨.Name x px, iter, [], 0⟩]) (scope := scope) (pos := pos) (d := 0) (src := src) (x := x) (px := px) (iter := iter) N osf item u [] hitem hdone ok hl turn (by simpa using hz) rfl rfl hk'
  exact Ex.assignComp (σ₁ := ⟨vs, osf 0⟩) (σ₂ := ⟨[], osf N⟩) h1 hi this hst ⟨_, rfl⟩ k hw hk hs
theorem compOk_of {scope : Scope} (h1 : scope.kind = .function) (h2 : scope.names.all (fun x => !(x.2 == .local) || scope.names.lookup x.1 == some .local) = true) (h3 : scope.names.all (fun x => !(x.2 == .cell)) = true) (h4 : scope.names.all (fun x => !(x.2 == .free) || (fd.cells.lookup x.1).isSome) = true) : CompOk fd scope where
  kind := h1
  names := fun x hx e => by
    have := List.all_eq_true.mp h2 x hx
    rw [e] at this; simpa using this
  cell := fun x hx e => by
    have := List.all_eq_true.mp h3 x hx
    rw [e] at this; simp at this
  free := fun x hx e => by
    have := List.all_eq_true.mp h4 x hx
    rw [e] at this; simpa using this
end
end Mine
end

section
open PySem PySem.W PyProof.Rows PyProof.V PySem.Spec PySem.SeqAt
set_option linter.unusedVariables false
namespace Mine
section
variable {c : Cx} {n : Nat} {os os' os₁ os₂ : List AO} {v v' : AV}

theorem Op.sel {t : List Value → Sem Value} {args : List AV} (m : Nat) (π' : List Nat) (go : Op c n t args os v os₁) (hm : os.length = m) (nd : (List.range m ++ π').Nodup) (hd : Held (Mine.out (List.range m ++ π') os₁.length) os₁ (List.range m ++ π') os₂)
    (hc : ∀ o ∈ os₂, ∀ i ∈ o.refs, i < os₂.length) (hv : v = v'.ren (Mine.out (List.range m ++ π') os₁.length)) : Op c n t args os v' os₂ := fun A ρ s xs rm r hx Q E hq => by
  refine go A ρ s xs rm r hx Q E fun x h' tk' ρ' q p => ?_
  intro dr
  obtain ⟨new, rfl, hfr⟩ := q.grow
  have hlen : m = ρ.length := hm.symm.trans r.objs.length
  have hlen' := p.1.objs.length
  have hpl : plc (ρ ++ new) (List.range m ++ π') = ρ ++ plc (ρ ++ new) π' := by rw [plc_append, hlen, plc_range]
  have hlt : ∀ i ∈ List.range m ++ π', i < (ρ ++ new).length := fun i hi => hlen' ▸ hd.lt i hi
  have r' := p.1.sel nd hd hc
  rw [hpl] at r'
  have q' : Reach [] ρ s.heap (ρ ++ plc (ρ ++ new) π') h' := by
    refine ⟨⟨_, rfl, fun a ha => ?_⟩, q.keep, q.size⟩
    obtain ⟨j, pp, h1, h2⟩ := foot_get ha
    obtain ⟨k, h3, h4⟩ := plc_get' (fun i hi => hlt i (List.mem_append_right _ hi)) h1
    have hk : ¬ k < ρ.length := fun hk => (List.nodup_append.mp nd).2.2 k (List.mem_range.mpr (hlen ▸ hk)) k (List.mem_of_getElem? h3) rfl
    rw [List.getElem?_append_right (by omega)] at h4
    exact hfr a (foot_mem_of_get h4 a h2)
  refine hq x h' tk' _ q' ⟨r', ?_⟩
  have h2 := p.2
  rw [hv] at h2
  rw [← hpl]; exact h2.unout hlen'

theorem vsLt_of {vs : List (Str × AV)} {m : Nat} (h : vs.all (fun q => q.2.refs.all (fun i => Nat.blt i m)) = true) : ∀ q ∈ vs, ∀ i ∈ q.2.refs, i < m := fun q hq i hi => by
  have := List.all_eq_true.mp (List.all_eq_true.mp h q hq) i hi
  exact Nat.le_of_ble_eq_true this
theorem Op.as {t : List Value → Sem Value} {args args' : List AV} {os os' os'' : List AO} {v v' : AV} (h : Op c n t args os v os') (ha : args = args') (hv : v = v') (he : os' = os'') : Op c n t args' os v' os'' := by subst ha hv he; exact h
theorem Exs.done {fd : FD} {σ σ₁ : S} (hs : Sub σ₁.vs σ.vs) (ho : σ.os = σ₁.os) : Exs c n fd [] σ .next σ₁ := Exs.fewer hs ho Exs.nil
/-- a call that touches nothing -/
theorem Op.bare {f : Value} {args : List AV} (h : CallR c n f args [] v []) (ha : ∀ r, args.map (AV.ren r) = args) (hv : ∀ r, v.ren r = v) : CallR c n f args os v os := by
  have := Op.frame (c := c) (n := n) (t := fun xs => call f xs) (args := args) (v := v) (os₀ := []) (os₀' := []) (new := []) (π := []) (os := os) (by simpa using h) rfl List.nodup_nil trivial (fun _ h => nomatch h)
  exact Op.as this (ha _) (hv _) (by simp [upd])
end
end Mine
end

section
open PySem PySem.W PyProof.Rows
set_option linter.unusedVariables false
namespace Mine
section
variable {c : Cx} {n : Nat} {fd : FD} {σ σ₁ σ₂ σ₃ : S} {os' : List AO}

theorem Exs.append {f : AF} : ∀ {a b : List Stmt} {σ : S}, Exs c n fd a σ .next σ₁ → Exs c n fd b σ₁ f σ₂ → Exs c n fd (a ++ b) σ f σ₂ := fun {a b σ} h1 h2 env A ρ s rm i => by
  rw [execs_append]
  refine Run.bind (h1 env A ρ s rm i) fun x hx tk ρ₁ q₁ p₁ => ?_
  obtain ⟨i₁, rfl⟩ := p₁
  exact h2 env A ρ₁ _ rm i₁

theorem Ex.cut {st : Stmt} {f : AF} {vs' : List (Str × AV)} {js : List AO} (go : Ex c n fd st σ f ⟨vs', os' ++ js⟩) (hl : os'.length = σ.os.length) (hc : ∀ o ∈ os', ∀ i ∈ o.refs, i < os'.length) (hv : ∀ q ∈ vs', ∀ i ∈ q.2.refs, i < os'.length) (hf : ∀ i ∈ f.refs, i < os'.length) : Ex c n fd st σ f ⟨vs', os'⟩ := fun env A ρ s rm i Q E hq => by
  refine go env A ρ s rm i Q E fun x h' tk' ρ' q p => ?_
  intro dr
  obtain ⟨new, rfl, hfr⟩ := q.grow
  have hlen : os'.length = ρ.length := hl.trans i.rel.objs.length
  refine hq x h' tk' ρ q.cut ⟨p.1.cut hlen (fun o ho k hk => hlen ▸ hc o ho k hk) (fun y v e k hk => hlen ▸ hv (y, v) (mem_of_lookup' e) k hk) i.cellsLt, ?_⟩
  have p2 := p.2
  cases f with
  | ret v => obtain ⟨z, rfl, hz⟩ := p2; exact ⟨z, rfl, hz.cut fun k hk => hlen ▸ hf k hk⟩
  | _ => exact p2
theorem Ex.less {st : Stmt} {f : AF} (go : Ex c n fd st σ f σ₁) (hs : Sub σ₂.vs σ₁.vs) (ho : σ₁.os = σ₂.os) : Ex c n fd st σ f σ₂ := fun env A ρ s rm i => (go env A ρ s rm i).mono fun x h₁ ρ₁ q p => ⟨p.1.fewer hs ho, p.2⟩

theorem Cp.two {y : Str} {pe pos : Pos} {gens : List Comprehension} {scope : Scope} {d i : Nat} {px : Pos} {iter : Expr} {a b : AV} {acc : List AV} {vs : List (Str × AV)} {os : List AO} (ho : os[i]? = some (.list [a, b])) (hl : fd.scope.names.lookup y = some .local) (hg : gens[d]? = some ⟨.Name y px, iter, [], 0⟩) (hn : gens[d + 1]? = Option.none)
    (hz : acc.length ≤ 1000) (hd : (y == ("__debug__" : Str)) = false) (hk : fd.scope.kind = .function := by rfl) : Cp c n fd (.Name y pe) gens scope pos d (.list i) 0 ⟨vs, os⟩ acc ⟨[], os⟩ (acc ++ [a, b]) := by
  have e1 : ∀ (v : AV) (vs : List (Str × AV)), Ev c n fd (.Name y pe) ⟨put y v vs, os⟩ v ⟨put y v vs, os⟩ := fun v vs => Ev.loc (by rw [lookup_put, if_pos rfl]) hl hk hd
  have h0 : (Src.list i).item os 0 = some a := by unfold Src.item; simp only [ho]; rfl
  have h1 : (Src.list i).item os 1 = some b := by unfold Src.item; simp only [ho]; rfl
  have h2 : (Src.list i).item os 2 = Option.none := by unfold Src.item; simp only [ho]; rfl
  have hz1 := sz1000
  refine Cp.step (σ₁ := ⟨put y a vs, os⟩) (σ₂ := ⟨put y a vs, os⟩) (u := a) h0 (.loc hl) (e1 _ _) ?_ (by omega) hg hn hk
  have : acc ++ [a, b] = (acc ++ [a]) ++ [b] := by simp
  rw [this]
  by_cases hz3 : (acc ++ [a]).length ≤ sizeLine
  · refine Cp.step (σ := ⟨put y a vs, os⟩) (σ₁ := ⟨put y b (put y a vs), os⟩) (σ₂ := ⟨put y b (put y a vs), os⟩) (u := b) h1 (.loc hl) (e1 _ _) ?_ hz3 hg hn hk
    exact Cp.fewer (σ₁ := ⟨[], os⟩) trivial rfl (Cp.done hg h2 ⟨_, ho⟩)
  · rw [sizeLine_eq] at hz3 hz1; simp at hz3; omega
variable {L : Law}
theorem Bk.st (B : Bk c L) (k : Nat) (q : List (AV × List AO)) (σ₁ : S) {st : Stmt} {st' : St} (h : bS c n fd L B.K B.G B.Mt false k st ⟨σ, q, True⟩ = some st') (hφ : st'.φ) (hs : Sub σ₁.vs st'.σ.vs) (ho : st'.σ.os = σ₁.os) (hk : fd.scope.kind = .function := by rfl) : Ex c n fd st σ .next σ₁ :=
  Ex.less (bS_ok B.H B.hK B.hG hk h hφ).2 hs ho
theorem Bk.st' (B : Bk c L) (k : Nat) (q : List (AV × List AO)) (σ₁ : S) {st : Stmt} {st' : St} (h : bS c n fd L B.K B.G B.Mt true k st ⟨σ, q, True⟩ = some st') (hφ : st'.φ) (hs : Sub σ₁.vs st'.σ.vs) (ho : st'.σ.os = σ₁.os) (hk : fd.scope.kind = .function := by rfl) : Ex c n fd st σ .next σ₁ :=
  Ex.less (bS_ok B.H B.hK B.hG hk h hφ).2 hs ho
theorem Ev.mapAs (N : Nat) (osf : Nat → List AO) (item u : Nat → AV) (acc : List AV) (hacc : (List.range N).map u = acc) {elt : Expr} {scope : Scope} {pos : Pos} {x : Str} {px : Pos} {iter : Expr} {a : AV} {src : Src} {vs : List (Str × AV)} (h1 : Ev c n fd iter σ a ⟨vs, osf 0⟩) (hi : Itr (osf 0) a src)
    (hitem : ∀ k, k < N → src.item (osf k) k = some (item k)) (hdone : src.item (osf N) N = Option.none) (ok : src.Ok (osf N)) (hl : (fd.sub scope).scope.names.lookup x = some .local) (turn : ∀ k, k < N → ∃ vs', Ev c n (fd.sub scope) elt ⟨[(x, item k)], osf k⟩ (u k) ⟨vs', osf (k + 1)⟩) (hz : N ≤ sizeLine) (k : CompOk fd scope)
    (hs : ∀ env v, foldedSetIterable iter env v = Pure.pure v) (hk : (fd.sub scope).scope.kind = .function := by rfl) :
    Ev c n fd (.ListComp elt [⟨.Name x px, iter, [], 0⟩] scope pos) σ (.ref (osf N).length) ⟨vs, osf N ++ [.list acc]⟩ := hacc ▸ Ev.map N osf item u h1 hi hitem hdone ok hl turn hz k hs hk
/-- a statement alone -/
theorem Exs.one {st : Stmt} (h : Exs c n fd [st] σ .next σ₁) : Ex c n fd st σ .next σ₁ := fun env A ρ s rm i => by
  have := h env A ρ s rm i
  rw [execs_cons] at this
  refine Run.of_eq ?_ this
  refine (bind_pure (exec st env)).symm.trans ?_
  congr 1; funext f
  cases f <;> rfl
end

section
variable {c : Cx} {n : Nat} {fd : FD} {σ σ₁ σ₂ σ₃ σ₄ : S} {X : List Addr} {A : Around} {ρ : List Pl} {s : Shared} {os : List AO} {E : Value → Shared → Prop}

theorem gipB {l : Addr} {its : Array Value} {x : Value} (hb : c.hb.IsList l its) (r : Rel c X os ρ s.heap) (hv : VR ρ (.lit (.ref l)) x) {Q : Bool → Shared → Prop} (hq : Q false s) : wpAny c.M A (getitemInPython x) Q E s := by
  cases hv
  obtain ⟨o, h1, h2, h3⟩ := hb
  have hT : s.TypeIs (.ref l) "list" := Heap.IsList.typeIs ⟨o, r.keep _ _ h1, h2, h3⟩
  rw [getitemInPython_of_ne hT.not_modules]
  exact wpAny_bind (wpAny_specialOf hT slot_list_getitem.lookup (wpAny_pure hq))

theorem Ev.sliceB {value : Expr} {lower upper step : Option Expr} {p pos : Pos} {v : AV} {l : Addr} {its : Array Value} {lo hi st : Option Int} {os : List AO} (h1 : Ev c n fd value σ (.lit (.ref l)) σ₁) (h2 : EvP c n fd lower σ₁ lo σ₂) (h3 : EvP c n fd upper σ₂ hi σ₃) (h4 : EvP c n fd step σ₃ st σ₄) (hb : c.hb.IsList l its) (h5 : SlOp c n (.lit (.ref l)) lo hi st σ₄.os v os) :
    Ev c n fd (.Subscript value (.Slice lower upper step p) pos) σ v ⟨σ₄.vs, os⟩ := fun env A ρ s rm i => by
  rw [eval_Subscript]
  refine Run.bind (h1 env A ρ s rm i) fun x h₁ tk₁ ρ₁ q₁ p₁ => ?_
  refine Run.bind (P := fun ρ' h' y => ∃ sl vl vu vst, y = .ref sl ∧ In c fd σ₄ env ρ' h' ∧ VR ρ' (.lit (.ref l)) x ∧ h'.IsSliceOf sl vl vu vst ∧ PR lo vl ∧ PR hi vu ∧ PR st vst) (Run.holding ?_) fun y h₂ tk₂ ρ₂ q₂ p₂ => Run.stand ?_
  · rw [arm_eval_Slice]
    refine Run.bind (h2 env A ρ₁ _ rm p₁.1) fun vl h₂ tk₂ ρ₂ q₂ p₂ => ?_
    refine Run.bind (Run.holding (h3 env A ρ₂ _ rm p₂.1)) fun vu h₃ tk₃ ρ₃ q₃ p₃ => ?_
    refine Run.bind (Run.holding (h4 env A ρ₃ _ rm p₃.1)) fun vst h₄ tk₄ ρ₄ q₄ p₄ => ?_
    intro dr
    intro Q E hq
    refine wpAny_newObj_type (hq _ _ tk₄ ρ₄ (Reach.waste _ ρ₄ h₄ _) ⟨h₄.objs.size, vl, vu, vst, rfl, p₄.1.lift (Reach.waste [] ρ₄ h₄ _) (p₄.1.rel.none.waste _), ((p₁.2.reach q₂).reach q₃).reach q₄, Heap.IsSliceOf.new h₄ vl vu vst, p₂.2, p₃.2, p₄.2⟩) (by size_fits)
  · obtain ⟨sl, vl, vu, vst, rfl, i₂, ha, hsl, hl, hu, ht⟩ := p₂
    refine Run.bind (P := fun ρ' h' z => (In c fd σ₄ env ρ' h' ∧ VR ρ' (.lit (.ref l)) x ∧ h'.IsSliceOf sl vl vu vst) ∧ z = false) (fun Q E hq => gipB hb i₂.rel ha (hq _ _ tk₂ ρ₂ (Reach.refl ..) ⟨⟨i₂, ha, hsl⟩, rfl⟩)) fun z h₃ tk₃ ρ₃ q₃ p₃ => ?_
    intro dr
    obtain ⟨⟨i₃, ha₃, hsl₃⟩, rfl⟩ := p₃
    have hsub : ∃ l, subscripted (.Slice lower upper step p) false x (.ref sl) = PySem.operate l (getItem x (.ref sl)) := by cases step <;> exact ⟨_, rfl⟩
    obtain ⟨l, hl'⟩ := hsub
    rw [hl']
    refine Run.bind (Run.operate (i₃.op (h5 A ρ₃ _ x sl vl vu vst rm i₃.rel.none ha₃ hsl₃ hl hu ht))) fun r h₄ tk₄ ρ₄ q₄ p₄ => ?_
    exact fun Q E hq => wpAny_bind (wpAny_letTemporaryGo (wpAny_pure (hq _ h₄ tk₄ ρ₄ (Reach.refl ..) p₄)))
end
end Mine
end

section
open PySem
set_option linter.unusedVariables false
namespace Mine

/-! ## four signs, two of them the undoing of the other two: the free group of two letters -/
inductive Sg | a | u | b | v
  deriving DecidableEq
namespace Sg
/-- the undoing -/
noncomputable def inv : Sg → Sg
  | a => u
  | u => a
  | b => v
  | v => b
noncomputable def cd : Sg → Nat
  | a => 97
  | u => 34
  | b => 32
  | v => 92
@[simp] theorem inv_inv (x : Sg) : x.inv.inv = x := by cases x <;> rfl
theorem inv_ne (x : Sg) : x.inv ≠ x := by cases x <;> exact fun h => Sg.noConfusion h
theorem inv_inj {x y : Sg} (h : x.inv = y.inv) : x = y := by rw [← inv_inv x, h, inv_inv]
theorem cd_inj {x y : Sg} (h : x.cd = y.cd) : x = y := by cases x <;> cases y <;> first | rfl | (exact absurd h (by decide))
end Sg
open Sg

/-- no sign beside its undoing -/
noncomputable def Rd : List Sg → Prop
  | [] => True
  | x :: t => t.head? ≠ some x.inv ∧ Rd t
noncomputable def act (x : Sg) : List Sg → List Sg
  | [] => [x]
  | y :: t => if y = x.inv then t else x :: y :: t
noncomputable def rd : List Sg → List Sg
  | [] => []
  | x :: t => act x (rd t)
noncomputable def acts : List Sg → List Sg → List Sg
  | [], s => s
  | x :: t, s => act x (acts t s)

theorem Rd.act (x : Sg) {s : List Sg} (h : Rd s) : Rd (act x s) := by
  cases s with
  | nil => exact ⟨(fun h => nomatch h), trivial⟩
  | cons y t =>
    show Rd (if y = x.inv then t else x :: y :: t)
    by_cases hy : y = x.inv
    · rw [if_pos hy]; exact h.2
    · rw [if_neg hy]; exact ⟨fun e => hy (Option.some.inj e), h⟩
theorem Rd_rd : ∀ w : List Sg, Rd (rd w)
  | [] => trivial
  | x :: t => (Rd_rd t).act x
theorem Rd_acts {s : List Sg} (h : Rd s) : ∀ w : List Sg, Rd (acts w s)
  | [] => h
  | x :: t => (Rd_acts h t).act x
theorem act_inv (x : Sg) {s : List Sg} (h : Rd s) : act x.inv (act x s) = s := by
  cases s with
  | nil => show (if x = x.inv.inv then [] else _) = _; rw [inv_inv, if_pos rfl]
  | cons y t =>
    show act x.inv (if y = x.inv then t else x :: y :: t) = _
    by_cases hy : y = x.inv
    · rw [if_pos hy]
      cases t with
      | nil => subst hy; rfl
      | cons z r =>
        have : z ≠ x.inv.inv := fun e => h.1 (by rw [hy, ← e]; rfl)
        show (if z = x.inv.inv then r else _) = _
        rw [if_neg this, hy]
    · rw [if_neg hy]
      show (if x = x.inv.inv then y :: t else _) = _
      rw [inv_inv, if_pos rfl]
theorem act_inv' (x : Sg) {s : List Sg} (h : Rd s) : act x (act x.inv s) = s := by
  have := act_inv x.inv h; rwa [inv_inv] at this
theorem act_cons {x : Sg} {s : List Sg} (h : Rd (x :: s)) : act x s = x :: s := by
  cases s with
  | nil => rfl
  | cons y t => exact if_neg fun e => h.1 (by rw [e]; rfl)
theorem rd_id : ∀ {s : List Sg}, Rd s → rd s = s
  | [], _ => rfl
  | x :: t, h => by show Mine.act x (rd t) = _; rw [rd_id h.2, act_cons h]
theorem acts_act (x : Sg) {s : List Sg} (h : Rd s) (r : List Sg) : acts (act x r) s = act x (acts r s) := by
  cases r with
  | nil => rfl
  | cons y t =>
    show acts (if y = x.inv then t else x :: y :: t) s = _
    by_cases hy : y = x.inv
    · rw [if_pos hy, hy]
      exact (act_inv' x (Rd_acts h t)).symm
    · rw [if_neg hy]; rfl
theorem acts_rd {s : List Sg} (h : Rd s) : ∀ p : List Sg, acts (rd p) s = acts p s
  | [] => rfl
  | x :: t => by
    show acts (act x (rd t)) s = act x (acts t s)
    rw [acts_act x h, acts_rd h t]
theorem rd_app (p q : List Sg) : rd (p ++ q) = acts p (rd q) := by
  induction p with
  | nil => rfl
  | cons x t ih => exact congrArg (act x) ih
theorem rd_app_rd (p q : List Sg) : rd (rd p ++ rd q) = rd (p ++ q) := by
  rw [rd_app, rd_app, rd_id (Rd_rd q), acts_rd (Rd_rd q)]
theorem rd_app_l (p q : List Sg) : rd (rd p ++ q) = rd (p ++ q) := by
  rw [rd_app, rd_app, acts_rd (Rd_rd q)]
theorem rd_app_r (p q : List Sg) : rd (p ++ rd q) = rd (p ++ q) := by
  rw [rd_app, rd_app, rd_id (Rd_rd q)]
theorem rd_drop2 (p q : List Sg) (x : Sg) : rd (p ++ x :: x.inv :: q) = rd (p ++ q) := by
  rw [rd_app, rd_app]
  show acts p (act x (act x.inv (rd q))) = _
  rw [act_inv' x (Rd_rd q)]
theorem rd_drop2' (p q : List Sg) (x : Sg) : rd (p ++ x.inv :: x :: q) = rd (p ++ q) := by
  have := rd_drop2 p q x.inv; rwa [inv_inv] at this
theorem act_len (x : Sg) (s : List Sg) : (act x s).length ≤ s.length + 1 := by
  cases s with
  | nil => exact Nat.le_refl _
  | cons y t => unfold act; by_cases h : y = x.inv <;> simp [h]; omega
theorem rd_len : ∀ w : List Sg, (rd w).length ≤ w.length
  | [] => Nat.le_refl _
  | x :: t => by have := act_len x (rd t); have := rd_len t; show (act x (rd t)).length ≤ t.length + 1; omega

/-! ### both ends -/
theorem Rd_app {p q : List Sg} : Rd (p ++ q) ↔ Rd p ∧ Rd q ∧ (∀ x, p.getLast? = some x → q.head? ≠ some x.inv) := by
  induction p with
  | nil => simp [Rd]
  | cons y t ih =>
    show ((t ++ q).head? ≠ some y.inv ∧ Rd (t ++ q)) ↔ (t.head? ≠ some y.inv ∧ Rd t) ∧ _
    rw [ih]
    cases t with
    | nil =>
      simp [Rd]
      constructor
      · rintro ⟨h1, h2⟩; exact ⟨h2, h1⟩
      · rintro ⟨h1, h2⟩; exact ⟨h2, h1⟩
    | cons z r =>
      have : (z :: r).getLast? = (y :: z :: r).getLast? := by simp [List.getLast?_cons]
      rw [← this]
      simp only [List.cons_append, List.head?_cons]
      constructor
      · rintro ⟨h1, h2, h3, h4⟩; exact ⟨⟨h1, h2⟩, h3, h4⟩
      · rintro ⟨⟨h1, h2⟩, h3, h4⟩; exact ⟨h1, h2, h3, h4⟩
theorem Rd_snoc {p : List Sg} {x : Sg} (h : Rd p) (hl : p.getLast? ≠ some x.inv) : Rd (p ++ [x]) := by
  refine Rd_app.mpr ⟨h, ⟨(fun h => nomatch h), trivial⟩, fun y hy e => hl ?_⟩
  rw [hy]; have := Option.some.inj e; rw [this, inv_inv]

/-- the pile -/
noncomputable def pput (p : List Sg) (x : Sg) : List Sg := if p.getLast? = some x.inv then p.dropLast else p ++ [x]
noncomputable def pile (w : List Sg) : List Sg := w.foldl pput []
theorem pput_rd {p : List Sg} (h : Rd p) (x : Sg) : pput p x = rd (p ++ [x]) := by
  unfold pput
  by_cases hl : p.getLast? = some x.inv
  · rw [if_pos hl]
    have hp : p ≠ [] := fun e => by rw [e] at hl; cases hl
    have h2 : p = p.dropLast ++ [x.inv] := by
      have := List.dropLast_concat_getLast hp
      rw [List.getLast?_eq_some_getLast hp] at hl
      rw [← Option.some.inj hl]; exact this.symm
    have h3 : Rd p.dropLast := by rw [h2] at h; exact (Rd_app.mp h).1
    have : p ++ [x] = p.dropLast ++ x.inv :: x :: [] := by
      conv => lhs; rw [h2]
      simp
    rw [this, rd_drop2', List.append_nil, rd_id h3]
  · rw [if_neg hl, rd_id (Rd_snoc h hl)]
theorem pile_rd (w : List Sg) : pile w = rd w := by
  have : ∀ (w p : List Sg), Rd p → w.foldl pput p = rd (p ++ w) := by
    intro w
    induction w with
    | nil => intro p h; rw [List.append_nil, rd_id h]; rfl
    | cons x t ih =>
      intro p h
      show List.foldl pput (pput p x) t = _
      rw [pput_rd h, ih _ (Rd_rd _), rd_app_l, List.append_assoc]; rfl
  exact this w [] trivial

/-! ### the twos taken out, over and over -/
noncomputable def rm (x : Sg) : List Sg → List Sg
  | [] => []
  | [y] => [y]
  | y :: z :: t => if y = x ∧ z = x.inv then rm x t else y :: rm x (z :: t)
theorem rm_rd (x : Sg) : ∀ w : List Sg, rd (rm x w) = rd w
  | [] => rfl
  | [y] => rfl
  | y :: z :: t => by
    unfold rm
    by_cases h : y = x ∧ z = x.inv
    · rw [if_pos h, rm_rd x t, h.1, h.2]; exact (rd_drop2 [] t x).symm
    · rw [if_neg h]
      show act y (rd (rm x (z :: t))) = act y (rd (z :: t))
      rw [rm_rd x (z :: t)]
/-- does a two stand in the word -/
noncomputable def hasTwo (x : Sg) : List Sg → Prop
  | [] => False
  | [_] => False
  | y :: z :: t => (y = x ∧ z = x.inv) ∨ hasTwo x (z :: t)
theorem rm_len (x : Sg) : ∀ w : List Sg, (rm x w).length ≤ w.length ∧ ((rm x w).length + 2 ≤ w.length ∨ (rm x w = w ∧ ¬ hasTwo x w))
  | [] => ⟨Nat.le_refl _, .inr ⟨rfl, id⟩⟩
  | [y] => ⟨Nat.le_refl _, .inr ⟨rfl, id⟩⟩
  | y :: z :: t => by
    unfold rm
    by_cases h : y = x ∧ z = x.inv
    · rw [if_pos h]
      have := (rm_len x t).1
      simp only [List.length_cons]
      exact ⟨by omega, .inl (by omega)⟩
    · rw [if_neg h]
      have ih := rm_len x (z :: t)
      simp only [List.length_cons] at ih ⊢
      refine ⟨by omega, ?_⟩
      rcases ih.2 with h1 | ⟨h1, h2⟩
      · exact .inl (by omega)
      · exact .inr ⟨by rw [h1], fun e => e.elim h h2⟩
theorem Rd_two : ∀ {w : List Sg}, (∀ x, ¬ hasTwo x w) → Rd w
  | [], _ => trivial
  | [y], _ => ⟨(fun h => nomatch h), trivial⟩
  | y :: z :: t, h => ⟨fun e => h y (.inl ⟨rfl, Option.some.inj e⟩), Rd_two fun x hx => h x (.inr hx)⟩
noncomputable def rms : List Sg → List Sg → List Sg
  | [], w => w
  | x :: o, w => rms o (rm x w)
theorem rms_app (o q w : List Sg) : rms (o ++ q) w = rms q (rms o w) := by
  induction o generalizing w with
  | nil => rfl
  | cons x t ih => exact ih _
theorem rms_rd : ∀ (o w : List Sg), rd (rms o w) = rd w
  | [], _ => rfl
  | x :: o, w => by show rd (rms o (rm x w)) = _; rw [rms_rd o, rm_rd]
theorem rms_len : ∀ (o w : List Sg), (rms o w).length ≤ w.length ∧ ((rms o w).length + 2 ≤ w.length ∨ (rms o w = w ∧ ∀ x ∈ o, ¬ hasTwo x w))
  | [], w => ⟨Nat.le_refl _, .inr ⟨rfl, fun _ h => nomatch h⟩⟩
  | x :: o, w => by
    have h1 := rm_len x w
    have h2 := rms_len o (rm x w)
    show (rms o (rm x w)).length ≤ _ ∧ ((rms o (rm x w)).length + 2 ≤ _ ∨ _)
    refine ⟨by omega, ?_⟩
    rcases h1.2 with h | ⟨h, hn⟩
    · exact .inl (by omega)
    · rw [h] at h2 ⊢
      rcases h2.2 with g | ⟨g, gn⟩
      · exact .inl (by omega)
      · refine .inr ⟨?_, fun y hy => ?_⟩
        · show rms o (rm x w) = w
          rw [h]; exact g
        rcases List.mem_cons.mp hy with e | e
        · rw [e]; exact hn
        · exact gn y e
/-- k rounds of the four -/
noncomputable def rounds (o : List Sg) : Nat → List Sg → List Sg
  | 0, w => w
  | k + 1, w => rounds o k (rms o w)
theorem rms_fix {o w : List Sg} (h : rms o w = w) : ∀ k, rounds o k w = w
  | 0 => rfl
  | k + 1 => by show rounds o k (rms o w) = w; rw [h, rms_fix h k]
theorem rounds_ok {o : List Sg} (ho : ∀ x, x ∈ o) : ∀ (k : Nat) (w : List Sg), w.length < 2 * k → rounds o k w = rd w
  | 0, w, h => by omega
  | k + 1, w, h => by
    rcases (rms_len o w).2 with g | ⟨g, gn⟩
    · show rounds o k (rms o w) = _
      rw [rounds_ok ho k _ (by omega), rms_rd]
    · rw [rms_fix g, rd_id (Rd_two fun x => gn x (ho x))]
theorem rounds_rep (o : List Sg) : ∀ (k : Nat) (w : List Sg), rms (List.replicate k o).flatten w = rounds o k w
  | 0, _ => rfl
  | k + 1, w => by
    rw [List.replicate_succ, List.flatten_cons, rms_app]; exact rounds_rep o k _

/-- replace of a two by nothing is rm -/
noncomputable def cds (w : List Sg) : List Nat := w.map cd
theorem repl_rm (x : Sg) : ∀ w : List Sg, repl [x.cd, x.inv.cd] [] (cds w) 0 = cds (rm x w)
  | [] => rfl
  | [y] => by
    show (if ([x.cd, x.inv.cd].isPrefixOf [y.cd]) = true then _ else _) = _
    rw [if_neg (by simp [List.isPrefixOf])]; rfl
  | y :: z :: t => by
    show (if ([x.cd, x.inv.cd].isPrefixOf (y.cd :: z.cd :: cds t)) = true then _ else _) = _
    unfold rm
    by_cases h : y = x ∧ z = x.inv
    · rw [if_pos h, if_pos (by rw [h.1, h.2]; simp [List.isPrefixOf])]
      exact repl_rm x t
    · rw [if_neg h, if_neg]
      · exact congrArg (y.cd :: ·) (repl_rm x (z :: t))
      · intro e
        simp [List.isPrefixOf] at e
        exact h ⟨(cd_inj e.1).symm, (cd_inj e.2).symm⟩
end Mine
end

section
open PySem
set_option linter.unusedVariables false
namespace Mine
open Sg

/-! ## moves: products of matrices (Sanov) -/
structure M4 where
  p : Int
  q : Int
  r : Int
  s : Int
noncomputable def M4.one : M4 := ⟨1, 0, 0, 1⟩
noncomputable def mst (m : M4) : Sg → M4
  | .a => ⟨m.p, m.q + 2 * m.p, m.r, m.s + 2 * m.r⟩
  | .u => ⟨m.p, m.q - 2 * m.p, m.r, m.s - 2 * m.r⟩
  | .b => ⟨m.p + 2 * m.q, m.q, m.r + 2 * m.s, m.s⟩
  | .v => ⟨m.p - 2 * m.q, m.q, m.r - 2 * m.s, m.s⟩
noncomputable def move (w : List Sg) : M4 := w.foldl mst .one
theorem mst_inv (m : M4) (x : Sg) : mst (mst m x) x.inv = m := by
  obtain ⟨p, q, r, s⟩ := m
  cases x with
  | a => show (⟨p, q + 2 * p - 2 * p, r, s + 2 * r - 2 * r⟩ : M4) = _; rw [Int.add_sub_cancel, Int.add_sub_cancel]
  | u => show (⟨p, q - 2 * p + 2 * p, r, s - 2 * r + 2 * r⟩ : M4) = _; rw [Int.sub_add_cancel, Int.sub_add_cancel]
  | b => show (⟨p + 2 * q - 2 * q, q, r + 2 * s - 2 * s, s⟩ : M4) = _; rw [Int.add_sub_cancel, Int.add_sub_cancel]
  | v => show (⟨p - 2 * q + 2 * q, q, r - 2 * s + 2 * s, s⟩ : M4) = _; rw [Int.sub_add_cancel, Int.sub_add_cancel]
theorem mst_inj {m m' : M4} {x : Sg} (h : mst m x = mst m' x) : m = m' := by
  rw [← mst_inv m x, h, mst_inv]
theorem fold_act (x : Sg) (s : List Sg) (m : M4) : (act x s).foldl mst m = s.foldl mst (mst m x) := by
  cases s with
  | nil => rfl
  | cons y t =>
    show (if y = x.inv then t else x :: y :: t).foldl mst m = _
    by_cases hy : y = x.inv
    · rw [if_pos hy, hy]
      show _ = t.foldl mst (mst (mst m x) x.inv)
      rw [mst_inv]
    · rw [if_neg hy]; rfl
theorem fold_rd : ∀ (w : List Sg) (m : M4), (rd w).foldl mst m = w.foldl mst m
  | [], _ => rfl
  | x :: t, m => by
    show (act x (rd t)).foldl mst m = _
    rw [fold_act, fold_rd t]; rfl

/-- what a move that ends with a sign looks like -/
noncomputable def Lk (m : M4) : Sg → Prop
  | .a => ((0 < m.p ∧ m.p < m.q) ∨ (m.q < m.p ∧ m.p < 0)) ∧ ((0 ≤ m.r ∧ m.r < m.s) ∨ (m.s < m.r ∧ m.r ≤ 0))
  | .u => ((0 < m.p ∧ m.p < -m.q) ∨ (-m.q < m.p ∧ m.p < 0)) ∧ ((m.r ≤ 0 ∧ -m.r < m.s) ∨ (0 ≤ m.r ∧ m.s < -m.r))
  | .b => ((0 < m.s ∧ m.s < m.r) ∨ (m.r < m.s ∧ m.s < 0)) ∧ ((0 ≤ m.q ∧ m.q < m.p) ∨ (m.p < m.q ∧ m.q ≤ 0))
  | .v => ((0 < m.s ∧ m.s < -m.r) ∨ (-m.r < m.s ∧ m.s < 0)) ∧ ((m.q ≤ 0 ∧ -m.q < m.p) ∨ (0 ≤ m.q ∧ m.p < -m.q))
theorem Lk.one (x : Sg) : Lk (mst .one x) x := by cases x <;> simp [mst, M4.one, Lk]
theorem Lk.step {m : M4} {x y : Sg} (h : Lk m y) (hn : y ≠ x.inv) : Lk (mst m x) x := by
  cases x <;> cases y <;> first | exact absurd rfl hn | (simp only [Lk, mst] at h ⊢; omega)
theorem Lk.same {m : M4} {x y : Sg} (h : Lk m x) (g : Lk m y) : x = y := by
  cases x <;> cases y <;> first | rfl | (simp only [Lk] at h g; omega)
theorem Lk.ne {x : Sg} : ¬ Lk .one x := by
  cases x <;> simp [M4.one, Lk]

theorem move_snoc (w : List Sg) (x : Sg) : move (w ++ [x]) = mst (move w) x := by
  unfold move; rw [List.foldl_append]; rfl
theorem Rd_rev {x : Sg} {l : List Sg} (h : Rd (x :: l).reverse) : Rd l.reverse ∧ ∀ y r, l = y :: r → y ≠ x.inv := by
  rw [List.reverse_cons] at h
  obtain ⟨h1, _, h3⟩ := Rd_app.mp h
  refine ⟨h1, fun y r e hy => ?_⟩
  refine h3 y (by rw [e]; simp) ?_
  rw [hy, inv_inv]; rfl
theorem move_look : ∀ (x : Sg) (l : List Sg), Rd (x :: l).reverse → Lk (move (x :: l).reverse) x
  | x, [], _ => Lk.one x
  | x, y :: r, h => by
    have k := Rd_rev h
    have ih := move_look y r k.1
    rw [List.reverse_cons, move_snoc]
    exact ih.step (k.2 y r rfl)
theorem move_inj : ∀ (l k : List Sg), Rd l.reverse → Rd k.reverse → move l.reverse = move k.reverse → l = k
  | [], [], _, _, _ => rfl
  | [], y :: k, _, hk, h => by
    have := move_look y k hk
    rw [← h] at this
    exact absurd this Lk.ne
  | x :: l, [], hl, _, h => by
    have := move_look x l hl
    rw [h] at this
    exact absurd this Lk.ne
  | x :: l, y :: k, hl, hk, h => by
    have h1 := move_look x l hl
    have h2 := move_look y k hk
    rw [h] at h1
    obtain rfl := h1.same h2
    rw [List.reverse_cons, List.reverse_cons, move_snoc, move_snoc] at h
    rw [move_inj l k (Rd_rev hl).1 (Rd_rev hk).1 (mst_inj h)]
theorem move_rd (w : List Sg) : move (rd w) = move w := fold_rd w _
/-- words that make one move are cancelled to one word -/
theorem move_iff {w w' : List Sg} : move w = move w' ↔ rd w = rd w' := by
  constructor
  · intro h
    rw [← move_rd w, ← move_rd w'] at h
    have := move_inj (rd w).reverse (rd w').reverse (by rw [List.reverse_reverse]; exact Rd_rd w) (by rw [List.reverse_reverse]; exact Rd_rd w') (by rw [List.reverse_reverse, List.reverse_reverse]; exact h)
    simpa using congrArg List.reverse this
  · intro h
    rw [← move_rd w, ← move_rd w', h]
end Mine
end

section
open PySem
set_option linter.unusedVariables false
namespace Mine
open Sg

/-! ## turns of a word -/
inductive Rt (c : List Sg) : List Sg → Prop
  | refl : Rt c c
  | step {x : Sg} {t : List Sg} (h : Rt c (x :: t)) : Rt c (t ++ [x])
theorem Rt.trans {a b c : List Sg} (h : Rt a b) (g : Rt b c) : Rt a c := by
  induction g with
  | refl => exact h
  | step _ ih => exact ih.step
theorem Rt.app {c : List Sg} : ∀ (p q : List Sg), Rt c (p ++ q) → Rt c (q ++ p)
  | [], q, h => by rw [List.append_nil]; exact h
  | x :: p, q, h => by
    have := Rt.app p (q ++ [x]) (by rw [← List.append_assoc]; exact Rt.step h)
    rwa [List.append_assoc] at this
theorem Rt.back {x : Sg} {c t : List Sg} (h : Rt c (t ++ [x])) : Rt c (x :: t) := Rt.app t [x] h
theorem Rt.symm {a b : List Sg} (h : Rt a b) : Rt b a := by
  induction h with
  | refl => exact .refl
  | @step x t _ ih => exact (Rt.back (x := x) (t := t) .refl).trans ih
theorem Rt.len {a b : List Sg} (h : Rt a b) : b.length = a.length := by
  induction h with
  | refl => rfl
  | step _ ih => rw [← ih]; simp
theorem Rt.cut (w : List Sg) (k : Nat) : Rt w (w.drop k ++ w.take k) := Rt.app (w.take k) (w.drop k) (by rw [List.take_append_drop]; exact .refl)
theorem Rt.at {w t : List Sg} (h : Rt w t) : ∃ k, k ≤ w.length ∧ t = w.drop k ++ w.take k := by
  induction h with
  | refl => exact ⟨0, Nat.zero_le _, by simp⟩
  | @step x t h ih =>
    obtain ⟨k, hk, e⟩ := ih
    by_cases hl : k < w.length
    · refine ⟨k + 1, hl, ?_⟩
      have hd : w.drop k = w[k] :: w.drop (k + 1) := List.drop_eq_getElem_cons hl
      rw [hd] at e
      have e1 := (List.cons.inj e).1
      have e2 : t = w.drop (k + 1) ++ w.take k := (List.cons.inj e).2
      rw [e2, e1, List.append_assoc, List.take_append_getElem]
    · have hkl : k = w.length := by omega
      subst hkl
      rw [List.drop_length, List.nil_append, List.take_length] at e
      refine ⟨1, by rw [← e]; simp, ?_⟩
      rw [← e]; rfl

noncomputable def winv (w : List Sg) : List Sg := (w.map inv).reverse
theorem winv_cons (x : Sg) (g : List Sg) : winv (x :: g) = winv g ++ [x.inv] := by simp [winv]
theorem winv_len (w : List Sg) : (winv w).length = w.length := by simp [winv]

/-- all turns are without a two -/
noncomputable def CR (c : List Sg) : Prop := ∀ d, Rt c d → Rd d
theorem CR.rt {c d : List Sg} (h : CR c) (r : Rt c d) : CR d := fun e he => h e (r.trans he)
/-- a core with its wrapping -/
noncomputable def Fm (c u : List Sg) : Prop := ∃ g d, Rt c d ∧ u = g ++ d ++ winv g ∧ Rd u

theorem Rd_snoc' {p : List Sg} {x : Sg} (h : Rd (p ++ [x])) : Rd p := (Rd_app.mp h).1
theorem Rd_ends {x : Sg} {m : List Sg} {z : Sg} (h : Rd (m ++ [z])) (hz : z ≠ x.inv) : Rd (m ++ [z] ++ [x]) :=
  Rd_snoc h (by rw [List.getLast?_concat]; exact fun e => hz (Option.some.inj e))

theorem Fm.turn {c u : List Sg} (hc : CR c) (h : Fm c u) (x : Sg) : Fm c (rd (x.inv :: u ++ [x])) := by
  obtain ⟨g, d, hd, rfl, hu⟩ := h
  cases g with
  | cons y g =>
    have e1 : y :: g ++ d ++ winv (y :: g) = y :: (g ++ d ++ winv g) ++ [y.inv] := by rw [winv_cons]; simp
    rw [e1] at hu ⊢
    by_cases hy : y = x
    · subst hy
      have e2 : y.inv :: (y :: (g ++ d ++ winv g) ++ [y.inv]) ++ [y] = [] ++ y.inv :: y :: ((g ++ d ++ winv g) ++ y.inv :: y :: []) := by simp
      have hr : Rd (g ++ d ++ winv g) := (Rd_snoc' hu).2
      rw [e2, rd_drop2', List.nil_append, rd_drop2', List.append_nil, rd_id hr]
      exact ⟨g, d, hd, rfl, hr⟩
    · have hr : Rd (x.inv :: (y :: (g ++ d ++ winv g) ++ [y.inv]) ++ [x]) := by
        have h1 : Rd (x.inv :: (y :: (g ++ d ++ winv g) ++ [y.inv])) := ⟨fun e => hy (by rw [inv_inv] at e; exact Option.some.inj e), hu⟩
        have := Rd_ends (x := x) (m := x.inv :: y :: (g ++ d ++ winv g)) (z := y.inv) h1 (fun e => hy (inv_inj e))
        simpa using this
      rw [rd_id hr]
      refine ⟨x.inv :: y :: g, d, hd, ?_, hr⟩
      rw [winv_cons, winv_cons, inv_inv]; simp
  | nil =>
    have hw : winv [] = [] := rfl
    rw [hw, List.append_nil, List.nil_append] at hu ⊢
    cases d with
    | nil =>
      have : rd (x.inv :: [] ++ [x]) = [] := rd_drop2' [] [] x
      rw [this]
      exact ⟨[], [], hd, rfl, trivial⟩
    | cons y t =>
      by_cases hy : y = x
      · subst hy
        have : rd (y.inv :: (y :: t) ++ [y]) = rd (t ++ [y]) := rd_drop2' [] (t ++ [y]) y
        rw [this, rd_id (hc _ hd.step)]
        exact ⟨[], _, hd.step, by simp [winv], hc _ hd.step⟩
      · by_cases hl : (y :: t).getLast? = some x.inv
        · have hne : y :: t ≠ [] := fun e => nomatch e
          have h2 : y :: t = (y :: t).dropLast ++ [x.inv] := by
            have := List.dropLast_concat_getLast hne
            rw [List.getLast?_eq_some_getLast hne] at hl
            rw [← Option.some.inj hl]; exact this.symm
          generalize hp : (y :: t).dropLast = p at h2
          rw [h2] at hd ⊢
          have e2 : x.inv :: (p ++ [x.inv]) ++ [x] = (x.inv :: p) ++ x.inv :: x :: [] := by simp
          rw [e2, rd_drop2', List.append_nil, rd_id (hc _ hd.back)]
          exact ⟨[], _, hd.back, by simp [winv], hc _ hd.back⟩
        · have h1 : Rd ((y :: t) ++ [x]) := Rd_snoc hu hl
          have hr : Rd (x.inv :: (y :: t) ++ [x]) := ⟨fun e => hy (by rw [inv_inv] at e; exact Option.some.inj e), h1⟩
          rw [rd_id hr]
          exact ⟨[x.inv], y :: t, hd, by simp [winv], hr⟩
theorem Fm.turns {c w t : List Sg} (hc : CR c) (h : Fm c (rd w)) (r : Rt w t) : Fm c (rd t) := by
  induction r with
  | refl => exact h
  | @step x t _ ih =>
    have := ih.turn hc x
    have e : rd (x.inv :: rd (x :: t) ++ [x]) = rd (t ++ [x]) := by
      have e1 : x.inv :: rd (x :: t) ++ [x] = [x.inv] ++ (rd (x :: t) ++ [x]) := rfl
      rw [e1, ← rd_app_r, rd_app_l, rd_app_r]
      exact rd_drop2' [] (t ++ [x]) x
    rwa [e] at this

theorem hasTwo_split {x : Sg} : ∀ {w : List Sg}, hasTwo x w → ∃ p q, w = p ++ x :: x.inv :: q
  | y :: z :: t, .inl ⟨h1, h2⟩ => ⟨[], t, by rw [h1, h2]; rfl⟩
  | y :: z :: t, .inr h => by
    obtain ⟨p, q, e⟩ := hasTwo_split h
    exact ⟨y :: p, q, by rw [e]; rfl⟩

/-- every word has a core; each turn of the core is what some turn of the word is cancelled to -/
theorem core : ∀ (n : Nat) (w : List Sg), w.length ≤ n → ∃ c, CR c ∧ Fm c (rd w) ∧ ∀ d, Rt c d → ∃ t, Rt w t ∧ rd t = d := by
  intro n
  induction n with
  | zero =>
    intro w hw
    have : w = [] := List.length_eq_zero_iff.mp (by omega)
    subst this
    have hr : ∀ d, Rt ([] : List Sg) d → d = [] := fun d h => List.length_eq_zero_iff.mp h.len
    exact ⟨[], fun d h => by rw [hr d h]; trivial, ⟨[], [], .refl, rfl, trivial⟩, fun d h => ⟨[], .refl, (hr d h).symm⟩⟩
  | succ n ih =>
    intro w hw
    by_cases h : CR w
    · exact ⟨w, h, ⟨[], w, .refl, by rw [rd_id (h w .refl)]; simp [winv], Rd_rd w⟩, fun d hd => ⟨d, hd, rd_id (h d hd)⟩⟩
    · obtain ⟨t, h⟩ := Classical.not_forall.mp h
      obtain ⟨ht, hn⟩ := Classical.not_imp.mp h
      have : ∃ x, hasTwo x t := Classical.byContradiction fun e => hn (Rd_two fun x hx => e ⟨x, hx⟩)
      obtain ⟨x, hx⟩ := this
      obtain ⟨p, q, rfl⟩ := hasTwo_split hx
      have hl := ht.len
      simp at hl
      obtain ⟨c, hc, hf, hr⟩ := ih (p ++ q) (by simp; omega)
      rw [← rd_drop2 p q x] at hf
      refine ⟨c, hc, hf.turns hc ht.symm, fun d hd => ?_⟩
      obtain ⟨t', ht', e⟩ := hr d hd
      obtain ⟨k, hk, rfl⟩ := ht'.at
      by_cases hkp : k ≤ p.length
      · refine ⟨p.drop k ++ x :: x.inv :: (q ++ p.take k), ht.trans ?_, ?_⟩
        · have := Rt.app (c := p ++ x :: x.inv :: q) (p.take k) (p.drop k ++ x :: x.inv :: q) (by rw [← List.append_assoc, List.take_append_drop]; exact .refl)
          simpa using this
        · rw [rd_drop2, ← e, List.drop_append_of_le_length hkp, List.take_append_of_le_length hkp]; simp
      · have hkp : p.length ≤ k := by omega
        obtain ⟨j, rfl⟩ : ∃ j, k = p.length + j := ⟨k - p.length, by omega⟩
        refine ⟨q.drop j ++ p ++ x :: x.inv :: q.take j, ht.trans ?_, ?_⟩
        · have := Rt.app (c := p ++ x :: x.inv :: q) (p ++ x :: x.inv :: q.take j) (q.drop j) (by simp [List.take_append_drop]; exact .refl)
          simpa using this
        · rw [rd_drop2, ← e, List.drop_append, List.take_append, List.drop_eq_nil_of_le (show p.length ≤ p.length + j by omega), List.take_of_length_le (show p.length ≤ p.length + j by omega)]; simp

theorem Fm.len {c u : List Sg} (h : Fm c u) : c.length ≤ u.length ∧ (u.length = c.length → Rt c u) := by
  obtain ⟨g, d, hd, rfl, _⟩ := h
  have := hd.len
  simp only [List.length_append, winv_len]
  refine ⟨by omega, fun e => ?_⟩
  have : g = [] := List.length_eq_zero_iff.mp (by omega)
  subst this
  simpa [winv] using hd

/-- no wrapping around nothing -/
theorem wrap_nil : ∀ {g : List Sg}, Rd (g ++ winv g) → g = []
  | [], _ => rfl
  | x :: g, h => by
    have h1 : Rd (x :: (g ++ winv g) ++ [x.inv]) := by rw [winv_cons] at h; simpa using h
    have h2 : Rd (g ++ winv g) := (Rd_snoc' h1).2
    have := wrap_nil h2
    subst this
    exact absurd rfl h1.1

theorem CR.twice {d : List Sg} (h : CR d) : Rd (d ++ d) := by
  refine Rd_app.mpr ⟨h d .refl, h d .refl, fun z hz hx => ?_⟩
  cases d with
  | nil => cases hx
  | cons x t =>
    obtain rfl : x = z.inv := Option.some.inj hx
    cases ht : t.getLast? with
    | none =>
      have : t = [] := List.getLast?_eq_none_iff.mp ht
      subst this
      exact inv_ne _ (Option.some.inj hz)
    | some y =>
      have e : (z.inv :: t).getLast? = t.getLast? := by
        cases t with
        | nil => cases ht
        | cons a b => simp [List.getLast?_cons]
      rw [e] at hz
      have := h _ (Rt.step .refl)
      exact (Rd_app.mp this).2.2 z hz rfl

theorem Fm.twice {c w : List Sg} (hc : CR c) (h : Fm c (rd w)) : (rd (w ++ w)).length = (rd w).length + c.length := by
  obtain ⟨g, d, hd, e, hr⟩ := h
  have hl := hd.len
  rw [← rd_app_rd, e]
  rw [e] at hr
  have inv2 : ∀ (g p q : List Sg), rd (p ++ winv g ++ g ++ q) = rd (p ++ q) := by
    intro g
    induction g with
    | nil => intro p q; simp [winv]
    | cons x g ih =>
      intro p q
      rw [winv_cons]
      have : p ++ (winv g ++ [x.inv]) ++ x :: g ++ q = (p ++ winv g) ++ x.inv :: x :: (g ++ q) := by simp
      rw [this, rd_drop2', ← List.append_assoc, ih]
  have e2 : g ++ d ++ winv g ++ (g ++ d ++ winv g) = (g ++ d) ++ winv g ++ g ++ (d ++ winv g) := by simp
  rw [e2, inv2]
  have hr2 : Rd (g ++ d ++ (d ++ winv g)) ∨ d = [] := by
    cases d with
    | nil => exact .inr rfl
    | cons x t =>
      refine .inl ?_
      have k1 : Rd (g ++ x :: t) := (Rd_app.mp hr).1
      have k2 : Rd (x :: t ++ winv g) := by rw [List.append_assoc] at hr; exact (Rd_app.mp hr).2.1
      refine Rd_app.mpr ⟨k1, k2, fun z hz hx => ?_⟩
      have hz' : (x :: t).getLast? = some z := by rw [← hz, List.getLast?_append]; simp [List.getLast?_cons]
      exact (Rd_app.mp (hc.rt hd).twice).2.2 z hz' hx
  rcases hr2 with hr2 | rfl
  · rw [rd_id hr2]
    simp only [List.length_append, winv_len]; omega
  · have hg : g = [] := wrap_nil (by simpa using hr)
    subst hg
    simp [winv, rd] at hl ⊢
    omega

/-- one word has one core -/
theorem Fm.uniq {c c' : List Sg} (hc : CR c) (hc' : CR c') : ∀ {g g' d d' : List Sg}, Rt c d → Rt c' d' → g ++ d ++ winv g = g' ++ d' ++ winv g' → Rt c c'
  | [], [], d, d', hd, hd', e => by
    have : d = d' := by simpa [winv] using e
    subst this
    exact hd.trans hd'.symm
  | [], y :: g', d, d', hd, hd', e => by
    exfalso
    have e1 : d = y :: (g' ++ d' ++ winv g' ++ [y.inv]) := by rw [winv_cons] at e; simpa [winv] using e
    rw [e1] at hd
    have := hc _ hd.step
    have e2 : g' ++ d' ++ winv g' ++ [y.inv] ++ [y] = (g' ++ d' ++ winv g') ++ (y.inv :: [y]) := by simp
    rw [e2] at this
    exact (Rd_app.mp this).2.1.1 (by rw [inv_inv]; rfl)
  | y :: g, [], d, d', hd, hd', e => by
    exfalso
    have e1 : d' = y :: (g ++ d ++ winv g ++ [y.inv]) := by rw [winv_cons] at e; simpa [winv] using e.symm
    rw [e1] at hd'
    have := hc' _ hd'.step
    have e2 : g ++ d ++ winv g ++ [y.inv] ++ [y] = (g ++ d ++ winv g) ++ (y.inv :: [y]) := by simp
    rw [e2] at this
    exact (Rd_app.mp this).2.1.1 (by rw [inv_inv]; rfl)
  | x :: g, y :: g', d, d', hd, hd', e => by
    have e1 : x :: (g ++ d ++ winv g) ++ [x.inv] = y :: (g' ++ d' ++ winv g') ++ [y.inv] := by rw [winv_cons, winv_cons] at e; simpa using e
    have hx : x = y := (List.cons.inj e1).1
    have e2 : (g ++ d ++ winv g) ++ [x.inv] = (g' ++ d' ++ winv g') ++ [y.inv] := (List.cons.inj e1).2
    exact Fm.uniq hc hc' hd hd' (List.append_inj_left' e2 rfl)
theorem Fm.one {c c' u : List Sg} (hc : CR c) (hc' : CR c') (h : Fm c u) (h' : Fm c' u) : Rt c c' := by
  obtain ⟨g, d, hd, e, _⟩ := h
  obtain ⟨g', d', hd', e', _⟩ := h'
  exact Fm.uniq hc hc' hd hd' (e.symm.trans e')

/-- a turn stands in the word said twice -/
theorem Rt.infix {c d p q : List Sg} (h : c ++ c = p ++ d ++ q) (hl : d.length = c.length) : Rt c d := by
  have hp : p.length ≤ c.length := by have := congrArg List.length h; simp at this; omega
  have h1 : (c ++ c).drop p.length = d ++ q := by rw [h]; simp
  have h2 : ((c ++ c).drop p.length).take d.length = d := by rw [h1]; simp
  rw [hl, List.drop_append_of_le_length hp, List.take_append] at h2
  have h3 : (c.drop p.length).take c.length = c.drop p.length := List.take_of_length_le (by simp)
  rw [h3] at h2
  have h4 : c.length - (c.drop p.length).length = p.length := by simp; omega
  rw [h4] at h2
  exact h2 ▸ Rt.cut c p.length
theorem Rt.stands {c d : List Sg} (h : Rt c d) : ∃ p q, c ++ c = p ++ d ++ q := by
  obtain ⟨k, hk, rfl⟩ := h.at
  refine ⟨c.take k, c.drop k, ?_⟩
  rw [← List.append_assoc, List.take_append_drop, List.append_assoc, List.take_append_drop]
end Mine
end

section
open PySem
set_option linter.unusedVariables false
namespace Mine
open Sg

/-- all turns of a word, as the law lists them -/
noncomputable def trn (w : List Sg) : List (List Sg) := (List.range w.length).map fun k => w.drop (k + 1) ++ w.take (k + 1)
theorem mem_trn {w : List Sg} (hw : w ≠ []) {t : List Sg} : t ∈ trn w ↔ Rt w t := by
  have hl : 0 < w.length := List.length_pos_iff.mpr hw
  unfold trn
  rw [List.mem_map]
  constructor
  · rintro ⟨k, _, rfl⟩; exact Rt.cut w (k + 1)
  · intro h
    obtain ⟨k, hk, rfl⟩ := h.at
    cases k with
    | zero =>
      refine ⟨w.length - 1, List.mem_range.mpr (by omega), ?_⟩
      rw [Nat.sub_add_cancel hl]; simp
    | succ k => exact ⟨k, List.mem_range.mpr hk, rfl⟩
/-- the turns from none to all, as _law_is_core lists them -/
noncomputable def trn0 (w : List Sg) : List (List Sg) := (List.range (w.length + 1)).map fun k => w.drop k ++ w.take k
theorem mem_trn0 {w t : List Sg} : t ∈ trn0 w ↔ Rt w t := by
  unfold trn0
  rw [List.mem_map]
  constructor
  · rintro ⟨k, _, rfl⟩; exact Rt.cut w k
  · intro h
    obtain ⟨k, hk, rfl⟩ := h.at
    exact ⟨k, List.mem_range.mpr (by omega), rfl⟩
noncomputable def lft (w : List Sg) : List (List Sg) := (trn w).map rd

/-- what the shortest of a list are: m is the least length -/
structure Least (l : List (List Sg)) (m : Nat) : Prop where
  some : ∃ x ∈ l, x.length = m
  all : ∀ x ∈ l, m ≤ x.length
noncomputable def shorts (l : List (List Sg)) (m : Nat) : List (List Sg) := l.filter fun x => decide (x.length = m)

/-- a word's core, chosen once -/
structure Core (w c : List Sg) : Prop where
  cr : CR c
  fm : Fm c (rd w)
  all : ∀ d, Rt c d → ∃ t, Rt w t ∧ rd t = d
theorem core_of (w : List Sg) : ∃ c, Core w c := by
  obtain ⟨c, h1, h2, h3⟩ := core w.length w (Nat.le_refl _)
  exact ⟨c, h1, h2, h3⟩
section
variable {w c : List Sg} (hw : w ≠ []) (C : Core w c)
include hw C
theorem Core.left {x : List Sg} (h : x ∈ lft w) : Fm c x := by
  obtain ⟨t, ht, rfl⟩ := List.mem_map.mp h
  exact C.fm.turns C.cr ((mem_trn hw).mp ht)
theorem Core.mem {x : List Sg} (h : Rt c x) : x ∈ lft w := by
  obtain ⟨t, ht, e⟩ := C.all x h
  exact List.mem_map.mpr ⟨t, (mem_trn hw).mpr ht, e⟩
theorem Core.least {m : Nat} (h : Least (lft w) m) : m = c.length := by
  obtain ⟨x, hx, e⟩ := h.some
  have h1 := (C.left hw hx).len.1
  have h2 := h.all c (C.mem hw .refl)
  omega
theorem Core.shorts {m : Nat} (h : Least (lft w) m) {x : List Sg} : x ∈ shorts (lft w) m ↔ Rt c x := by
  unfold Mine.shorts
  rw [List.mem_filter, decide_eq_true_iff, C.least hw h]
  constructor
  · rintro ⟨h1, h2⟩; exact (C.left hw h1).len.2 h2
  · intro h1; exact ⟨C.mem hw h1, h1.len⟩
/-- the shortest cancelled turns are all turns of one of them -/
theorem Core.same {m : Nat} (h : Least (lft w) m) {d : List Sg} (hd : d ∈ Mine.shorts (lft w) m) {x : List Sg} : x ∈ Mine.shorts (lft w) m ↔ x ∈ trn0 d := by
  rw [C.shorts hw h, mem_trn0]
  have r := (C.shorts hw h).mp hd
  exact ⟨fun g => r.symm.trans g, fun g => r.trans g⟩
theorem Core.twice {m : Nat} (h : Least (lft w) m) {d : List Sg} (hd : d ∈ Mine.shorts (lft w) m) : (rd (w ++ w)).length = (rd w).length + d.length := by
  rw [C.fm.twice C.cr, ((C.shorts hw h).mp hd).len]
end

section
variable {w w' c c' : List Sg} (hw : w ≠ []) (hw' : w' ≠ []) (C : Core w c) (C' : Core w' c')
include hw hw' C C'
theorem found_met {m m' : Nat} (h : Least (lft w) m) (h' : Least (lft w') m') {d d' : List Sg} (hd : d ∈ shorts (lft w) m) (hd' : d' ∈ shorts (lft w') m') :
    (d.length = d'.length ∧ ∃ p q, d ++ d = p ++ d' ++ q) ↔ ∃ x ∈ lft w, x ∈ lft w' := by
  have r := (C.shorts hw h).mp hd
  have r' := (C'.shorts hw' h').mp hd'
  constructor
  · rintro ⟨hl, p, q, e⟩
    exact ⟨d', C.mem hw (r.trans (Rt.infix e hl.symm)), C'.mem hw' r'⟩
  · rintro ⟨x, hx, hx'⟩
    have := Fm.one C.cr C'.cr (C.left hw hx) (C'.left hw' hx')
    have k : Rt d d' := r.symm.trans (this.trans r')
    exact ⟨k.len.symm, k.stands⟩
end
theorem met_moved {w w' : List Sg} : (∃ x ∈ lft w, x ∈ lft w') ↔ ∃ t ∈ trn w', ∃ t' ∈ trn w, move t' = move t := by
  constructor
  · rintro ⟨x, h, h'⟩
    obtain ⟨t, ht, rfl⟩ := List.mem_map.mp h
    obtain ⟨t', ht', e⟩ := List.mem_map.mp h'
    exact ⟨t', ht', t, ht, move_iff.mpr e.symm⟩
  · rintro ⟨t, ht, t', ht', e⟩
    exact ⟨rd t', List.mem_map.mpr ⟨t', ht', rfl⟩, List.mem_map.mpr ⟨t, ht, (move_iff.mp e).symm⟩⟩
end Mine
end

section
open PySem PySem.W
set_option linter.unusedVariables false
set_option maxRecDepth 100000
namespace Mine

/-! ### sets of texts: how one lies, and what is added to it -/
noncomputable def txtOf (e : Int × Value) : Str := match e.2 with | .str x _ => x | _ => T []
noncomputable def txts (es : Array (Int × Value)) : List Str := es.toList.map txtOf
structure SetL (w : World) (h : Heap) (a : Addr) (es : Array (Int × Value)) (ep : Nat) (t : SetTable) : Prop where
  lies : h.get? a = some { cls := .type "set", dict := none, data := .set es ep t, slots := #[] }
  fits : t.fits es.size = true
  led : t.led = !(w.params.followText "set-order")
  plain : es.size = 0 ∨ t.plain = false
  few : es.size < 4000
  els : ∀ e ∈ es.toList, ∃ x u, e = (hashStr w x, .str x u)

theorem layNew_led (t : SetTable) (es : Array (Int × Value)) (h : Int) (x : Value) : (layNew t es h x).2.1.led = t.led := by
  unfold layNew
  split
  · show ((t.put _).1.orStandIn _).led = _
    unfold SetTable.orStandIn
    split <;> rfl
  · rfl
theorem laid_flags {mask finger moves : Nat} {led plain : Bool} {hs : Array Int} {t : SetTable} {o : Array Nat} (h : SetTable.laid mask finger moves led plain hs = some (t, o)) : t.led = led ∧ t.plain = plain := by
  unfold SetTable.laid at h
  obtain ⟨ow, _, h⟩ := Option.bind_eq_some_iff.mp h
  cases h; exact ⟨rfl, rfl⟩
theorem relayAll_flags (t : SetTable) (es : Array (Int × Value)) (k : Nat) (hp : t.plain = false) : (relayAll t es k).2.1.led = t.led ∧ (relayAll t es k).2.1.plain = false := by
  unfold relayAll
  split
  · rename_i t' o h
    obtain ⟨a, b⟩ := laid_flags h
    dsimp only
    split
    · exact ⟨a, b.trans hp⟩
    · exact ⟨rfl, rfl⟩
  · exact ⟨rfl, rfl⟩

section
variable {prog : Program} {w : World} {A : Around} {E : Value → Shared → Prop} {s : Shared} {a : Addr} {es : Array (Int × Value)} {ep : Nat} {t : SetTable}

theorem SetL.elems (S : SetL w s.heap a es ep t) : ElemsOf (PySem.strKind prog w) es.toList := fun e he => by
  obtain ⟨x, u, rfl⟩ := S.els e he
  exact ⟨⟨x, by simp [PySem.strKind, Value.isStrOf], rfl⟩, rfl⟩
theorem isStr_iff {prog : Program} {w : World} {k x : Str} {u : Tok} : (PySem.strKind prog w).is k (.str x u) = true ↔ k = x := by
  constructor
  · intro h
    obtain ⟨t', e⟩ := Value.isStrOf_shape (show Value.isStrOf k (.str x u) = true from h)
    injection e with e1 e2; exact e1.symm
  · rintro rfl; simp [PySem.strKind, Value.isStrOf]
theorem SetL.perm {w : World} {h h' : Heap} {es es' : Array (Int × Value)} {ep' : Nat} {t' : SetTable} {l : List (Int × Value)} (hl : ∀ e ∈ l, ∃ x u, e = (hashStr w x, .str x u)) (p : es'.toList.Perm l)
    (lies : h'.get? a = some { cls := .type "set", dict := none, data := .set es' ep' t', slots := #[] }) (fits : t'.fits es'.size = true) (led : t'.led = !(w.params.followText "set-order")) (plain : t'.plain = false) (few : l.length < 4000) :
    SetL w h' a es' ep' t' ∧ (txts es').Perm (l.map txtOf) := by
  refine ⟨⟨lies, fits, led, .inr plain, ?_, fun e he => hl e (p.mem_iff.mp he)⟩, p.map txtOf⟩
  rw [← Array.length_toList, p.length_eq]; exact few

theorem stored_at {h : Heap} {es es' : Array (Int × Value)} {t' : SetTable} (l : h.get? a = some { cls := .type "set", dict := none, data := .set es ep t, slots := #[] }) :
    (h.update a (Obj.putSet es' t')).get? a = some { cls := .type "set", dict := none, data := .set es' (ep + 1) t', slots := #[] } :=
  Heap.get?_update_self (Obj.putSet es' t') l rfl

/-- a text is added -/
theorem addStr {k : Str} {u : Tok} {Q : Bool → Shared → Prop} (S : SetL w s.heap a es ep t) (room : es.size < 3000)
    (hit : k ∈ txts es → Q false s) (new : k ∉ txts es → ∀ h' es' ep' t', Heap.SameBut a s.heap h' → SetL w h' a es' ep' t' → (txts es').Perm (txts es ++ [k]) → Q true { s with heap := h' }) :
    wpAny (model prog w) A (setAddHashed a (.str k u) (hashStr w k)) Q E s := by
  have hel : ElemsOf (PySem.strKind prog w) es.toList := S.elems
  have hkey : (PySem.strKind prog w).is k (.str k u) = true := isStr_iff.mpr rfl
  unfold setAddHashed setAddHashedIn
  refine wpAny_holding (wpAny_bind (wpAny_setState_of S.lies rfl S.fits ?_))
  dsimp only
  rw [byScan_of (x := .str k u) rfl (by show es.size < 4096; omega) hel]
  simp only [↓reduceIte]
  unfold setAddByScan
  refine wpAny_bind (wpAny_bind (wpAny_rule (wpAny_bind (wpAny_setScan_of (knd := PySem.strKind prog w) (k := k) hkey S.lies rfl S.fits hel ?_))))
  cases hr : List.findIdx? (fun e => (PySem.strKind prog w).is k e.2) es.toList with
  | some j =>
    obtain ⟨hj, hpj, _⟩ := List.findIdx?_eq_some_iff_getElem.mp hr
    refine wpAny_pure (wpAny_pure (hit ?_))
    obtain ⟨x, v, e⟩ := S.els _ (List.getElem_mem hj)
    rw [e] at hpj
    have := isStr_iff.mp hpj
    refine List.mem_map.mpr ⟨_, List.getElem_mem hj, ?_⟩
    rw [e]; exact this.symm
  | none =>
    have hn : k ∉ txts es := fun hm => by
      obtain ⟨e, he, hk⟩ := List.mem_map.mp hm
      obtain ⟨x, v, rfl⟩ := S.els e he
      have := List.findIdx?_eq_none_iff.mp hr _ he
      have hx : x = k := hk
      rw [isStr_iff.mpr hx.symm] at this; cases this
    have hperm := layNew_perm t es (hashStr w k) (.str k u)
    have hfits := layNew_fits t es (hashStr w k) (.str k u)
    have hled := layNew_led t es (hashStr w k) (.str k u)
    show wpAny _ _ (do
      let __x := layNew t es (hashStr w k) (.str k u)
      _) _ _ _
    generalize layNew t es (hashStr w k) (.str k u) = L at hperm hfits hled ⊢
    obtain ⟨es1, t1, wasD, gave⟩ := L
    dsimp only at hperm hfits hled ⊢
    rw [Array.toList_push] at hperm
    have hl : ∀ e ∈ es.toList ++ [(hashStr w k, Value.str k u)], ∃ x v, e = (hashStr w x, .str x v) := fun e he => by
      rcases List.mem_append.mp he with he | he
      · exact S.els e he
      · rw [List.mem_singleton] at he; exact ⟨k, u, he⟩
    have hmap : (es.toList ++ [(hashStr w k, Value.str k u)]).map txtOf = txts es ++ [k] := by simp [txts, txtOf]
    have hsz1 : es1.size = es.size + 1 := by rw [← Array.length_toList, hperm.length_eq, List.length_append, Array.length_toList]; rfl
    have hlen : (es.toList ++ [(hashStr w k, Value.str k u)]).length < 4000 := by rw [List.length_append, Array.length_toList]; simp; omega
    have hgw : ∀ (b : Bool) {s₁ : Shared} {Q' : Unit → Shared → Prop}, Q' () s₁ → wpAny (model prog w) A (match b with | true => rule "set.scan.the-table-gave-way" | false => pure ()) Q' E s₁ := fun b s₁ Q' hq => by
      cases b
      · exact wpAny_pure hq
      · exact wpAny_rule hq
    refine wpAny_bind (hgw _ ?_)
    have hz1 : es1.size ≤ sizeLine := by rw [sizeLine_eq]; omega
    -- what is left once the flags are told
    have fin : ∀ (g : Bool → Sem Unit) (hg : ∀ (b : Bool) {s₁ : Shared} {Q' : Unit → Shared → Prop}, Q' () s₁ → wpAny (model prog w) A (g b) Q' E s₁) (t2 : SetTable), t2.fits es1.size = true → t2.led = (!(w.params.followText "set-order")) → t2.plain = false →
        wpAny (model prog w) A (do
          storeSet a es1 t2
          if (!wasD && t2.tooFull) = true then do
            g (relayAll t2 es1 (SetTable.grown es1.size)).2.2
            storeSet a (relayAll t2 es1 (SetTable.grown es1.size)).1 (relayAll t2 es1 (SetTable.grown es1.size)).2.1
            pure (some true)
          else pure (some true)) (fun r s' => wpAny (model prog w) A (match r with | some added => pure added | none => setAddHashedIn a (.str k u) (hashStr w k) 99999) Q E s') E s := by
      intro g hg t2 f2 l2 p2
      refine wpAny_bind (wpAny_storeSet_of S.lies rfl ?_ hz1)
      have at1 := stored_at (es' := es1) (t' := t2) S.lies
      split
      · have rp := relayAll_perm t2 es1 (SetTable.grown es1.size)
        have rf := relayAll_fits t2 es1 (SetTable.grown es1.size)
        obtain ⟨rl, rpl⟩ := relayAll_flags t2 es1 (SetTable.grown es1.size) p2
        generalize relayAll t2 es1 (SetTable.grown es1.size) = R at rp rf rl rpl ⊢
        obtain ⟨es2, t3, g3⟩ := R
        dsimp only at rp rf rl rpl ⊢
        refine wpAny_bind (hg _ ?_)
        have hz2 : es2.size ≤ sizeLine := by rw [← Array.length_toList, rp.length_eq, Array.length_toList]; exact hz1
        refine wpAny_bind (wpAny_storeSet_of at1 rfl ?_ hz2)
        obtain ⟨S2, P2⟩ := SetL.perm (h := s.heap) (es := es) (a := a) hl (rp.trans hperm) (stored_at (es' := es2) (t' := t3) at1) rf (rl.trans l2) rpl hlen
        exact wpAny_pure (wpAny_pure (new hn _ es2 _ t3 ((Heap.SameBut.update s.heap a _).trans (Heap.SameBut.update _ a _)) S2 (hmap ▸ P2)))
      · obtain ⟨S2, P2⟩ := SetL.perm (h := s.heap) (es := es) (a := a) hl hperm at1 f2 l2 p2 hlen
        exact wpAny_pure (wpAny_pure (new hn _ es1 _ t2 (Heap.SameBut.update s.heap a _) S2 (hmap ▸ P2)))
    cases hp : t1.plain with
    | true =>
      simp only [↓reduceIte]
      refine wpAny_bind ?_
      rw [hashByValue_scannable 8 (x := .str k u) rfl]
      refine wpAny_pure ?_
      exact fin _ (fun b {s₁ Q'} hq => by cases b <;> first | exact wpAny_pure hq | exact wpAny_rule hq) { t1 with plain := false } (SetTable.fits_plain_off hfits) (hled.trans S.led) rfl
    | false =>
      simp only [Bool.false_eq_true, ↓reduceIte]
      refine wpAny_bind (wpAny_pure ?_)
      exact fin _ (fun b {s₁ Q'} hq => by cases b <;> first | exact wpAny_pure hq | exact wpAny_rule hq) t1 hfits (hled.trans S.led) hp
end
end Mine
end

section
open PySem PySem.W PyProof.Rows
set_option linter.unusedVariables false
set_option maxRecDepth 100000
namespace Mine

section
variable {prog : Program} {w : World}

theorem take_snoc {α : Type} {l : List α} {i : Nat} {x : α} (h : l[i]? = some x) : l.take (i + 1) = l.take i ++ [x] := by
  rw [List.take_add_one, h]; rfl

theorem updLoop {A : Around} (hh : A.in1.handled = none) {S I l : Addr} {items : Array Value} {ss : List Str} (hs : StrsAre items.toList ss) (hSI : S ≠ I) (hSl : S ≠ l) (hlI : l ≠ I) (hb : items.size < 3000) :
    ∀ (k i : Nat) (s : Shared) (R : Result → Shared → Prop) (es : Array (Int × Value)) (ep : Nat) (t : SetTable), items.size - i = k → i ≤ items.size → s.heap.IsListIter I l i → s.heap.IsList l items →
      SetL w s.heap S es ep t → es.size ≤ i → (txts es).Nodup → (∀ x, x ∈ txts es ↔ x ∈ ss.take i) →
      (∀ h' tk es' ep' t', (∀ b o, b ≠ S → b ≠ I → s.heap.get? b = some o → h'.get? b = some o) → SetL w h' S es' ep' t' → (txts es').Nodup → (∀ x, x ∈ txts es' ↔ x ∈ ss) → es'.size ≤ items.size →
        R (.ok (.ret .none)) { s with heap := h', toks := tk }) →
      codeAny (model prog w) A (.builtin "set.update.loop" ⟨[.ref S, .ref I], []⟩) R s := by
  intro k
  induction k with
  | zero =>
    intro i s R es ep t hk hi hit hl hS hz nd hm hR
    have hin : i = items.size := by omega
    subst hin
    refine codeAny_builtin F.entry_set_update_loop ?_
    rw [Around.under_plainId F.plain_set_update_loop _]
    show wpAny _ A.in1 (pyNext (.ref I) >>= _) _ _ s
    refine wpAny_bind (wpAny_pyNext_list_end hh hit hl (by simp) fun h' hk' => ?_)
    show wpAny _ A.in1 (ret Value.none) _ _ _
    refine wpAny_pure (hR h' s.toks es ep t (fun b o _ hbI e => hk' b o hbI e) ⟨hk' _ _ hSI hS.lies, hS.fits, hS.led, hS.plain, hS.few, hS.els⟩ nd (fun x => ?_) hz)
    rw [hm, List.take_of_length_le (by rw [← hs.length]; simp)]
  | succ k ih =>
    intro i s R es ep t hk hi hit hl hS hz nd hm hR
    have hlt : i < items.size := by omega
    have hsl : i < ss.length := by rw [← hs.length]; simpa using hlt
    obtain ⟨u, hv⟩ := hs.get i ss[i] (List.getElem?_eq_getElem hsl)
    rw [Array.getElem?_toList] at hv
    refine codeAny_builtin F.entry_set_update_loop ?_
    rw [Around.under_plainId F.plain_set_update_loop _]
    show wpAny _ A.in1 (pyNext (.ref I) >>= _) _ _ s
    refine wpAny_bind (wpAny_pyNext_list_item hit hl hv fun h1 hit1 hs1 => ?_)
    have hS1 : SetL w h1 S es ep t := ⟨(hs1.2 S hSI).trans hS.lies, hS.fits, hS.led, hS.plain, hS.few, hS.els⟩
    have hl1 : h1.IsList l items := by obtain ⟨o, ho, r⟩ := hl; exact ⟨o, (hs1.2 l hlI).trans ho, r⟩
    show wpAny _ A.in1 (holding [Value.str ss[i] u] (setAdd S (.str ss[i] u)) >>= _) _ _ _
    refine wpAny_bind (wpAny_holding ?_)
    unfold setAdd
    refine wpAny_holding ?_
    refine wpAny_bind ((PySem.strKind prog w).pyHash (k := ss[i]) (isStr_iff.mpr rfl) ?_)
    refine addStr (w := w) (s := { s with heap := h1, toks := s.toks + 1 }) hS1 (by omega) (fun hin => ?_) fun hout h2 es2 ep2 t2 hs2 hS2 hp2 => ?_
    · refine wpAny_pure ⟨plainId_quiet F.plain_set_update_loop _, ih (i + 1) _ R es ep t (by omega) hlt hit1 hl1 hS1 (by omega) nd (fun x => ?_) fun h' tk es' ep' t' k' S' n' m' z' => ?_⟩
      · rw [take_snoc (List.getElem?_eq_getElem hsl), List.mem_append, List.mem_singleton, ← hm x]
        exact ⟨.inl, fun h => h.elim id fun e => e ▸ hin⟩
      · exact hR h' tk es' ep' t' (fun b o hb hbI e => k' b o hb hbI ((hs1.2 b hbI).trans e)) S' n' m' z'
    · have hlen : es2.size = es.size + 1 := by
        have := hp2.length_eq
        simpa [txts] using this
      have hit2 : h2.IsListIter I l (i + 1) := by obtain ⟨o, ho, r⟩ := hit1; exact ⟨o, (hs2.2 I (Ne.symm hSI)).trans ho, r⟩
      have hl2 : h2.IsList l items := by obtain ⟨o, ho, r⟩ := hl1; exact ⟨o, (hs2.2 l (Ne.symm hSl)).trans ho, r⟩
      refine wpAny_pure ⟨plainId_quiet F.plain_set_update_loop _, ih (i + 1) _ R es2 ep2 t2 (by omega) hlt hit2 hl2 hS2 (by omega) ?_ (fun x => ?_) fun h' tk es' ep' t' k' S' n' m' z' => ?_⟩
      · rw [hp2.nodup_iff, List.nodup_append]
        exact ⟨nd, by simp, fun a ha b hb e => by rw [List.mem_singleton] at hb; subst hb; subst e; exact hout ha⟩
      · rw [hp2.mem_iff, take_snoc (List.getElem?_eq_getElem hsl), List.mem_append, List.mem_append, hm x]
      · exact hR h' tk es' ep' t' (fun b o hb hbI e => k' b o hb hbI ((hs2.2 b hb).trans ((hs1.2 b hbI).trans e))) S' n' m' z'

variable {A : Around} {E : Value → Shared → Prop} {s : Shared}

/-- an empty set is made; what its maker is led by is told -/
theorem setMade (a : Value) {Q₁ : Value → Shared → Prop}
    (h : Q₁ (.ref s.heap.objs.size) { s with heap := s.heap.push { cls := .type "set", dict := none, data := .set #[] 0 (.fresh 0 0 (!(w.params.followText "set-order"))) } }) :
    codeAny (model prog w) A (.call (.builtin "set.__new__") ⟨[.type "set", a], []⟩) (wants Q₁ E) s := by
  refine codeAny_of_tree ?_
  show wpAny _ A.in1 (do checkBuiltinCall "set.__new__" ⟨[.type "set", a], []⟩; again (.builtin "set.__new__" ⟨[.type "set", a], []⟩)) _ _ s
  refine wpAny_bind (wpAny_of_eq (F.newCall_set_1 a) (wpAny_pure ⟨plainId_quiet F.plain_set_new _, codeAny_builtin F.entry_set_new ?_⟩))
  rw [Around.under_plainId F.plain_set_new _]
  unfold Builtin.«set.__new__» Builtin.Frozenset.newClass
  have hsub := sub_set_self
  obtain ⟨hp, g, d, tk, os⟩ := s
  dsimp only
  wp_walk
  refine wpAny_askSetting (wpAny_pure ?_)
  dsimp only
  simp only [newObj]
  exact wpAny_bind (wpAny_alloc (wpAny_pure (wpAny_pure h)))

set_option maxHeartbeats 3200000 in
/-- set(..) of a list of texts -/
theorem set_strs {l : Addr} {items : Array Value} {ss : List Str} {Q : Value → Shared → Prop} (hh : A.handled = none) (hl : s.heap.IsList l items) (hs : StrsAre items.toList ss) (hb : items.size < 3000)
    (h : ∀ h' tk es ep t, SetL w h' s.heap.objs.size es ep t → (txts es).Nodup → (∀ x, x ∈ txts es ↔ x ∈ ss) → es.size ≤ items.size → (∀ b o, s.heap.get? b = some o → h'.get? b = some o) → Q (.ref s.heap.objs.size) { s with heap := h', toks := tk }) :
    wpAny (model prog w) A (call (.type "set") [.ref l]) Q E s := by
  obtain ⟨c, tl, hmro⟩ := F.called_set.mro
  have hmade := F.called_set.made
  have hsub := F.called_set.sub
  refine wpAny_call (codeAny_of_tree ?_)
  show wpAny _ _ (callAny (.type "set") _) _ _ _
  refine wpAny_pure ⟨Code.quiet_builtin _ (by decide +kernel), codeAny_builtin F.entry_type_call ?_⟩
  rw [Around.under_plain (weight_type_call_type "set" [.ref l] []) rfl]
  have h1 := F.called_set.notType
  have h2 := F.called_set.canCreate
  have hct := F.typeCall_set_1 (.ref l)
  repeat (any_goals (first | assumption | wp_step))
  generalize hob : ({ cls := .type "set", dict := none, data := .set #[] 0 (.fresh 0 0 (!(w.params.followText "set-order"))) } : Obj) = ob
  have hobc : ob.cls = .type "set" := by rw [← hob]
  refine codeAny_mono (setMade (.ref l) (E := E) (Q₁ := fun obj s₁ => obj = .ref s.heap.objs.size ∧ s₁ = { s with heap := s.heap.push ob }) (by rw [hob]; exact ⟨rfl, rfl⟩)) fun r s₁ hr => ?_
  cases r with
  | error e => exact hr
  | ok fl =>
    cases fl with
    | ret obj =>
      obtain ⟨rfl, rfl⟩ := hr
      have hS : (s.heap.push ob).get? s.heap.objs.size = some ob := Heap.get?_push_size _ (by rw [← hob]; rfl)
      have hT : Shared.TypeIs { s with heap := s.heap.push ob } (.ref s.heap.objs.size) "set" := ⟨_, hS, hobc⟩
      have hli := F.called_set.init.lookup
      have hbi := F.called_set.init.bind (.ref s.heap.objs.size)
      repeat (any_goals (first | assumption | wp_step))
      refine codeAny_mono (codeAny_call_builtin (R := wants (fun r s₂ => r = .none ∧ ∃ h' tk es ep t, s₂ = { s with heap := h', toks := tk } ∧ SetL w h' s.heap.objs.size es ep t ∧ (txts es).Nodup ∧ (∀ x, x ∈ txts es ↔ x ∈ ss) ∧ es.size ≤ items.size ∧
          (∀ b o, s.heap.get? b = some o → h'.get? b = some o)) E) F.called_set.init.plain F.entry_set_init (check_set_init_1 hT ?_)) fun r₂ s₂ hr₂ => ?_
      · have hl1 : (s.heap.push ob).IsList l items := hl.push _
        obtain ⟨ol, hol, hcl, nl, hdl⟩ := hl
        have hlS : l < s.heap.objs.size := Heap.lt_size hol
        have hsls := F.sub_list_set
        have hslf := F.sub_list_frozenset
        have hne : (Value.type "list" == Value.type "dict") = false := by decide
        obtain ⟨ocls, odict, odata, oslots⟩ := ol
        simp only at hcl hdl
        subst hcl; subst hdl
        have hol' : (s.heap.push ob).get? l = some { cls := .type "list", dict := odict, data := .seq items nl, slots := oslots } := Heap.get?_push_of_some _ hol
        have hps : (s.heap.push ob).objs.size = s.heap.objs.size + 1 := Heap.size_push ..
        have hit0 : ((s.heap.push ob).push { cls := .type "list_iterator", data := .fields #[.ref l, .int 0 0] }).IsListIter (s.heap.push ob).objs.size l 0 := ⟨_, Heap.get?_push_size _ rfl, rfl, rfl⟩
        have hS0 : SetL w ((s.heap.push ob).push { cls := .type "list_iterator", data := .fields #[.ref l, .int 0 0] }) s.heap.objs.size #[] 0 (.fresh 0 0 (!(w.params.followText "set-order"))) := by
          refine ⟨?_, rfl, rfl, .inl rfl, by decide, fun e he => nomatch he⟩
          rw [Heap.get?_push_of_some ({ cls := .type "list_iterator", data := .fields #[.ref l, .int 0 0] } : Obj) hS, ← hob]
        subst hob
        unfold Builtin.«set.__init__» noKeywords Builtin.Frozenset.updateFrom
        generalize hPI : pyIter = PI
        wp_walk
        subst hPI
        refine wpAny_pyIter_list hl1 ?_
        refine wpAny_bind (wpAny_runValue ?_)
        refine updLoop (w := w) (by simp [hh]) (ss := ss) hs (S := s.heap.objs.size) (I := _) (l := l) (items := items) (by rw [hps]; exact Nat.ne_of_lt (Nat.lt_succ_self _)) (Nat.ne_of_gt hlS) (by rw [hps]; exact Nat.ne_of_lt (Nat.lt_succ_of_lt hlS)) hb
          items.size 0 _ _ #[] 0 (.fresh 0 0 (!(w.params.followText "set-order"))) rfl (Nat.zero_le _) hit0 (hl1.push _) hS0 (Nat.le_refl _) List.nodup_nil (fun x => by simp [txts]) ?_
        · intro h' tk es ep t k S nd hm hz
          show wpAny _ _ _ _ _ _
          refine wpAny_pure ?_
          show wpAny _ _ (ret Value.none) _ _ _
          refine wpAny_pure ⟨rfl, h', tk, es, ep, t, rfl, S, nd, hm, hz, fun b o e => ?_⟩
          have hb' := Heap.lt_size e
          exact k b o (Nat.ne_of_lt hb') (by rw [hps]; exact Nat.ne_of_lt (Nat.lt_succ_of_lt hb')) (Heap.get?_push_of_some _ (Heap.get?_push_of_some _ e))
      · cases r₂ with
        | error e => exact hr₂
        | ok fl₂ =>
          cases fl₂ with
          | ret r =>
            obtain ⟨rfl, h', tk, es, ep, t, rfl, S, nd, hm, hz, hk'⟩ := hr₂
            repeat (any_goals (first | assumption | wp_step))
            exact h _ _ _ _ _ S nd hm hz hk'
          | _ => exact hr₂.elim
    | _ => exact hr.elim
end
end Mine
end

section
open PySem PySem.W PyProof.Rows
set_option linter.unusedVariables false
set_option maxRecDepth 100000
namespace Mine

theorem erase_perm {α : Type} : ∀ (l : List α) (k : Nat) (h : k < l.length), (l[k] :: l.eraseIdx k).Perm l
  | x :: t, 0, _ => .refl _
  | x :: t, k + 1, h => (List.Perm.swap x _ _).trans (List.Perm.cons x (erase_perm t k (Nat.lt_of_succ_lt_succ h)))

/-! ### a set of texts walked: some order of its texts -/
theorem wpAny_draw {M : Model} {A : Around} {E : Value → Shared → Prop} {s : Shared} {src : Source} {n : Nat} {Q : Nat → Shared → Prop} (hn : n ≠ 0) (h : ∀ k, k < n → Q k { s with drawn := s.drawn.bump src }) : wpAny M A (choose src n) Q E s :=
  fun Γ p _ => ⟨hn, h _ (Nat.mod_lt _ (Nat.pos_of_ne_zero hn))⟩

theorem wpAny_drawOrder {α : Type} {M : Model} {A : Around} {E : Value → Shared → Prop} : ∀ (n : Nat) (xs : List α) (s : Shared) (Q : List α → Shared → Prop), n = xs.length → (∀ ys dr, ys.Perm xs → Q ys { s with drawn := dr }) → wpAny M A (drawOrder n xs) Q E s
  | 0, xs, s, Q, e, h => by
    have : xs = [] := List.length_eq_zero_iff.mp e.symm
    subst this
    exact wpAny_pure (h [] s.drawn (.refl _))
  | n + 1, x :: t, s, Q, e, h => by
    show wpAny M A (choose .order (x :: t).length >>= fun i => match (x :: t)[i]? with | some y => (do return y :: (← drawOrder n ((x :: t).eraseIdx i))) | none => unsupported "internal:drawOrder") Q E s
    refine wpAny_bind (wpAny_draw (by simp) fun k hk => ?_)
    rw [List.getElem?_eq_getElem hk]
    have hlen : n = ((x :: t).eraseIdx k).length := by rw [List.length_eraseIdx_of_lt hk, ← e]; rfl
    refine wpAny_bind (wpAny_drawOrder n _ _ _ hlen fun ys dr hp => wpAny_pure (h _ dr ?_))
    exact (List.Perm.cons _ hp).trans (erase_perm _ _ hk)
  | n + 1, [], s, Q, e, h => by cases e

theorem pickOrder_perm {α : Type} (next : Nat → Nat) (xs : Array α) : (pickOrder next xs).toList.Perm xs.toList := by
  have key : ∀ (fuel k : Nat) (left : List α) (out : Array α), fuel = left.length → (pickOrder.go next fuel k left out).toList.Perm (out.toList ++ left) := by
    intro fuel
    induction fuel with
    | zero =>
      intro k left out e
      have : left = [] := List.length_eq_zero_iff.mp e.symm
      subst this
      show out.toList.Perm _
      rw [List.append_nil]
    | succ f ih =>
      intro k left out e
      have hpos : 0 < left.length := by omega
      have hk := Nat.mod_lt (next k) hpos
      show (match left[next k % left.length]? with | some x => pickOrder.go next f (k + 1) (left.eraseIdx (next k % left.length)) (out.push x) | none => out).toList.Perm _
      rw [List.getElem?_eq_getElem hk]
      refine (ih (k + 1) _ _ (by rw [List.length_eraseIdx_of_lt hk]; omega)).trans ?_
      rw [Array.toList_push, List.append_assoc]
      exact List.Perm.append_left _ (erase_perm _ _ hk)
  exact (key xs.size 0 xs.toList #[] (by simp)).trans (by simp)

theorem slot_si_next : Slot "set_iterator" "__next__" "set_iterator.__next__" := .of (owner := "set_iterator") (n := "__next__") (by rw [typeLookup_type, builtinLookup_eq_fast]; kernel_rfl) (by decide +kernel) (by decide +kernel) (by decide +kernel)
    (by first | exact .inl (by decide +kernel) | exact .inr (by decide +kernel)) (by rw [isSubtype_type]; kernel_rfl)
theorem slot_si_iter : Slot "set_iterator" "__iter__" "set_iterator.__iter__" := .of (owner := "set_iterator") (n := "__iter__") (by rw [typeLookup_type, builtinLookup_eq_fast]; kernel_rfl) (by decide +kernel) (by decide +kernel) (by decide +kernel)
    (by first | exact .inl (by decide +kernel) | exact .inr (by decide +kernel)) (by rw [isSubtype_type]; kernel_rfl)
theorem entry_si_next : entryFor table "set_iterator.__next__" = some Builtin.«set_iterator.__next__» := entryFor_of_tree (by kernel_rfl)
theorem entry_si_iter : entryFor table "set_iterator.__iter__" = some Builtin.«dict_keyiterator.__iter__» := entryFor_alias (id' := "dict_keyiterator.__iter__") (by kernel_rfl) (by first | rfl | decide +kernel | (unfold String.splitOn; simp +decide [String.splitOnAux])) (by decide +kernel) (by kernel_rfl)
theorem args_si_next (a : Value) : argsOk "set_iterator.__next__" ⟨[a], []⟩ := by unfold argsOk; kernel_rfl
theorem args_si_iter (a : Value) : argsOk "set_iterator.__iter__" ⟨[a], []⟩ := by unfold argsOk; kernel_rfl
theorem entry_set_iter : entryFor table "set.__iter__" = some Builtin.«frozenset.__iter__» := entryFor_alias (id' := "frozenset.__iter__") (by kernel_rfl) (by first | rfl | decide +kernel | (unfold String.splitOn; simp +decide [String.splitOnAux])) (by decide +kernel) (by kernel_rfl)
section
variable {prog : Program} {w : World} {A : Around} {E : Value → Shared → Prop} {s : Shared} {a : Addr} {es : Array (Int × Value)} {ep : Nat} {t : SetTable}

theorem SetL.keep {h h' : Heap} (S : SetL w h a es ep t) (k : ∀ o, h.get? a = some o → h'.get? a = some o) : SetL w h' a es ep t := ⟨k _ S.lies, S.fits, S.led, S.plain, S.few, S.els⟩
theorem SetL.entries (S : SetL w s.heap a es ep t) {Q : Array (Int × Value) → Shared → Prop} (h : Q es s) : wpAny (model prog w) A (setEntries a) Q E s := wpAny_setEntries_of S.lies rfl S.fits h
theorem SetL.state (S : SetL w s.heap a es ep t) {Q : Array (Int × Value) × Nat × SetTable → Shared → Prop} (h : Q (es, ep, t) s) : wpAny (model prog w) A (setState a) Q E s := wpAny_setState_of S.lies rfl S.fits h
theorem byText_wp {Q : Bool → Shared → Prop} (h : Q (w.params.followText "set-order") s) : wpAny (model prog w) A setsByText Q E s := by
  unfold setsByText
  exact wpAny_bind (wpAny_askSetting (wpAny_pure h))

/-- how an iterator over a set lies -/
noncomputable def SetIt (h : Heap) (I a : Addr) (first : Value) (i n ep : Nat) : Prop := ∃ o, h.get? I = some o ∧ o.cls = .type "set_iterator" ∧ o.data = .fields #[first, .int i 0, .ref a, .int n 0, .int ep 0]
theorem SetIt.typeIs {I : Addr} {first : Value} {i n : Nat} (x : SetIt s.heap I a first i n ep) : s.TypeIs (.ref I) "set_iterator" := let ⟨o, h, c, _⟩ := x; ⟨o, h, c⟩
end
end Mine
end

section
open PySem PySem.W PyProof.Rows
set_option linter.unusedVariables false
set_option maxRecDepth 100000
namespace Mine

section
variable {prog : Program} {w : World} {A : Around} {E : Value → Shared → Prop} {s : Shared} {a I : Addr} {es : Array (Int × Value)} {ep : Nat} {t : SetTable} {first : Value} {i : Nat}

/-- what is behind the size's test -/
theorem siNext {Q : Option Value → Shared → Prop} (it : SetIt s.heap I a first i es.size ep) (S : SetL w s.heap a es ep t)
    (h : wpAny (model prog w) A.in1 (if let .int slot _ := first then do
        match ← setNext a slot.toNat i ep with
        | some (x, next) =>
          setField (.ref I) 0 (rawInt next)
          setField (.ref I) 1 (rawInt ((i : Int) + 1))
          ret x
        | none => setField (.ref I) 2 .none; raiseNew (← newExc (.type "StopIteration") [])
      else do
        let some places ← seqItems? first | unsupported "internal:set_iterator"
        match places[i]? with
        | some (.int place _) =>
          let x ← setNextDrawn a place.toNat ep
          setField (.ref I) 1 (rawInt ((i : Int) + 1))
          ret x
        | some _ => unsupported "internal:set_iterator"
        | none => setField (.ref I) 0 (rawInt 0); setField (.ref I) 2 .none; raiseNew (← newExc (.type "StopIteration") []))
      (fun f s' => ∃ x, f = .done (.ret x) ∧ wpAny (model prog w) A (pure (some x)) Q E s') (fun e s' => wpAny (model prog w) A (isInstance e (.type "StopIteration") >>= fun b => if b then pure none else throw e) Q E s') s) :
    wpAny (model prog w) A (pyNext (.ref I)) Q E s := by
  obtain ⟨o, ho, hc, hd⟩ := id it
  unfold pyNext
  refine wpAny_bind (wpAny_attempt (wpAny_callSpecial?_slot (name := Str.ofString "__next__") it.typeIs slot_si_next
    (wpAny_call_entry slot_si_next it.typeIs entry_si_next ?_ (args_si_next _))))
  show wpAny _ _ (fieldsOf (.ref I) >>= _) _ _ s
  refine wpAny_bind (wpAny_fieldsOf ho hd ?_)
  show wpAny _ _ (setEntries a >>= _) _ _ s
  refine wpAny_bind (S.entries ?_)
  have hq : (((es.size : Nat) : Int) != (es.size : Nat)) = false := by simp
  show wpAny _ _ (if (((es.size : Nat) : Int) != (es.size : Nat)) = true then _ else _) _ _ s
  rw [hq]
  simp only [Bool.false_eq_true, if_false]
  exact h

theorem stopNew {Q : Option Value → Shared → Prop} {P : Fin → Shared → Prop} (hh : A.handled = none) (hQ : ∀ h', (∀ b o, s.heap.get? b = some o → h'.get? b = some o) → Q none { s with heap := h' }) :
    wpAny (model prog w) A.in1 (do raiseNew (← newExc (.type "StopIteration") [])) P (fun e s' => wpAny (model prog w) A (isInstance e (.type "StopIteration") >>= fun b => if b then pure none else throw e) Q E s') s := by
  refine wpAny_bind ?_
  simp only [newExc, newTuple]
  refine wpAny_bind (wpAny_newObj_type ?_ (by size_fits))
  refine wpAny_bind (m := firstArgMember _ _) (wpAny_of_eq (a := Value.none) (by first | rfl | (simp only [firstArgMember]; rfl)) ?_)
  refine wpAny_newObj_type ?_ (by size_fits)
  simp only [raiseNew]
  refine wpAny_bind (wpAny_handled ?_)
  rw [show A.in1.handled = none from hh]
  refine wpAny_bind (wpAny_pure (wpAny_throw ?_))
  refine wpAny_bind (wpAny_isInstance (T := "StopIteration") (b := true) ⟨_, Heap.get?_push_size _ rfl, rfl⟩ isSubtype_stop ?_)
  exact wpAny_pure (hQ _ fun b o e => Heap.get?_push_of_some _ (Heap.get?_push_of_some _ e))

theorem SetIt.put {h : Heap} {n : Nat} (it : SetIt h I a first i n ep) (k : Nat) (x : Value) (hk : k < 5) : ∃ o', (h.update I (Obj.mapFields (·.setIfInBounds k x))).get? I = some o' ∧ o'.cls = .type "set_iterator" ∧ o'.data = .fields (#[first, .int i 0, .ref a, .int n 0, .int ep 0].setIfInBounds k x) := by
  obtain ⟨o, ho, hc, hd⟩ := it
  exact ⟨_, Heap.get?_update_self _ ho (Obj.isFreed_of_fields (Obj.data_mapFields hd _)), (Obj.cls_mapFields ..).trans hc, Obj.data_mapFields hd _⟩

/-- by number: an item -/
theorem siInt {Q : Option Value → Shared → Prop} {slot slot' : Nat} {u : Tok} {x : Value} (it : SetIt s.heap I a (.int (slot : Int) u) i es.size ep) (S : SetL w s.heap a es ep t)
    (nx : ∀ (Q' : Option (Value × Nat) → Shared → Prop) (E' : Value → Shared → Prop), Q' (some (x, slot')) s → wpAny (model prog w) A.in1 (setNext a slot i ep) Q' E' s)
    (hQ : ∀ h', SetIt h' I a (.int (slot' : Int) 0) (i + 1) es.size ep → Heap.SameBut I s.heap h' → Q (some x) { s with heap := h' }) : wpAny (model prog w) A (pyNext (.ref I)) Q E s := by
  refine siNext it S ?_
  show wpAny _ _ (setNext a slot i ep >>= _) _ _ s
  refine wpAny_bind (nx _ _ ?_)
  obtain ⟨o, ho, hc, hd⟩ := id it
  refine wpAny_bind (wpAny_setField ho hd (by simp) ?_)
  obtain ⟨o', ho', hc', hd'⟩ := it.put 0 (rawInt slot') (by decide)
  refine wpAny_bind (wpAny_setField ho' hd' (by simp) (wpAny_pure ⟨x, rfl, wpAny_pure (hQ _ ?_ ((Heap.SameBut.update ..).trans (Heap.SameBut.update ..)))⟩))
  exact ⟨_, Heap.get?_update_self _ ho' (Obj.isFreed_of_fields (Obj.data_mapFields hd' _)), (Obj.cls_mapFields ..).trans hc', by rw [Obj.data_mapFields hd']; simp [rawInt]⟩
/-- by number: the end -/
theorem siIntEnd {Q : Option Value → Shared → Prop} {slot : Nat} {u : Tok} (hh : A.handled = none) (it : SetIt s.heap I a (.int (slot : Int) u) i es.size ep) (S : SetL w s.heap a es ep t)
    (nx : ∀ (Q' : Option (Value × Nat) → Shared → Prop) (E' : Value → Shared → Prop), Q' none s → wpAny (model prog w) A.in1 (setNext a slot i ep) Q' E' s)
    (hQ : ∀ h', (∀ b o, b ≠ I → s.heap.get? b = some o → h'.get? b = some o) → Q none { s with heap := h' }) : wpAny (model prog w) A (pyNext (.ref I)) Q E s := by
  refine siNext it S ?_
  show wpAny _ _ (setNext a slot i ep >>= _) _ _ s
  refine wpAny_bind (nx _ _ ?_)
  obtain ⟨o, ho, hc, hd⟩ := id it
  refine wpAny_bind (wpAny_setField ho hd (by simp) ?_)
  exact stopNew (s := { s with heap := s.heap.update I (Obj.mapFields (·.setIfInBounds 2 Value.none)) }) hh fun h' k => hQ h' fun b o hb e => k b o ((Heap.get?_update_other _ _ (Ne.symm hb)).trans e)
/-- by places drawn: an item -/
theorem siRef {Q : Option Value → Shared → Prop} {tp : Addr} {ob : Obj} {ps : Array Value} {ne pl : Nat} {u : Tok} {e : Int × Value} (it : SetIt s.heap I a (.ref tp) i es.size ep) (S : SetL w s.heap a es ep t) (htp : s.heap.get? tp = some ob) (hd : ob.data = .seq ps ne)
    (hp : ps[i]? = some (.int (pl : Int) u)) (he : es[pl]? = some e)
    (hQ : ∀ h', SetIt h' I a (.ref tp) (i + 1) es.size ep → Heap.SameBut I s.heap h' → Q (some e.2) { s with heap := h' }) : wpAny (model prog w) A (pyNext (.ref I)) Q E s := by
  refine siNext it S ?_
  show wpAny _ _ (seqItems? (.ref tp) >>= _) _ _ s
  refine wpAny_bind (wpAny_seqItems htp hd ?_)
  simp only [hp]
  show wpAny _ _ (setNextDrawn a pl ep >>= _) _ _ s
  refine wpAny_bind ?_
  unfold setNextDrawn
  refine wpAny_bind (S.state ?_)
  dsimp only
  rw [show (ep != ep) = false by simp]
  simp only [Bool.false_eq_true, if_false, he]
  refine wpAny_pure ?_
  obtain ⟨o, ho, hc, hd'⟩ := id it
  refine wpAny_bind (wpAny_setField ho hd' (by simp) (wpAny_pure ⟨e.2, rfl, wpAny_pure (hQ _ ?_ (Heap.SameBut.update ..))⟩))
  exact ⟨_, Heap.get?_update_self _ ho (Obj.isFreed_of_fields (Obj.data_mapFields hd' _)), (Obj.cls_mapFields ..).trans hc, by rw [Obj.data_mapFields hd']; simp [rawInt]⟩
theorem siRefEnd {Q : Option Value → Shared → Prop} {tp : Addr} {ob : Obj} {ps : Array Value} {ne : Nat} (hh : A.handled = none) (it : SetIt s.heap I a (.ref tp) i es.size ep) (S : SetL w s.heap a es ep t) (htp : s.heap.get? tp = some ob) (hd : ob.data = .seq ps ne)
    (hp : ps[i]? = none) (hQ : ∀ h', (∀ b o, b ≠ I → s.heap.get? b = some o → h'.get? b = some o) → Q none { s with heap := h' }) : wpAny (model prog w) A (pyNext (.ref I)) Q E s := by
  refine siNext it S ?_
  show wpAny _ _ (seqItems? (.ref tp) >>= _) _ _ s
  refine wpAny_bind (wpAny_seqItems htp hd ?_)
  simp only [hp]
  obtain ⟨o, ho, hc, hd'⟩ := id it
  refine wpAny_bind (wpAny_setField ho hd' (by simp) ?_)
  obtain ⟨o1, ho1, hc1, hd1⟩ := it.put 0 (rawInt 0) (by decide)
  refine wpAny_bind (wpAny_setField ho1 hd1 (by simp) ?_)
  exact stopNew (s := { s with heap := (s.heap.update I (Obj.mapFields (·.setIfInBounds 0 (rawInt 0)))).update I (Obj.mapFields (·.setIfInBounds 2 Value.none)) }) hh fun h' k => hQ h' fun b o hb e =>
    k b o ((Heap.get?_update_other _ _ (Ne.symm hb)).trans ((Heap.get?_update_other _ _ (Ne.symm hb)).trans e))
end
end Mine
end

section
open PySem PySem.W PyProof.Rows
set_option linter.unusedVariables false
set_option maxRecDepth 100000
namespace Mine

section
variable {prog : Program} {w : World} {A : Around} {E : Value → Shared → Prop} {s : Shared} {a I : Addr} {es : Array (Int × Value)} {ep : Nat} {t : SetTable} {first : Value} {i : Nat}

theorem siSelf {Q : Value → Shared → Prop} {n : Nat} (it : SetIt s.heap I a first i n ep) (h : Q (.ref I) s) : wpAny (model prog w) A (pyIter (.ref I)) Q E s := by
  refine wpAny_pyIter_slot it.typeIs slot_si_iter (wpAny_call_entry slot_si_iter it.typeIs entry_si_iter ?_ (args_si_iter _))
  show wpAny _ _ (PySem.ret (Value.ref I)) _ _ _
  exact wpAny_pure ⟨_, rfl, "set_iterator", _, it.typeIs, slot_si_next.lookup, h⟩

theorem SetIt.keep {h h' : Heap} {n : Nat} (it : SetIt h I a first i n ep) (k : ∀ o, h.get? I = some o → h'.get? I = some o) : SetIt h' I a first i n ep := by
  obtain ⟨o, ho, r⟩ := it; exact ⟨o, k _ ho, r⟩

theorem movedOf {h' : Heap} (k : ∀ b o, b ≠ I → s.heap.get? b = some o → h'.get? b = some o) : Moved [I] (fun x y => y = x) s { s with heap := h' } :=
  ⟨fun b o hb e => k b o (fun q => hb (by rw [q]; exact List.mem_cons_self)) e, rfl, rfl, rfl, Nat.le_refl _⟩

theorem walkInt (vals : List Value) (slot : Nat → Nat) (hIa : I ≠ a) (hn : vals.length = es.size)
    (nx : ∀ (A' : Around) (i : Nat) (s : Shared) (x : Value) (Q' : Option (Value × Nat) → Shared → Prop) (E' : Value → Shared → Prop), SetL w s.heap a es ep t → vals[i]? = some x → Q' (some (x, slot (i + 1))) s → wpAny (model prog w) A' (setNext a (slot i) i ep) Q' E' s)
    (nd : ∀ (A' : Around) (s : Shared) (Q' : Option (Value × Nat) → Shared → Prop) (E' : Value → Shared → Prop), SetL w s.heap a es ep t → Q' none s → wpAny (model prog w) A' (setNext a (slot vals.length) vals.length ep) Q' E' s)
    (hh : A.handled = none) : WalksS prog w A I [I, a] [I] (fun x y => y = x) vals.length (fun i v => vals[i]? = some v) (fun i s => (∃ u, SetIt s.heap I a (.int (slot i : Int) u) i es.size ep) ∧ SetL w s.heap a es ep t) where
  sub := fun b hb => by simp at hb; simp [hb]
  grefl := fun _ => rfl
  gtrans := fun _ _ _ h1 h2 => h2.trans h1
  frame := fun i s h' tk st _ k => by
    obtain ⟨⟨u, it⟩, S⟩ := st
    exact ⟨⟨u, it.keep fun o e => k I (by simp) o e⟩, S.keep fun o e => k a (by simp) o e⟩
  item := fun i s Q E hi st hQ => by
    obtain ⟨⟨u, it⟩, S⟩ := st
    refine siInt it S (fun Q' E' hq => nx _ i s vals[i] Q' E' S (List.getElem?_eq_getElem hi) hq) fun h' it' sb => ?_
    exact hQ _ _ (List.getElem?_eq_getElem hi) ⟨⟨0, it'⟩, S.keep fun o e => (sb.2 a (Ne.symm hIa)).trans e⟩ (movedOf fun b o hb e => (sb.2 b hb).trans e)
  done := fun s Q E st hQ => by
    obtain ⟨⟨u, it⟩, S⟩ := st
    exact siIntEnd hh it S (fun Q' E' hq => nd _ s Q' E' S hq) fun h' k => hQ _ (movedOf k)
  self := fun i s Q E st hQ => by
    obtain ⟨⟨u, it⟩, S⟩ := st
    exact siSelf it hQ

theorem walkRef (pl : List Nat) (vals : List Value) {tp : Addr} {ob : Obj} {ne : Nat} (hIa : I ≠ a) (hIt : I ≠ tp) (hd : ob.data = .seq (pl.map fun k : Nat => rawInt k).toArray ne) (hv : ∀ (i k : Nat), pl[i]? = some k → ∃ e : Int × Value, es[k]? = some e ∧ vals[i]? = some e.2) (hl : vals.length = pl.length)
    (hh : A.handled = none) : WalksS prog w A I [I, a, tp] [I] (fun x y => y = x) vals.length (fun i v => vals[i]? = some v) (fun i s => SetIt s.heap I a (.ref tp) i es.size ep ∧ SetL w s.heap a es ep t ∧ s.heap.get? tp = some ob) where
  sub := fun b hb => by simp at hb; simp [hb]
  grefl := fun _ => rfl
  gtrans := fun _ _ _ h1 h2 => h2.trans h1
  frame := fun i s h' tk st _ k => by
    obtain ⟨it, S, h⟩ := st
    exact ⟨it.keep fun o e => k I (by simp) o e, S.keep fun o e => k a (by simp) o e, k tp (by simp) _ h⟩
  item := fun i s Q E hi st hQ => by
    obtain ⟨it, S, h⟩ := st
    have hp : pl[i]? = some (pl[i]'(hl ▸ hi)) := List.getElem?_eq_getElem _
    obtain ⟨e, he, hve⟩ := hv i _ hp
    refine siRef (pl := pl[i]'(hl ▸ hi)) (u := 0) (e := e) it S h hd ?_ he fun h' it' sb => ?_
    · rw [List.getElem?_toArray, List.getElem?_map, hp]; rfl
    · exact hQ _ _ hve ⟨it', S.keep fun o e => (sb.2 a (Ne.symm hIa)).trans e, (sb.2 tp (Ne.symm hIt)).trans h⟩ (movedOf fun b o hb e => (sb.2 b hb).trans e)
  done := fun s Q E st hQ => by
    obtain ⟨it, S, h⟩ := st
    exact siRefEnd hh it S h hd (by rw [List.getElem?_toArray, List.getElem?_map, List.getElem?_eq_none (by omega)]; rfl) fun h' k => hQ _ (movedOf k)
  self := fun i s Q E st hQ => siSelf st.1 hQ

theorem perm_vals {pl : List Nat} {es : Array (Int × Value)} (hp : pl.Perm (List.range es.size)) : (pl.filterMap fun k => (es[k]?).map (·.2)).Perm (es.toList.map (·.2)) := by
  refine (hp.filterMap _).trans ?_
  have : (List.range es.size).filterMap (fun k => (es[k]?).map (·.2)) = es.toList.map (·.2) := by
    have h := List.filterMap_getElem?_range_length (es.toList.map (·.2))
    rw [List.length_map, Array.length_toList] at h
    rw [← h]
    congr 1
    funext k
    rw [List.getElem?_map, Array.getElem?_toList]
  rw [this]

theorem filterMap_some {α β : Type} {f : α → Option β} {g : α → β} : ∀ {l : List α}, (∀ k ∈ l, f k = some (g k)) → l.filterMap f = l.map g
  | [], _ => rfl
  | x :: r, h => by rw [List.filterMap_cons, h x List.mem_cons_self, filterMap_some fun k hk => h k (List.mem_cons_of_mem _ hk)]; rfl
theorem below_one (p j : Nat) : SetTable.below #[p] j = if p < j then 1 else 0 := by
  simp [SetTable.below, SetTable.below.go]
theorem single_of {α : Type} {x : Array α} (h : x.size = 1) : ∃ e, x = #[e] := by
  obtain ⟨l⟩ := x
  match l, h with
  | [e], _ => exact ⟨e, rfl⟩

/-- iter(..) of a set -/
theorem iterSet {Q : Value → Shared → Prop} (S : SetL w s.heap a es ep t)
    (hQ : ∀ (I : Addr) (h' : Heap) (dr : Drawn) (vals : List Value) (fp : List Addr) (St : Nat → Shared → Prop), (∀ A' : Around, A'.handled = none → WalksS prog w A' I fp [I] (fun x y => y = x) vals.length (fun i v => vals[i]? = some v) St) → St 0 { s with heap := h', drawn := dr } →
      (∀ b o, s.heap.get? b = some o → h'.get? b = some o) → (∀ b ∈ fp, b = a ∨ s.heap.objs.size ≤ b) → I ∈ fp → s.heap.objs.size ≤ I → vals.Perm (es.toList.map (·.2)) → (∀ i s, St i s → s.TypeIs (.ref I) "set_iterator") → Q (.ref I) { s with heap := h', drawn := dr }) :
    wpAny (model prog w) A (pyIter (.ref a)) Q E s := by
  have hT : s.TypeIs (.ref a) "set" := ⟨_, S.lies, rfl⟩
  have ha := Heap.lt_size S.lies
  refine wpAny_pyIter_slot hT F.slot_set_iter (wpAny_call_entry F.slot_set_iter hT entry_set_iter ?_ (F.args_set_iter_1 _))
  show wpAny _ _ (Builtin.Frozenset.sizeOf a >>= _) _ _ s
  refine wpAny_bind ?_
  unfold Builtin.Frozenset.sizeOf
  refine wpAny_bind (S.entries (wpAny_pure ?_))
  refine wpAny_bind ?_
  unfold setDrawn
  refine wpAny_bind (S.state ?_)
  dsimp only
  refine wpAny_bind (byText_wp (wpAny_pure ?_))
  have tail : ∀ (fs : Value) (s₁ : Shared) (Q₁ : Fin → Shared → Prop), SetL w s₁.heap a es ep t → Q₁ (.done (.ret (.ref s₁.heap.objs.size))) { s₁ with heap := s₁.heap.push { cls := .type "set_iterator", data := .fields #[fs, .int 0 0, .ref a, .int es.size 0, .int ep 0] } } →
      wpAny (model prog w) A.in1 (do ret (← newFields "set_iterator" [fs, rawInt 0, .ref a, rawInt es.size, rawInt (← setEpoch a)])) Q₁ E s₁ := by
    intro fs s₁ Q₁ S₁ h
    refine wpAny_bind ?_
    unfold setEpoch
    refine wpAny_bind (S₁.state (wpAny_pure ?_))
    exact wpAny_bind (wpAny_newObj_type (wpAny_pure h))
  have hnx : SetIt (s.heap.push { cls := .type "set_iterator", data := .fields #[.int (0 : Nat) 0, .int 0 0, .ref a, .int es.size 0, .int ep 0] }) s.heap.objs.size a (.int (0 : Nat) 0) 0 es.size ep := ⟨_, Heap.get?_push_size _ rfl, rfl, rfl⟩
  refine wpAny_ite_split (fun hd => ?_) (fun hd => ?_)
  · have hd' : (!(w.params.followText "set-order") && (!t.plain && decide (es.size > 1))) = true := hd
    refine wpAny_bind (wpAny_drawOrder es.size (List.range es.size) s _ (by simp) fun pl dr hp => ?_)
    refine wpAny_bind (wpAny_newObj_type ?_ (by show (List.map (fun i : Nat => rawInt i) pl).toArray.size ≤ sizeLine; rw [List.size_toArray, List.length_map, hp.length_eq, List.length_range, sizeLine_eq]; have := S.few; omega))
    generalize hob : ({ cls := .type "tuple", data := .seq (pl.map fun k : Nat => rawInt k).toArray } : Obj) = ob
    have hdat : ob.data = .seq (pl.map fun k : Nat => rawInt k).toArray 0 := by rw [← hob]
    have htp : (s.heap.push ob).get? s.heap.objs.size = some ob := Heap.get?_push_size _ (by rw [← hob]; rfl)
    refine tail (.ref s.heap.objs.size) { s with heap := s.heap.push ob, drawn := dr } _ (S.keep fun o e => Heap.get?_push_of_some _ e) ?_
    have hI : ((s.heap.push ob).push { cls := .type "set_iterator", data := .fields #[.ref s.heap.objs.size, .int 0 0, .ref a, .int es.size 0, .int ep 0] }).get? (s.heap.push ob).objs.size = some { cls := .type "set_iterator", data := .fields #[.ref s.heap.objs.size, .int 0 0, .ref a, .int es.size 0, .int ep 0] } := Heap.get?_push_size _ rfl
    have hz : (s.heap.push ob).objs.size = s.heap.objs.size + 1 := Heap.size_push ..
    refine ⟨_, rfl, "set_iterator", _, ⟨_, hI, rfl⟩, slot_si_next.lookup, ?_⟩
    have hbd : ∀ k ∈ pl, k < es.size := fun k hk => List.mem_range.mp (hp.mem_iff.mp hk)
    have hvals : (pl.filterMap fun k => (es[k]?).map (·.2)) = pl.map fun k => ((es.getD k (0, .none)).2) := by
      refine filterMap_some fun k hk => ?_
      rw [Array.getElem?_eq_getElem (hbd k hk)]
      simp [Array.getD, hbd k hk]
    have hpv := perm_vals hp
    rw [hvals] at hpv
    refine hQ (s.heap.push ob).objs.size _ dr (pl.map fun k => ((es.getD k (0, .none)).2)) [(s.heap.push ob).objs.size, a, s.heap.objs.size] _ (fun A' hh => walkRef (w := w) (t := t) (ep := ep) pl _ (tp := s.heap.objs.size) (by rw [hz]; exact Nat.ne_of_gt (Nat.lt_succ_of_lt ha)) (by rw [hz]; exact Nat.ne_of_gt (Nat.lt_succ_self _)) hdat (fun i k hk => ?_) (by simp) hh) ⟨⟨_, hI, rfl, rfl⟩, S.keep fun o e => Heap.get?_push_of_some _ (Heap.get?_push_of_some _ e), Heap.get?_push_of_some _ htp⟩
      (fun b o e => Heap.get?_push_of_some _ (Heap.get?_push_of_some _ e)) (fun b hb => ?_) (by simp) (by rw [hz]; exact Nat.le_succ _) hpv (fun i s st => st.1.typeIs)
    · have hk' := hbd k (List.mem_of_getElem? hk)
      exact ⟨es[k], Array.getElem?_eq_getElem hk', by rw [List.getElem?_map, hk]; simp [Array.getD, hk']⟩
    · simp only [List.mem_cons, List.not_mem_nil, or_false] at hb
      rcases hb with rfl | rfl | rfl
      · exact .inr (by rw [hz]; exact Nat.le_succ _)
      · exact .inl rfl
      · exact .inr (Nat.le_refl _)
  · have hd' : ¬ (!(w.params.followText "set-order") && (!t.plain && decide (es.size > 1))) = true := hd
    refine wpAny_bind (wpAny_pure ?_)
    refine tail (rawInt 0) s _ S ?_
    refine ⟨_, rfl, "set_iterator", _, hnx.typeIs, slot_si_next.lookup, ?_⟩
    have hfp : ∀ b ∈ [s.heap.objs.size, a], b = a ∨ s.heap.objs.size ≤ b := fun b hb => by
      simp only [List.mem_cons, List.not_mem_nil, or_false] at hb
      rcases hb with rfl | rfl
      · exact .inr (Nat.le_refl _)
      · exact .inl rfl
    cases hb : w.params.followText "set-order" with
    | true =>
      have hw : ∀ (A' : Around) (s : Shared) (Q' : Array (Int × Value) → Shared → Prop) (E' : Value → Shared → Prop), SetL w s.heap a es ep t → Q' (pickOrder (w.params.setOrder a ep) es) s → wpAny (model prog w) A' (setWalk a) Q' E' s := fun A' s Q' E' S' hq => by
        unfold setWalk
        refine wpAny_bind (S'.state ?_)
        dsimp only
        refine wpAny_bind (byText_wp ?_)
        rw [hb]
        simp only [if_true]
        exact wpAny_bind (wpAny_askSetting (wpAny_pure hq))
      have hpp := pickOrder_perm (w.params.setOrder a ep) es
      have hgen : ∀ (A' : Around) (i : Nat) (s : Shared) (Q' : Option (Value × Nat) → Shared → Prop) (E' : Value → Shared → Prop), SetL w s.heap a es ep t → Q' (((pickOrder (w.params.setOrder a ep) es)[i]?).map fun e => (e.2, 0)) s → wpAny (model prog w) A' (setNext a 0 i ep) Q' E' s := fun A' i s Q' E' S' hq => by
        unfold setNext
        refine wpAny_bind (S'.state ?_)
        dsimp only
        refine wpAny_bind (byText_wp ?_)
        rw [hb]
        simp only [if_true, bne_self_eq_false, Bool.false_eq_true, if_false]
        exact wpAny_bind (hw _ _ _ _ S' (wpAny_pure hq))
      refine hQ s.heap.objs.size _ s.drawn ((pickOrder (w.params.setOrder a ep) es).toList.map (·.2)) [s.heap.objs.size, a] _ (fun A' hh => walkInt (w := w) (t := t) (ep := ep) (es := es) _ (fun _ => 0) (Nat.ne_of_gt ha) (by rw [List.length_map, hpp.length_eq, Array.length_toList]) (fun A' i s x Q' E' S' hx hq => hgen A' i s Q' E' S' ?_) (fun A' s Q' E' S' hq => hgen A' _ s Q' E' S' ?_) hh) ⟨⟨0, hnx⟩, S.keep fun o e => Heap.get?_push_of_some _ e⟩
        (fun b o e => Heap.get?_push_of_some _ e) hfp (by simp) (Nat.le_refl _) (hpp.map _) (fun i s st => st.1.elim fun u it => it.typeIs)
      · rw [List.getElem?_map, Array.getElem?_toList] at hx
        obtain ⟨e, he, rfl⟩ := Option.map_eq_some_iff.mp hx
        rw [he]; exact hq
      · rw [List.length_map, Array.length_toList, Array.getElem?_eq_none (Nat.le_refl _)]; exact hq
    | false =>
      have hsm : es.size ≤ 1 := by
        rw [hb] at hd'
        rcases S.plain with h0 | h0
        · omega
        · rw [h0] at hd'; simpa using hd'
      have hled : t.led = true := by rw [S.led, hb]; rfl
      have hplc : t.place.size = es.size := by
        have := S.fits
        unfold SetTable.fits at this
        simp only [Bool.and_eq_true, beq_iff_eq] at this
        exact this.1
      have hgen : ∀ (A' : Around) (sl i : Nat) (s : Shared) (Q' : Option (Value × Nat) → Shared → Prop) (E' : Value → Shared → Prop), SetL w s.heap a es ep t → Q' (match es[SetTable.below t.place sl]?, t.place[SetTable.below t.place sl]? with | some (_, x), some j => some (x, j + 1) | _, _ => none) s → wpAny (model prog w) A' (setNext a sl i ep) Q' E' s := fun A' sl i s Q' E' S' hq => by
        unfold setNext
        refine wpAny_bind (S'.state ?_)
        dsimp only
        refine wpAny_bind (byText_wp ?_)
        rw [hb]
        simp only [Bool.false_eq_true, if_false]
        refine wpAny_ite_split (fun h => ?_) (fun h => ?_)
        · have h' : (!t.plain && decide (es.size > 1)) = true := h
          simp at h'; omega
        refine wpAny_bind ?_
        show wpAny _ _ (if (!t.led && !es.isEmpty) = true then unsupported "set:maker-not-led" else pure ()) _ _ _
        rw [hled]
        simp only [Bool.not_true, Bool.false_and, Bool.false_eq_true, if_false]
        exact wpAny_pure (wpAny_pure hq)
      by_cases h0 : es.size = 0
      · refine hQ s.heap.objs.size _ s.drawn [] [s.heap.objs.size, a] _ (fun A' hh => walkInt (w := w) (t := t) (ep := ep) (es := es) [] (fun _ => 0) (Nat.ne_of_gt ha) h0.symm (fun A' i s x Q' E' S' hx hq => by cases hx) (fun A' s Q' E' S' hq => hgen A' _ _ s Q' E' S' ?_) hh) ⟨⟨0, hnx⟩, S.keep fun o e => Heap.get?_push_of_some _ e⟩
          (fun b o e => Heap.get?_push_of_some _ e) hfp (by simp) (Nat.le_refl _) (by rw [Array.eq_empty_of_size_eq_zero h0]; exact .refl _) (fun i s st => st.1.elim fun u it => it.typeIs)
        rw [Array.getElem?_eq_none (by omega)]; exact hq
      · have h1 : es.size = 1 := by omega
        obtain ⟨e, rfl⟩ := single_of h1
        obtain ⟨p, hp⟩ := single_of (hplc.trans h1)
        rw [hp] at hgen
        refine hQ s.heap.objs.size _ s.drawn [e.2] [s.heap.objs.size, a] _ (fun A' hh => walkInt (w := w) (t := t) (ep := ep) (es := #[e]) [e.2] (fun i => if i = 0 then 0 else p + 1) (Nat.ne_of_gt ha) rfl (fun A' i s x Q' E' S' hx hq => hgen A' _ _ s Q' E' S' ?_) (fun A' s Q' E' S' hq => hgen A' _ _ s Q' E' S' ?_) hh) ⟨⟨0, hnx⟩, S.keep fun o e => Heap.get?_push_of_some _ e⟩
          (fun b o e => Heap.get?_push_of_some _ e) hfp (by simp) (Nat.le_refl _) (.refl _) (fun i s st => st.1.elim fun u it => it.typeIs)
        · match i, hx with
          | 0, hx =>
            cases hx
            rw [below_one]
            exact hq
          | i + 1, hx => simp at hx
        · rw [show ([e.2] : List Value).length = 1 from rfl, if_neg (by decide), below_one, if_pos (Nat.lt_succ_self _)]
          exact hq
end
end Mine
end

section
open PySem PySem.W PyProof.Rows
set_option linter.unusedVariables false
set_option maxRecDepth 100000
namespace Mine

section
variable {prog : Program} {w : World} {A : Around} {E : Value → Shared → Prop} {s : Shared} {a : Addr} {es : Array (Int × Value)} {ep : Nat} {t : SetTable}

theorem itemsOf_eq {vals : List Value} {acc : Array Value} (h : ItemsOf (fun i v => vals[i]? = some v) acc vals.length) : acc.toList = vals := by
  apply List.ext_getElem?
  intro i
  rw [Array.getElem?_toList]
  by_cases hi : i < acc.size
  · rw [Array.getElem?_eq_getElem hi]
    exact (h.2 i _ (Array.getElem?_eq_getElem hi)).symm
  · rw [Array.getElem?_eq_none (by omega), List.getElem?_eq_none (by rw [← h.1]; omega)]

theorem collectSet {Q : List Value → Shared → Prop} (hh : A.handled = none) (S : SetL w s.heap a es ep t)
    (hQ : ∀ vals h' tk dr, vals.Perm (es.toList.map (·.2)) → (∀ b o, s.heap.get? b = some o → h'.get? b = some o) → Q vals { s with heap := h', toks := tk, drawn := dr }) : wpAny (model prog w) A (collect (.ref a)) Q E s := by
  unfold collect
  refine wpAny_bind (wpAny_runValue (codeAny_builtin F.entry_proto_collect ?_))
  rw [Around.under_plainId F.plain_proto_collect _]
  show wpAny _ A.in1 (newList [] >>= fun l => again (.builtin "list.__iadd__" ⟨[l, .ref a], []⟩)) _ _ s
  refine wpAny_bind (wpAny_newObj_type ?_)
  refine wpAny_pure ⟨plainId_quiet F.plain_list_iadd _, codeAny_builtin F.entry_list_iadd ?_⟩
  rw [Around.under_plainId F.plain_list_iadd _]
  generalize hob : ({ cls := .type "list", data := .seq ([] : List Value).toArray } : Obj) = ob
  have hnew : (s.heap.push ob).get? s.heap.objs.size = some ob := Heap.get?_push_size _ (by rw [← hob]; rfl)
  have ha := Heap.lt_size S.lies
  have hz : (s.heap.push ob).objs.size = s.heap.objs.size + 1 := Heap.size_push ..
  have hne : a ≠ s.heap.objs.size := Nat.ne_of_lt ha
  have S1 : SetL w (s.heap.push ob) a es ep t := S.keep fun o e => Heap.get?_push_of_some _ e
  show wpAny _ A.in1 (Builtin.List.listExtendWith (.ref s.heap.objs.size) (.ref a) (.ref s.heap.objs.size)) _ _ _
  unfold Builtin.List.listExtendWith
  refine wpAny_bind (wpAny_typeOf (T := "set") ⟨_, S1.lies, rfl⟩ ?_)
  have h1 : Builtin.List.listSameRef (.ref s.heap.objs.size) (.ref a) = false := by simp [Builtin.List.listSameRef, Ne.symm hne]
  have h2 : (Value.type "set" == Value.type "list") = false := by decide
  have h3 : (Value.type "set" == Value.type "tuple") = false := by decide
  simp only [h1, h2, h3, Bool.or_false, Bool.false_eq_true, if_false]
  refine wpAny_bind (iterSet (s := { s with heap := s.heap.push ob }) S1 fun I h' dr vals fp St W st k hfp hI hIge hp hT => ?_)
  refine wpAny_bind (wpAny_holding ?_)
  unfold Builtin.List.listLengthHint
  have hTa : Shared.TypeIs { s with heap := h', drawn := dr } (.ref a) "set" := ⟨_, k _ _ S1.lies, rfl⟩
  refine wpAny_bind (wpAny_specialOf hTa F.slot_set_len.lookup ?_)
  generalize hid : ("set.__len__" : String) = id0
  wp_delta
  rw [show splitId id0 = some ("set", "__len__") from by subst hid; decide +kernel]
  subst hid
  refine wpAny_bind (wpAny_isInstance (b := true) hTa sub_set_self ?_)
  show wpAny _ A.in1 (typeOf (Value.ref a) >>= _) _ _ _
  refine wpAny_bind (wpAny_typeOf hTa ?_)
  refine wpAny_pure ?_
  refine wpAny_ite_split (fun _ => ?_) (fun hc => absurd (by decide +kernel) hc)
  have hS1 : h'.get? s.heap.objs.size = some ob := k _ _ hnew
  have hSf : s.heap.objs.size ∉ fp := fun hm => by
    rcases hfp _ hm with e | e
    · exact hne e.symm
    · rw [hz] at e; exact absurd e (Nat.not_le.mpr (Nat.lt_succ_self _))
  refine wpAny_bind (wpAny_rule ?_)
  refine wpAny_bind ?_
  show wpAny _ A.in1 (updateSeq s.heap.objs.size (·.push .none) >>= fun _ => updateSeq s.heap.objs.size (·.pop)) _ _ _
  subst hob
  refine wpAny_bind (wpAny_updateSeq hS1 rfl ?_)
  have hS2 := Heap.get?_update_self (Obj.mapSeq (·.push Value.none)) hS1 rfl
  refine wpAny_updateSeq hS2 rfl ?_
  have hS3 := Heap.get?_update_self (Obj.mapSeq (·.pop)) hS2 rfl
  have oth : ∀ b o, b ≠ s.heap.objs.size → h'.get? b = some o → ((h'.update s.heap.objs.size (Obj.mapSeq (·.push Value.none))).update s.heap.objs.size (Obj.mapSeq (·.pop))).get? b = some o :=
    fun b o hb e => (Heap.get?_update_other _ _ (Ne.symm hb)).trans ((Heap.get?_update_other _ _ (Ne.symm hb)).trans e)
  have WW := W A.in1 (by simp [hh])
  have hn : vals.length ≤ sizeLine := by
    have := S.few
    rw [hp.length_eq, List.length_map, Array.length_toList, sizeLine_eq]; omega
  refine wpAny_pure ⟨plainId_quiet F.plain_extend_loop _, codeAny_extend_loopS WW hn s.heap.objs.size hSf _ vals.length 0 _ _ _ rfl (Nat.zero_le _) (WW.frame 0 ({ s with heap := h', drawn := dr } : Shared) _ s.toks st (Nat.le_refl _) fun b hb o e => oth b o (fun h => hSf (h ▸ hb)) e) hS3 (ItemsOf.nil _) fun s' acc' c' hm hS' hacc => ?_⟩
  show wpAny _ A (load s.heap.objs.size >>= _) _ _ s'
  refine wpAny_bind (wpAny_load hS' ?_)
  refine wpAny_pure ?_
  obtain ⟨sh, sg, sd, st', so⟩ := s'
  have eg : sg = s.gens := hm.gens
  have ed : sd = dr := hm.drawn
  have eo : so = s.os := hm.os
  subst eg ed eo
  rw [itemsOf_eq hacc]
  refine hQ vals sh st' sd hp fun b o e => ?_
  have hb := Heap.lt_size e
  refine hm.heap b o (fun hmm => ?_) (oth b o (Nat.ne_of_lt hb) (k _ _ (Heap.get?_push_of_some _ e)))
  simp only [List.mem_cons, List.not_mem_nil, or_false] at hmm
  rcases hmm with rfl | rfl
  · exact Nat.lt_irrefl _ hb
  · rw [hz] at hIge; exact absurd hb (Nat.not_lt.mpr (Nat.le_of_succ_le hIge))

theorem strsOf {w : World} {es : Array (Int × Value)} (h : ∀ e ∈ es.toList, ∃ x u, e = (hashStr w x, .str x u)) {vals : List Value} (hp : vals.Perm (es.toList.map (·.2))) : ∃ zs, StrsAre vals zs ∧ zs.Perm (txts es) := by
  have key : ∀ l : List Value, (∀ v ∈ l, ∃ x u, v = .str x u) → StrsAre l (l.map fun v => txtOf (0, v)) := by
    intro l
    induction l with
    | nil => intro _; exact .nil
    | cons v r ih =>
      intro h
      obtain ⟨x, u, rfl⟩ := h v List.mem_cons_self
      exact .cons x u (ih fun y hy => h y (List.mem_cons_of_mem _ hy))
  refine ⟨_, key vals fun v hv => ?_, ?_⟩
  · obtain ⟨e, he, rfl⟩ := List.mem_map.mp (hp.mem_iff.mp hv)
    obtain ⟨x, u, rfl⟩ := h e he
    exact ⟨x, u, rfl⟩
  · refine (hp.map _).trans ?_
    rw [List.map_map]
    exact .refl _

/-- sorted(..) of a set of texts -/
theorem sortedSet {Q : Value → Shared → Prop} (hh : A.handled = none) (S : SetL w s.heap a es ep t) (h64 : es.size < 64)
    (hQ : ∀ (out : List Value) (zs : List Str) l h' tk dr, StrsAre out zs → zs.Perm (txts es) → sortedS zs = true → s.heap.objs.size ≤ l → LL h' l out.toArray → (∀ b o, s.heap.get? b = some o → h'.get? b = some o) → Q (.ref l) { s with heap := h', toks := tk, drawn := dr }) :
    wpAny (model prog w) A (call (.builtin "sorted") [.ref a]) Q E s := by
  refine Calls.call_function_entry kind_sorted plain_sorted entry_sorted (args_sorted1 _) ?_
  unfold Builtin.«sorted»
  refine wpAny_bind (m := checkCount "sorted" 1 1 _) (wpAny_pure ?_)
  refine wpAny_bind (wpAny_size (collectSet (by simp [hh]) S fun vals h' tk dr hp k => fun sz => ?_))
  dsimp only at sz
  obtain ⟨zs, hz, hpz⟩ := strsOf S.els hp
  have hl64 : vals.length < 64 := by rw [hp.length_eq, List.length_map, Array.length_toList]; exact h64
  refine wpAny_bind (wpAny_newList ?_ (by rw [sizeLine_eq]; omega))
  have hoL : (h'.push (seqObj "list" vals.toArray 0)).get? h'.objs.size = some (seqObj "list" vals.toArray 0) := Heap.get?_push_size _ rfl
  refine wpAny_bind (wpAny_holding (wpAny_call_entry slot_list_sort ⟨_, hoL, rfl⟩ entry_list_sort (list_sort_treeK strKind_oneLt hoL hz.keysOf (fun v₁ v₂ rest e => keyKind_strs (by rw [← e]; exact hz)) hl64 fun st' a1 a2 => ⟨_, rfl, ?_⟩) (args_list_sort _)))
  obtain ⟨ss', b1, b2, b3⟩ := sorted_out_str hz a1 a2
  refine wpAny_pure ⟨_, rfl, ?_⟩
  obtain ⟨e, he⟩ := sortedHeap_at (vs := vals) (out := (arrOf st').map (·.2)) hoL
  refine hQ _ ss' _ _ tk dr b1 (b2.trans hpz) b3 sz ⟨e, by rw [show ((arrOf st').map (·.2)).toList.toArray = (arrOf st').map (·.2) from Array.toArray_toList]; exact he⟩ fun b o eb => ?_
  have hb := Heap.lt_size (k b o eb)
  rw [sortedHeap_old (Nat.ne_of_lt hb) (by rw [Heap.size_push]; exact Nat.lt_succ_of_lt hb), Heap.get?_push_ne _ _ _ (Nat.ne_of_lt hb)]
  exact k b o eb
end
end Mine
end

section
open PySem PySem.W PyProof.Rows PyProof.V PySem.Spec PySem.SeqAt Builtin
set_option linter.unusedVariables false
set_option maxRecDepth 100000
namespace Mine

/-! ### data in the abstract state: equality, membership -/
mutual
inductive RD (os : List AO) : AV → PyData → Prop where
  | int (i : Int) : RD os (.int i) (.int i)
  | str (x : Str) : RD os (.str x) (.str x)
  | list {i : Nat} {xs : List AV} {ds : List PyData} : os[i]? = some (.list xs) → RDs os xs ds → RD os (.ref i) (.list ds)
  | tup {i : Nat} {xs : List AV} {ds : List PyData} : os[i]? = some (.tup xs) → RDs os xs ds → RD os (.ref i) (.tuple ds)
inductive RDs (os : List AO) : List AV → List PyData → Prop where
  | nil : RDs os [] []
  | cons {x : AV} {d : PyData} {xs : List AV} {ds : List PyData} : RD os x d → RDs os xs ds → RDs os (x :: xs) (d :: ds)
end

section
variable {c : Cx} {n : Nat} {fd : FD} {σ σ' σ₁ σ₂ σ₃ : S} {X : List Addr} {A : Around} {ρ : List Pl} {s : Shared} {os os' : List AO} {L : Law} {E : Value → Shared → Prop} {v v' : AV} {h : Heap}

theorem RD.reads {a : AV} {d : PyData} (r : Rel c X os ρ h) (hd : RD os a d) : ∀ {v : Value}, VR ρ a v → ∃ as, Reads h v d as :=
  RD.rec (motive_1 := fun a d _ => ∀ {v : Value}, VR ρ a v → ∃ as, Reads h v d as) (motive_2 := fun a d _ => ∀ {v : List Value}, VRs ρ a v → ∃ as, ReadsAll h v d as)
    (fun i v hv => by obtain ⟨t, rfl⟩ := hv; exact ⟨_, .int i t⟩)
    (fun x v hv => by obtain ⟨t, rfl⟩ := hv; exact ⟨_, .str x t⟩)
    (fun ho _ ih v hv => by
      obtain ⟨p, vs, hp, _, rfl, hvs, k, hpl⟩ := r.list ho hv
      obtain ⟨as, ha⟩ := ih hvs
      exact ⟨_, Reads.list hpl rfl rfl (by simpa using ha)⟩)
    (fun ho _ ih v hv => by
      obtain ⟨p, vs, hp, _, rfl, hvs, k, hpl⟩ := r.tup ho hv
      obtain ⟨as, ha⟩ := ih hvs
      exact ⟨_, Reads.tuple hpl rfl rfl (by simpa using ha)⟩)
    (fun {v} hv => by
      cases v with
      | nil => exact ⟨_, .nil⟩
      | cons a v => cases hv)
    (fun _ _ ih1 ih2 v hv => by
      cases v with
      | nil => cases hv
      | cons a v =>
        obtain ⟨as, ha⟩ := ih1 hv.1
        obtain ⟨bs, hb⟩ := ih2 hv.2
        exact ⟨_, .cons ha hb⟩) hd
theorem RDs.strs (ss : List Str) : RDs os (ss.map .str) (ss.map PyData.str) := by
  induction ss with
  | nil => exact .nil
  | cons x r ih => exact .cons (.str x) ih
theorem RDs.ints (ss : List Int) : RDs os (ss.map .int) (ss.map PyData.int) := by
  induction ss with
  | nil => exact .nil
  | cons x r ih => exact .cons (.int x) ih

theorem eq_d {a b : AV} {da db : PyData} (ha : RD os a da) (hb : RD os b db) (h1 : shaped da = true) (h2 : shaped db = true) : Op2 c n (compareOp .Eq) a b os (.bool (PyData.eqv da db)) os := fun A ρ s x y rm r hx hy Q E hq => by
  obtain ⟨_, ra⟩ := ha.reads r hx
  obtain ⟨_, rb⟩ := hb.reads r hy
  exact compareEq_shaped ra rb h1 h2 (by have := rm.units; omega) (hq _ s.heap s.toks ρ (Reach.refl ..) ⟨r, rfl⟩)
theorem in_d {a b : AV} {xs : List PyData} {d : PyData} (ha : RD os b (.list xs)) (hb : RD os a d) (h1 : shaped (.list xs) = true) (h2 : shaped d = true) : Op2 c n (compareOp .In) a b os (.bool (xs.any fun y => PyData.eqv y d)) os := fun A ρ s x y rm r hx hy Q E hq => by
  obtain ⟨_, ra⟩ := ha.reads r hy
  obtain ⟨_, rb⟩ := hb.reads r hx
  have hc1 : PyData.canLayAll0 xs = true := by have := canLay_of_shaped h1; simpa [PyData.canLay0] using this
  exact in_list_reads ra rb hc1 (canLay_of_shaped h2) (room_in_shaped h2 (by have := rm.units; omega)) (hq _ s.heap s.toks ρ (Reach.refl ..) ⟨r, rfl⟩)

theorem eqv_str (x y : Str) : PyData.eqv (.str x) (.str y) = (x == y) := by simp [PyData.eqv]
theorem eqvAll_ints (xs : List Int) : ∀ ys : List Int, PyData.eqvAll (xs.map PyData.int) (ys.map PyData.int) = decide (xs = ys) := by
  induction xs with
  | nil => intro ys; cases ys <;> simp [PyData.eqvAll]
  | cons x xs ih =>
    intro ys
    cases ys with
    | nil => simp [PyData.eqvAll]
    | cons y ys =>
      simp only [List.map_cons, PyData.eqvAll, ih ys]
      simp only [PyData.eqv]
      by_cases h1 : x = y <;> by_cases h2 : xs = ys <;> simp [h1, h2]
theorem any_strs (ss : List Str) (x : Str) : ((ss.map PyData.str).any fun y => PyData.eqv y (.str x)) = decide (x ∈ ss) := by
  induction ss with
  | nil => simp
  | cons y r ih =>
    rw [List.map_cons, List.any_cons, ih, eqv_str]
    by_cases h1 : y = x
    · subst h1; simp
    · have : (y == x) = false := beq_eq_false_iff_ne.mpr h1
      rw [this]
      simp [Ne.symm h1]

theorem in_ls {i : Nat} {ss : List Str} {x : Str} (ho : os[i]? = some (.list (ss.map .str))) (h1 : ss.all PyData.strOk = true) (h2 : PyData.strOk x = true) : Op2 c n (compareOp .In) (.str x) (.ref i) os (.bool (decide (x ∈ ss))) os := by
  rw [← any_strs]
  exact in_d (.list ho (RDs.strs ss)) (.str x) (shaped_strs h1) (by simp [shaped, PyData.canLay0, h2, PyData.depth])

theorem ne_b {a b : Bool} {os : List AO} : Op2 c n (compareOp .NotEq) (.bool a) (.bool b) os (.bool (a != b)) os := fun A ρ s x y rm r hx hy Q E hq => by
  cases hx; cases hy
  have h1 : shaped (.bool a) = true := by cases a <;> decide
  have h2 : shaped (.bool b) = true := by cases b <;> decide
  refine ne_dataH (Reads.bool a) (Reads.bool b) h1 h2 (by have := rm.units; omega) ?_
  have := hq (.bool (a != b)) s.heap s.toks ρ (Reach.refl ..) ⟨r, rfl⟩ (dr := s.drawn)
  have e : (!PyData.eqv (.bool a) (.bool b)) = (a != b) := by cases a <;> cases b <;> decide
  rw [e]; exact this

/-! ### one more of a list's rules: taken off its end, said over and over -/
theorem popEnd_l {i : Nat} {x : AV} {xs : List AV} (ho : os[i]? = some (.list (xs ++ [x]))) (hz : xs.length + 1 ≤ sizeLine) : CallR c n (.builtin "list.pop") [.ref i] os x (os.set i (.list xs)) := fun A ρ s zs rm r hx Q E hq => by
  obtain ⟨a, rfl, ha⟩ := VRs.d1 hx
  obtain ⟨p, vs, hp, hm, rfl, hvs, ⟨k, hl⟩⟩ := r.list ho ha
  have hlen := hvs.length
  rw [List.length_append] at hlen
  have hpos : 0 < vs.length := by simp at hlen; omega
  have hvl : vs.length - 1 = xs.length := by simp at hlen; omega
  have hva : vs[vs.length - 1]? = some vs[vs.length - 1] := List.getElem?_eq_getElem _
  obtain ⟨u, hu, hxu⟩ := hvs.get (i := xs.length) (x := x) (by simp)
  rw [← hvl] at hu
  refine call_meets PySem.F.slot_list_pop ⟨_, hl, rfl⟩ PySem.F.entry_list_pop (PySem.F.args_list_pop_1 _) (PySem.MeetsSeq.list_pop_last p.a _ k u (by simpa using hu) (by simp at hlen ⊢; omega)) ⟨hl, ?_⟩
  have hg : LL (s.heap.update p.a (Obj.mapSeq fun xs => xs.eraseIdxIfInBounds (vs.toArray.size - 1))) p.a (vs.toArray.eraseIdxIfInBounds (vs.toArray.size - 1)) := ⟨_, Heap.get?_update_self _ hl rfl⟩
  have e : vs.toArray.eraseIdxIfInBounds (vs.toArray.size - 1) = (vs.take xs.length).toArray := by
    rw [← hvl]; simp [List.dropLast_eq_take]
  rw [e] at hg
  refine hq _ _ s.toks ρ (Reach.set hp (Heap.SameBut.update ..)) ⟨r.setList hp hm hg (Heap.SameBut.update ..) ?_, hxu⟩
  have := hvs.take xs.length
  simpa using this
end
end Mine
end

section
open PySem PySem.W PyProof.Rows PyProof.V PySem.Spec PySem.SeqAt Builtin PySem.Builtin.Str
set_option linter.unusedVariables false
set_option maxRecDepth 100000
namespace Mine

section
variable {c : Cx} {n : Nat} {fd : FD} {σ σ' σ₁ σ₂ σ₃ : S} {X : List Addr} {A : Around} {ρ : List Pl} {s : Shared} {os os' : List AO} {L : Law} {E : Value → Shared → Prop} {v v' : AV} {h : Heap}

/-! ### [::-1] -/
theorem rev_pick {α : Type} (l : List α) : ((List.range l.length).map fun k => l.length - 1 - k).filterMap (l[·]?) = l.reverse := by
  rw [List.filterMap_map]
  match l with
  | [] => rfl
  | y :: t =>
    rw [filterMap_some (g := fun k => (y :: t).getD ((y :: t).length - 1 - k) y)]
    · apply List.ext_getElem
      · simp
      · intro i h1 h2
        have hi : i < (y :: t).length := by simpa using h1
        rw [List.getElem_map, List.getElem_range, List.getElem_reverse, List.getD_eq_getElem?_getD, List.getElem?_eq_getElem (by omega)]; rfl
    · intro k hk
      have hk' : k < (y :: t).length := by simpa using hk
      show (y :: t)[(y :: t).length - 1 - k]? = _
      rw [List.getD_eq_getElem?_getD, List.getElem?_eq_getElem (by omega)]; rfl
noncomputable def revS (x : Str) : Str := ⟨x.cps.toList.reverse.toArray⟩
theorem slice_sr {x : Str} (hz : x.length ≤ sizeLine) : SlOp c n (.str x) Option.none Option.none (some (-1)) os (.str (revS x)) os := fun A ρ s v sl vl vu vst rm r hx hsl hl hu ht Q E hq => by
  obtain ⟨t, rfl⟩ := hx
  cases hl; cases hu
  obtain ⟨u, rfl⟩ := ht
  refine wpAny_getItem_str_slice (l := Option.none) (u := Option.none) (st := some (-1, u)) hsl rfl ?_
  have hs : (⟨((slicePicked x Option.none Option.none (some (-1, u))).filterMap (x.cps[·]?)).toArray⟩ : Str) = revS x := by
    unfold slicePicked
    show (⟨((strSliceIndices none none (-1) x.length).filterMap (x.cps[·]?)).toArray⟩ : Str) = revS x
    rw [picked_rev]
    unfold revS
    have := rev_pick x.cps.toList
    rw [Array.length_toList] at this
    rw [← this]
    congr 3
    funext k
    exact (Array.getElem?_toList).symm
  unfold sliceMade
  rw [if_neg (by simp)]
  rw [hs]
  refine ⟨?_, hq _ s.heap _ ρ (Reach.refl ..) ⟨r, _, rfl⟩⟩
  show (revS x).cps.size ≤ sizeLine
  unfold revS
  rw [List.size_toArray, List.length_reverse, Array.length_toList]; exact hz
theorem VRs.reverse {xs : List AV} {vs : List Value} (h : VRs ρ xs vs) : VRs ρ xs.reverse vs.reverse := by
  have hl := h.length
  refine VRs.of_get (by simp [hl]) fun j x v hx hv => ?_
  have hj : j < xs.length := by have := (List.getElem?_eq_some_iff.mp hx).1; simpa using this
  rw [List.getElem?_reverse hj] at hx
  rw [List.getElem?_reverse (by omega), ← hl] at hv
  obtain ⟨w, h1, h2⟩ := h.get hx
  rw [hv] at h1; cases h1; exact h2
theorem slice_lr {i : Nat} {xs : List AV} (ho : os[i]? = some (.list xs)) (hz : xs.length ≤ sizeLine) : SlOp c n (.ref i) Option.none Option.none (some (-1)) os (.ref os.length) (os ++ [.list xs.reverse]) := fun A ρ s x sl vl vu vst rm r hx hsl hl hu ht Q E hq => by
  obtain ⟨p, vs, hp, _, rfl, hvs, hpl⟩ := r.list ho hx
  cases hl; cases hu
  obtain ⟨u, rfl⟩ := ht
  have hlen := hvs.length
  refine wpAny_getItem_list_slice hpl.isList hsl .none .none (.int _ u) (by decide) ?_ (by rw [List.size_toArray, ← hlen]; exact hz)
  have e : slicePick vs.toArray Option.none Option.none (some (-1)) = vs.reverse.toArray := by
    have h1 : slicePick vs.toArray Option.none Option.none (some (-1)) = ((strSliceIndices Option.none Option.none (-1) vs.length).filterMap (vs.toArray[·]?)).toArray := rfl
    rw [h1, picked_rev, ← rev_pick vs]
    congr 2
    funext k; simp
  rw [e]
  exact hq _ _ s.toks _ (Reach.alloc ρ s.heap _) ⟨r.newList hvs.reverse, VR.new r⟩

/-! ### a list said over and over -/
theorem VRs.rep {xs : List AV} {vs : List Value} (h : VRs ρ xs vs) : ∀ k, VRs ρ (List.replicate k xs).flatten (List.replicate k vs).flatten
  | 0 => trivial
  | k + 1 => by rw [List.replicate_succ, List.replicate_succ, List.flatten_cons, List.flatten_cons]; exact h.append (VRs.rep h k)
theorem mul_raw {prog : Program} {w : World} {l : Addr} {items : Array Value} {k : Nat} {x : Int} {u : Tok} {Q : Value → Shared → Prop} (hl : s.heap.get? l = some { cls := .type "list", dict := none, data := .seq items k, slots := #[] })
    (c0 : ¬ (!Builtin.List.listFitsIndex x) = true) (c1 : ¬ items.size * x.toNat > (2 ^ 63 - 1) / 8) (c2 : ¬ Builtin.List.listTooLong (items.size * x.toNat) = true)
    (h : Q (.ref s.heap.objs.size) { s with heap := s.heap.push { cls := .type "list", data := .seq (List.foldl (fun x1 x2 => x1 ++ x2) #[] (List.replicate (if items.isEmpty = true then 0 else x.toNat) items)) } }) : wpAny (model prog w) A (binaryOp .Mult (.ref l) (.int x u)) Q E s :=
  wpAny_binaryOp_repeat_ref (T := "list") (U := "int") (by decide) ⟨_, hl, rfl⟩ (fun s' => typeIs_int s' x u) noFill_list_mul PySem.F.fills_int_mul PySem.F.slot_int_rmul repeat_list PySem.F.slot_int_index.lookup
    (call_meets PySem.F.slot_int_rmul (typeIs_int s x u) PySem.F.entry_int_rmul (PySem.F.args_int_rmul_2 _ _) (int___rmul___int_list x u l items k)
      ⟨hl, rfl, ⟨_, hl, rfl⟩, call_meets PySem.F.slot_list_mul ⟨_, hl, rfl⟩ PySem.F.entry_list_mul (PySem.F.args_list_mul_2 _ _) (AutoListH.list___mul___list_int_3 l items k x u c0 c1 c2) ⟨hl, h⟩⟩)
theorem mul_l {i k : Nat} {xs : List AV} (ho : os[i]? = some (.list xs)) (hz : xs.length * k ≤ 16000000) (hk : k ≤ 1000) : Op2 c n (binaryOp .Mult) (.ref i) (.int (k : Int)) os (.ref os.length) (os ++ [.list (List.replicate k xs).flatten]) := fun A ρ s x y rm r hx hy Q E hq => by
  obtain ⟨p, vs, hp, _, rfl, hvs, kk, hl⟩ := r.list ho hx
  obtain ⟨u, rfl⟩ := hy
  have hlen := hvs.length
  have hsz : vs.toArray.size * (k : Int).toNat ≤ 16000000 := by rw [List.size_toArray, ← hlen, Int.toNat_natCast]; exact hz
  have c0 : ¬ (!Builtin.List.listFitsIndex (k : Int)) = true := by simp [Builtin.List.listFitsIndex]; omega
  have c1 : ¬ vs.toArray.size * (k : Int).toNat > (2 ^ 63 - 1) / 8 := by omega
  have c2 : ¬ Builtin.List.listTooLong (vs.toArray.size * (k : Int).toNat) = true := by
    simp only [Builtin.List.listTooLong, decide_eq_true_eq, sizeLine_eq]; omega
  refine mul_raw hl c0 c1 c2 ?_
  have e : List.foldl (fun x1 x2 => x1 ++ x2) #[] (List.replicate (if vs.toArray.isEmpty = true then 0 else (k : Int).toNat) vs.toArray) = (List.replicate k vs).flatten.toArray := by
    rw [Int.toNat_natCast, listMul_foldl_if]
  rw [e]
  exact hq _ _ s.toks _ (Reach.alloc ρ s.heap _) ⟨r.newList (hvs.rep k), VR.new r⟩
end
end Mine
end

section
open PySem PySem.W PyProof.Rows PyProof.V PySem.Spec PySem.SeqAt Builtin
set_option linter.unusedVariables false
set_option maxRecDepth 100000
namespace Mine

section
variable {c : Cx} {n : Nat} {fd : FD} {σ σ' σ₁ σ₂ σ₃ : S} {X : List Addr} {A : Around} {ρ : List Pl} {s : Shared} {os os' : List AO} {L : Law} {E : Value → Shared → Prop} {v v' : AV} {h : Heap}

theorem evalStr {x : Str} {p q : Pos} {env : Env} {Q : Value → Shared → Prop} (h : ∀ t tk, Q (.str x t) { s with toks := tk }) : wpAny c.M A (eval (.Constant (.str x) 0 p) env) Q E s := wpAny_Constant_str (h _ _)

theorem lookAt {k1 k2 k3 k4 v1 v2 v3 v4 key z : Str} (nd : [k1, k2, k3, k4].Nodup) (b1 b2 b3 b4 : Tok) (hz : [(k1, v1), (k2, v2), (k3, v3), (k4, v4)].lookup key = some z) :
    ∃ t, valueAt [(k1, Value.str v1 b1), (k2, .str v2 b2), (k3, .str v3 b3), (k4, .str v4 b4)] key = some (.str z t) := by
  unfold valueAt
  simp only [List.lookup_cons, List.find?_cons] at hz ⊢
  by_cases h1 : key = k1
  · subst h1; simp at hz ⊢; exact hz
  · have h1' : (key == k1) = false := beq_eq_false_iff_ne.mpr h1
    by_cases h2 : key = k2
    · subst h2; simp [h1', Ne.symm h1] at hz ⊢; exact hz
    · have h2' : (key == k2) = false := beq_eq_false_iff_ne.mpr h2
      by_cases h3 : key = k3
      · subst h3; simp [h1', h2', Ne.symm h1, Ne.symm h2] at hz ⊢; exact hz
      · have h3' : (key == k3) = false := beq_eq_false_iff_ne.mpr h3
        by_cases h4 : key = k4
        · subst h4; simp [h1', h2', h3', Ne.symm h1, Ne.symm h2, Ne.symm h3] at hz ⊢; exact hz
        · have h4' : (key == k4) = false := beq_eq_false_iff_ne.mpr h4
          simp [h1', h2', h3', h4'] at hz
noncomputable def DictR (c : Cx) (kvs : List (Str × Str)) (d : Addr) (h : Heap) : Prop := ∃ l : List (Str × Value), h.DictOf (PySem.strKind c.prog c.w) d l ∧ ∀ key z, kvs.lookup key = some z → ∃ t, valueAt l key = some (.str z t)
theorem DictR.keep {kvs : List (Str × Str)} {d : Addr} {h h' : Heap} (x : DictR c kvs d h) (k : ∀ o, h.get? d = some o → h'.get? d = some o) : DictR c kvs d h' := by
  obtain ⟨l, ⟨o, es, ep, ho, r⟩, q⟩ := x
  exact ⟨l, ⟨o, es, ep, k o ho, r⟩, q⟩
structure EvDict (c : Cx) (n : Nat) (fd : FD) (value : Expr) (σ : S) (kvs : List (Str × Str)) : Prop where
  run : ∀ env A ρ s, Room A n → In c fd σ env ρ s.heap → Run c [env.locals] A ρ s (eval value env) fun ρ' h' v => In c fd σ env ρ' h' ∧ ∃ d, v = .ref d ∧ DictR c kvs d h' ∧ d ∉ env.locals :: foot ρ'

set_option maxHeartbeats 2000000 in
theorem evDict4 {k1 k2 k3 k4 v1 v2 v3 v4 : Str} {p1 p2 p3 p4 q1 q2 q3 q4 pd : Pos} (nd : [k1, k2, k3, k4].Nodup) :
    EvDict c n fd (.Dict [some (.Constant (.str k1) 0 p1), some (.Constant (.str k2) 0 p2), some (.Constant (.str k3) 0 p3), some (.Constant (.str k4) 0 p4)] [.Constant (.str v1) 0 q1, .Constant (.str v2) 0 q2, .Constant (.str v3) 0 q3, .Constant (.str v4) 0 q4] pd) σ [(k1, v1), (k2, v2), (k3, v3), (k4, v4)] := by
  refine ⟨fun env A ρ s rm i => ?_⟩
  refine Run.wp fun Q E hq => ?_
  refine wpAny_Dict_pairs (knd := (PySem.strKind c.prog c.w)) (pairs := [(eval (.Constant (.str k1) 0 p1) env, do let x ← eval (.Constant (.str v1) 0 q1) env; standAt pd; pure x), (eval (.Constant (.str k2) 0 p2) env, do let x ← eval (.Constant (.str v2) 0 q2) env; standAt pd; pure x), (eval (.Constant (.str k3) 0 p3) env, do let x ← eval (.Constant (.str v3) 0 q3) env; standAt pd; pure x), (eval (.Constant (.str k4) 0 p4) env, do let x ← eval (.Constant (.str v4) 0 q4) env; standAt pd; pure x)]) rfl (by simp) (by simp) ?_
  have one : ∀ (k v : Str) (p q : Pos) (rest : List (Sem Value × Sem Value)) (s' : Shared) (Q' : List (Value × Value) → Shared → Prop), (∀ t u tk, wpAny c.M A (evalPairs rest) (fun vs s₃ => Q' ((.str k t, .str v u) :: vs) s₃) E { s' with toks := tk }) →
      wpAny c.M A (evalPairs ((eval (.Constant (.str k) 0 p) env, do let x ← eval (.Constant (.str v) 0 q) env; standAt pd; pure x) :: rest)) Q' E s' := fun k v p q rest s' Q' h =>
    evalPairs_cons (evalStr (q := p) fun t tk => wpAny_bind (evalStr (q := p) fun u tk' => wpAny_bind (wpAny_standAt (wpAny_pure (h t u tk')))))
  refine one k1 v1 p1 q1 _ _ _ fun a1 b1 _ => one k2 v2 p2 q2 _ _ _ fun a2 b2 _ => one k3 v3 p3 q3 _ _ _ fun a3 b3 _ => one k4 v4 p4 q4 _ _ _ fun a4 b4 tk => evalPairs_nil ?_
  have isk : ∀ (k : Str) (t : Tok), (PySem.strKind c.prog c.w).is k (.str k t) = true := fun k t => isStr_iff.mpr rfl
  refine ⟨[(k1, .str v1 b1), (k2, .str v2 b2), (k3, .str v3 b3), (k4, .str v4 b4)], ⟨isk _ _, rfl, isk _ _, rfl, isk _ _, rfl, isk _ _, rfl, trivial⟩, Heap.DictOf.new _, fun h' hd hs => ?_⟩
  have hm : merged [] [(k1, Value.str v1 b1), (k2, .str v2 b2), (k3, .str v3 b3), (k4, .str v4 b4)] = [(k1, .str v1 b1), (k2, .str v2 b2), (k3, .str v3 b3), (k4, .str v4 b4)] := by
    simp only [List.nodup_cons, List.mem_cons, List.not_mem_nil, or_false, not_or] at nd
    obtain ⟨⟨n1, n2, n3⟩, ⟨n4, n5⟩, n6, _⟩ := nd
    simp [merged, stored, n1, n2, n3, n4, n5, n6]
  rw [hm] at hd
  have hk : Keeps s.heap h' := fun b o e => (hs.2 b (Nat.ne_of_lt (Heap.lt_size e))).trans (Heap.get?_push_of_some _ e)
  refine hq _ h' _ ρ fun sz => ⟨Reach.keeps _ ρ hk sz, i.lift (Reach.keeps [] ρ hk sz) (i.rel.none.keeps hk sz), _, rfl, ⟨_, hd, fun key z hz => ?_⟩, fun hmem => ?_⟩
  · exact lookAt nd b1 b2 b3 b4 hz
  · have := i.rel.live s.heap.objs.size hmem
    exact Nat.lt_irrefl _ this

theorem Ev.dictSub {value : Expr} {kvs : List (Str × Str)} {px pos : Pos} {x key z : Str} (hv : EvDict c n fd value σ kvs) (hx : Ev c n fd (.Name x px) σ (.str key) σ) (hz : kvs.lookup key = some z) : Ev c n fd (.Subscript value (.Name x px) pos) σ (.str z) σ := fun env A ρ s rm i => by
  rw [eval_Subscript]
  refine Run.bind (hv.run env A ρ s rm i) fun dv h₁ tk₁ ρ₁ q₁ p₁ => ?_
  intro dr
  obtain ⟨i₁, d, rfl, hd, hn⟩ := p₁
  refine Run.bind (P := fun ρ' h' v => (In c fd σ env ρ' h' ∧ VR ρ' (.str key) v) ∧ DictR c kvs d h') (Run.holding ?_) fun kv h₂ tk₂ ρ₂ q₂ p₂ => ?_
  · exact (hx env A ρ₁ _ rm i₁).mono fun x h' ρ' q p => ⟨p, hd.keep fun o ho => q.keep _ _ ho (by simpa using hn)⟩
  · intro dr2
    refine Run.stand ?_
    obtain ⟨⟨i₂, t, rfl⟩, l, hd₂, hz₂⟩ := p₂
    obtain ⟨zt, hzt⟩ := hz₂ key z hz
    intro Q E hq
    have hT : Shared.TypeIs { s with heap := h₂, toks := tk₂, drawn := dr2 } (.ref d) "dict" := Heap.DictOf.typeIs (s := { s with heap := h₂, toks := tk₂, drawn := dr2 }) (knd := PySem.strKind c.prog c.w) hd₂
    refine wpAny_bind ?_
    rw [getitemInPython_of_ne hT.not_modules]
    refine wpAny_bind (wpAny_specialOf hT slot_dict_getitem.lookup (wpAny_pure ?_))
    refine wpAny_bind (wpAny_operating ?_)
    refine wpAny_getItem_of (knd := PySem.strKind c.prog c.w) (k := key) (isStr_iff.mpr rfl) hd₂.mapOf hzt ?_
    exact wpAny_bind (wpAny_letTemporaryGo (wpAny_pure (hq _ h₂ _ ρ₂ (Reach.refl ..) ⟨i₂, zt, rfl⟩)))
/-- the same, as a turn of a comprehension asks it (an Ev at a display must not be met by the elaborator: it would run it) -/
theorem Ev.dictTurn {value : Expr} {kvs : List (Str × Str)} {px pos : Pos} {x key z : Str} {vs : List (Str × AV)} {os : List AO} (hv : EvDict c n fd value ⟨vs, os⟩ kvs) (hx : Ev c n fd (.Name x px) ⟨vs, os⟩ (.str key) ⟨vs, os⟩) (hz : kvs.lookup key = some z) : ∃ vs', Ev c n fd (.Subscript value (.Name x px) pos) ⟨vs, os⟩ (.str z) ⟨vs', os⟩ := ⟨vs, Ev.dictSub hv hx hz⟩
end
end Mine
end

section
open PySem PySem.W PyProof.Rows PyProof.V PySem.Spec PySem.SeqAt Builtin
set_option linter.unusedVariables false
set_option maxRecDepth 100000
namespace Mine

/-! ### sorted(set(..)) of texts -/
/-- the texts of a list, each once, in order -/
noncomputable def IsSset (ss zs : List Str) : Prop := zs.Nodup ∧ (∀ x, x ∈ zs ↔ x ∈ ss) ∧ sortedS zs = true
open Classical in
noncomputable def sset (ss : List Str) : List Str := if h : ∃ zs, IsSset ss zs then h.choose else []
theorem rising_all : ∀ (l : List Str) (p : Str), risingS p l = true → ∀ y ∈ l, ltCps y.cps.toList p.cps.toList = false
  | [], _, _, _, hy => by cases hy
  | x :: r, p, h, y, hy => by
    have h' : (!ltCps x.cps.toList p.cps.toList && risingS x r) = true := h
    rw [Bool.and_eq_true] at h'
    have h1 : ltCps x.cps.toList p.cps.toList = false := by simpa using h'.1
    rcases List.mem_cons.mp hy with rfl | hy
    · exact h1
    · have h2 := rising_all r x h'.2 y hy
      rw [ltCps_eq] at h1 h2 ⊢
      rw [decide_eq_false_iff_not] at h1 h2 ⊢
      exact fun h3 => h1 (List.lt_of_le_of_lt (List.not_lt.mp h2) h3)
theorem sorted_tail {x : Str} {r : List Str} (h : sortedS (x :: r) = true) : sortedS r = true := by
  cases r with
  | nil => rfl
  | cons y r =>
    have h' : (!ltCps y.cps.toList x.cps.toList && risingS y r) = true := h
    exact (Bool.and_eq_true_iff.mp h').2
theorem sorted_uniq : ∀ (a b : List Str), a.Nodup → b.Nodup → (∀ x, x ∈ a ↔ x ∈ b) → sortedS a = true → sortedS b = true → a = b
  | [], [], _, _, _, _, _ => rfl
  | [], y :: r, _, _, h, _, _ => by have := (h y).mpr List.mem_cons_self; cases this
  | y :: r, [], _, _, h, _, _ => by have := (h y).mp List.mem_cons_self; cases this
  | x :: r, y :: t, na, nb, h, sa, sb => by
    have hxy : x = y := by
      have h1 : x ∈ y :: t := (h x).mp List.mem_cons_self
      have h2 : y ∈ x :: r := (h y).mpr List.mem_cons_self
      rcases List.mem_cons.mp h1 with e | h1
      · exact e
      rcases List.mem_cons.mp h2 with e | h2
      · exact e.symm
      have a1 := rising_all t y sb x h1
      have a2 := rising_all r x sa y h2
      rw [ltCps_eq, decide_eq_false_iff_not] at a1 a2
      have := List.le_antisymm (List.not_lt.mp a2) (List.not_lt.mp a1)
      exact Str.ext' (Array.toList_inj.mp this)
    subst hxy
    have na' := List.nodup_cons.mp na
    have nb' := List.nodup_cons.mp nb
    rw [sorted_uniq r t na'.2 nb'.2 (fun z => ?_) (sorted_tail sa) (sorted_tail sb)]
    constructor
    · intro hz
      rcases List.mem_cons.mp ((h z).mp (List.mem_cons_of_mem _ hz)) with rfl | hz'
      · exact absurd hz na'.1
      · exact hz'
    · intro hz
      rcases List.mem_cons.mp ((h z).mpr (List.mem_cons_of_mem _ hz)) with rfl | hz'
      · exact absurd hz nb'.1
      · exact hz'
theorem sset_eq {ss zs : List Str} (h : IsSset ss zs) : sset ss = zs := by
  have hx : ∃ zs, IsSset ss zs := ⟨zs, h⟩
  unfold sset
  rw [dif_pos hx]
  have g := hx.choose_spec
  exact sorted_uniq _ _ g.1 h.1 (fun x => (g.2.1 x).trans (h.2.1 x).symm) g.2.2 h.2.2
theorem sset_same {ss tt : List Str} (h : ∀ x, x ∈ ss ↔ x ∈ tt) : sset ss = sset tt := by
  have : IsSset ss = IsSset tt := by
    funext zs
    unfold IsSset
    congr 1
    simp only [h]
  unfold sset
  rw [this]

section
variable {c : Cx} {n : Nat} {fd : FD} {σ σ' σ₁ σ₂ σ₃ : S} {X : List Addr} {A : Around} {ρ : List Pl} {s : Shared} {os os' : List AO} {L : Law} {E : Value → Shared → Prop} {v v' : AV} {h : Heap}

theorem Ev.sortedSet {e : Expr} {p1 p2 pos1 pos2 : Pos} {i : Nat} {ss : List Str} (h0 : Ev c n fd (.Name "sorted" p1) σ (.lit (.builtin "sorted")) σ) (h0' : Ev c n fd (.Name "set" p2) σ (.lit (.type "set")) σ) (h1 : Ev c n fd e σ (.ref i) σ₁) (ho : σ₁.os[i]? = some (.list (ss.map .str))) (hz : ss.length < 64)
    (he : ∀ env, starEach [e] env = [(false, eval e env)]) : Ev c n fd (.Call (.Name "sorted" p1) [.Call (.Name "set" p2) [e] [] pos2] [] pos1) σ (.ref σ₁.os.length) ⟨σ₁.vs, σ₁.os ++ [.list ((sset ss).map .str)]⟩ := fun env A ρ s rm ii => by
  rw [arm_eval_Call_Name']
  refine Run.bind (h0 env A ρ s rm ii) fun g hg tk ρ₁ q₁ p₁ => ?_
  intro dr
  obtain ⟨i₁, rfl⟩ := p₁
  refine Run.callWith (P := fun ρ' h' xs => In c fd σ₁ env ρ' h' ∧ ∃ a es ep t, xs = [.ref a] ∧ SetL c.w h' a es ep t ∧ (txts es).Nodup ∧ (∀ x, x ∈ txts es ↔ x ∈ ss) ∧ es.size ≤ ss.length) (.bi _) (fun e => by cases e) ?_ (fun _ _ _ p => p.1.rel.keep) fun xs h₁ tk₂ ρ₂ q₂ p₂ => ?_
  · refine Run.evalArgs1 ?_
    show Run c _ A ρ₁ _ (do
      let v ← (do standAt pos1; eval (.Call (.Name "set" p2) [e] [] pos2) env)
      let here ← (Pure.pure [v] : Sem (List Value))
      return here ++ (← PySem.holding here (spliced []))) _
    refine Run.bind (P := fun ρ' h' y => In c fd σ₁ env ρ' h' ∧ ∃ a es ep t, y = .ref a ∧ SetL c.w h' a es ep t ∧ (txts es).Nodup ∧ (∀ x, x ∈ txts es ↔ x ∈ ss) ∧ es.size ≤ ss.length) (Run.stand ?_) fun x hx tk₂ ρ₂ q₂ p₂ => ?_
    · rw [arm_eval_Call_Name']
      refine Run.bind (h0' env A ρ₁ _ rm i₁) fun g hg tk ρ₂ q₂ p₂ => ?_
      intro dr
      obtain ⟨i₂, rfl⟩ := p₂
      refine Run.callWith (P := fun ρ' h' xs => In c fd σ₁ env ρ' h' ∧ VRs ρ' [.ref i] xs) (.ty _) (fun e' => ?_) ((Evs.cons h1 Evs.nil he).args (.cons he) rm i₂) (fun _ _ _ p => p.1.rel.keep) fun xs h₁ tk₂ ρ₃ q₃ p₃ => ?_
      · have := starAny (pos := pos2) (env := env) (es := [e]) (fun env => by rw [he]; rfl)
        rw [this] at e'; cases e'
      · intro dr2
        obtain ⟨i₃, hxs⟩ := p₃
        obtain ⟨y, rfl, hy⟩ := VRs.d1 hxs
        obtain ⟨p, vs, hp, _, rfl, hvs, hpl⟩ := i₃.rel.list ho hy
        have hl := hvs.length
        rw [List.length_map] at hl
        refine Run.wp fun Q E hq => ?_
        refine set_strs (s := { s with heap := h₁, toks := tk₂, drawn := dr2 }) rm.handled hpl.isList (by simpa using hvs.strs) (by rw [List.size_toArray]; omega) fun h' tk es ep t S nd hm hsz k => ?_
        refine hq _ h' tk ρ₃ fun sz => ⟨Reach.keeps _ ρ₃ k sz, i₃.lift (Reach.keeps [] ρ₃ k sz) (i₃.rel.none.keeps k sz), _, es, ep, t, rfl, S, nd, hm, by rw [hl]; simpa using hsz⟩
    · intro dr2
      obtain ⟨i₂, a, es, ep, t, rfl, S⟩ := p₂
      refine Run.bind (P := fun ρ' h' l => l = [Value.ref a] ∧ ρ' = ρ₂ ∧ h' = hx) (Run.pure ⟨rfl, rfl, rfl⟩) fun l hl tk₃ ρ₃ q₃ p₃ => ?_
      intro dr3
      obtain ⟨rfl, rfl, rfl⟩ := p₃
      refine Run.bind (P := fun ρ' h' l => l = [] ∧ ρ' = ρ₃ ∧ h' = hl) (Run.holding (Run.pure ⟨rfl, rfl, rfl⟩)) fun l' hl' tk₄ ρ₄ q₄ p₄ => ?_
      intro dr4
      obtain ⟨rfl, rfl, rfl⟩ := p₄
      exact Run.pure ⟨i₂, a, es, ep, t, rfl, S⟩
  · intro dr2
    obtain ⟨i₂, a, es, ep, t, rfl, S, nd, hm, hle⟩ := p₂
    refine Run.wp fun Q E hq => ?_
    refine Mine.sortedSet (s := { s with heap := h₁, toks := tk₂, drawn := dr2 }) rm.handled S (by omega) fun out zs l h' tk dr3 hs hp hsort hl hLL k => ?_
    refine hq _ h' tk (ρ₂ ++ [⟨l, []⟩]) fun sz => ?_
    have hlt : l < h'.objs.size := hLL.lt
    have hz' : sset ss = zs := sset_eq ⟨(hp.nodup_iff).mpr nd, fun x => (hp.mem_iff).trans (hm x), hsort⟩
    rw [hz']
    have hr : Reach [] ρ₂ h₁ (ρ₂ ++ [⟨l, []⟩]) h' := Reach.new k sz hl
    exact ⟨hr.more (by simp), i₂.lift hr (i₂.rel.none.new k sz hl hlt (OR.mkList (VRs.ofStrs hs) [⟨l, []⟩] rfl hLL)), VR.newAt i₂.rel⟩
end
end Mine
end

section
open PySem PySem.W PyProof.Rows PyProof.V PySem.Spec PySem.SeqAt Builtin
set_option linter.unusedVariables false
set_option maxRecDepth 100000
namespace Mine

section
variable {c : Cx} {n : Nat} {fd : FD} {σ σ' σ₁ σ₂ σ₃ σ₄ σ₅ : S} {X : List Addr} {A : Around} {ρ : List Pl} {s : Shared} {os os' : List AO} {L : Law} {E : Value → Shared → Prop} {v v' : AV} {h : Heap}

/-! ### a comprehension with a test -/
theorem Cp.loopIf {elt t : Expr} {gens : List Comprehension} {scope : Scope} {pos : Pos} {d : Nat} {src : Src} {x : Str} {px : Pos} {iter : Expr} (N : Nat) (item u : Nat → AV) (b : Nat → Bool) (acc : List AV) (hitem : ∀ k, k < N → src.item os k = some (item k)) (hdone : src.item os N = none) (ok : src.Ok os)
    (hl : fd.scope.names.lookup x = some .local) (test : ∀ k, k < N → ∃ vs', Tst c n fd t ⟨[(x, item k)], os⟩ (b k) ⟨vs', os⟩ ∧ (b k = true → ∃ vs'', Ev c n fd elt ⟨vs', os⟩ (u k) ⟨vs'', os⟩)) (hz : acc.length + N ≤ sizeLine)
    (hg : gens[d]? = some ⟨.Name x px, iter, [t], 0⟩) (hn : gens[d + 1]? = none) (hk : fd.scope.kind = .function := by rfl) : Cp c n fd elt gens scope pos d src 0 ⟨[], os⟩ acc ⟨[], os⟩ (acc ++ ((List.range N).filter b).map u) := by
  have key : ∀ m k, k + m = N → Cp c n fd elt gens scope pos d src k ⟨[], os⟩ (acc ++ ((List.range k).filter b).map u) ⟨[], os⟩ (acc ++ ((List.range N).filter b).map u) := by
    intro m
    induction m with
    | zero => intro k hk0; obtain rfl : k = N := hk0; exact Cp.done hg hdone ok
    | succ m ih =>
      intro k hkm
      obtain ⟨vs', ht, he⟩ := test k (by omega)
      have := ih (k + 1) (by omega)
      rw [List.range_succ, List.filter_append, List.map_append, ← List.append_assoc] at this
      have hlen : (acc ++ ((List.range k).filter b).map u).length ≤ sizeLine := by
        rw [List.length_append, List.length_map]
        have := List.length_filter_le b (List.range k)
        rw [List.length_range] at this; omega
      cases hb : b k with
      | true =>
        rw [hb] at ht
        obtain ⟨vs'', he⟩ := he hb
        have e1 : [k].filter b = [k] := by simp [hb]
        rw [e1] at this
        exact Cp.stepT (hitem k (by omega)) (.loc hl) ht he (Cp.fewer (σ₁ := ⟨[], os⟩) trivial rfl this) hlen hg hn hk
      | false =>
        rw [hb] at ht
        have e1 : [k].filter b = [] := by simp [hb]
        rw [e1, List.map_nil, List.append_nil] at this
        exact Cp.stepF (hitem k (by omega)) (.loc hl) ht (Cp.fewer (σ₁ := ⟨[], os⟩) trivial rfl this) hg hn hk
  have := key N 0 (by omega)
  simpa using this
theorem Ev.mapIf (N : Nat) (item u : Nat → AV) (b : Nat → Bool) (acc : List AV) (hacc : ((List.range N).filter b).map u = acc) {elt t : Expr} {scope : Scope} {pos : Pos} {x : Str} {px : Pos} {iter : Expr} {a : AV} {src : Src} {vs : List (Str × AV)} (h1 : Ev c n fd iter σ a ⟨vs, os⟩) (hi : Itr os a src)
    (hitem : ∀ k, k < N → src.item os k = some (item k)) (hdone : src.item os N = Option.none) (ok : src.Ok os) (hl : (fd.sub scope).scope.names.lookup x = some .local)
    (test : ∀ k, k < N → ∃ vs', Tst c n (fd.sub scope) t ⟨[(x, item k)], os⟩ (b k) ⟨vs', os⟩ ∧ (b k = true → ∃ vs'', Ev c n (fd.sub scope) elt ⟨vs', os⟩ (u k) ⟨vs'', os⟩)) (hz : N ≤ sizeLine) (k : CompOk fd scope)
    (hs : ∀ env v, foldedSetIterable iter env v = Pure.pure v) (hk : (fd.sub scope).scope.kind = .function := by rfl) :
    Ev c n fd (.ListComp elt [⟨.Name x px, iter, [t], 0⟩] scope pos) σ (.ref os.length) ⟨vs, os ++ [.list acc]⟩ := by
  have := Cp.loopIf (c := c) (n := n) (fd := fd.sub scope) (elt := elt) (t := t) (gens := [⟨.Name x px, iter, [t], 0⟩]) (scope := scope) (pos := pos) (d := 0) (src := src) (x := x) (px := px) (iter := iter) N item u b [] hitem hdone ok hl test (by simpa using hz) rfl rfl hk
  rw [List.nil_append, hacc] at this
  exact Ev.comp (σ₁ := ⟨vs, os⟩) (σ₂ := ⟨[], os⟩) h1 hi this ⟨_, rfl⟩ k hs

/-- what a test made is dropped -/
theorem Tst.cut {e : Expr} {b : Bool} {js : List AO} (go : Tst c n fd e σ b ⟨σ.vs, os' ++ js⟩) (hl : os'.length = σ.os.length) (hc : ∀ o ∈ os', ∀ i ∈ o.refs, i < os'.length) : Tst c n fd e σ b ⟨σ.vs, os'⟩ := fun env A ρ s rm i Q E hq => by
  refine go env A ρ s rm i Q E fun x h' tk' ρ' q p => ?_
  intro dr
  obtain ⟨new, rfl, hf⟩ := q.grow
  have hlen : os'.length = ρ.length := hl.trans i.rel.objs.length
  exact hq x h' tk' ρ q.cut ⟨p.1.cut hlen (fun o ho k hk => hlen ▸ hc o ho k hk) i.vsLt i.cellsLt, p.2⟩

/-! ### p, q, r, s = .. -/
theorem assignOne {x : Str} {p : Pos} {a : AV} {w : Value} {ws : List Value} {ts : List (Value → Sem Unit)} {env : Env} {Q : Unit → Shared → Prop} (hs : Sto fd x a σ σ₁) (i : In c fd σ env ρ s.heap) (hw : VR ρ a w) (hk : fd.scope.kind = .function)
    (go : ∀ h' tk' ρ', Reach [env.locals] ρ s.heap ρ' h' → In c fd σ₁ env ρ' h' → ∀ {dr : Drawn}, wpAny c.M A (assignInOrder ts ws) Q E { s with heap := h', toks := tk', drawn := dr }) :
    wpAny c.M A (assignInOrder (assign (.Name x p) env :: ts) (w :: ws)) Q E s := by
  show wpAny c.M A (do PySem.holding ws (do standAt p; bindName env x w); assignInOrder ts ws) Q E s
  refine wpAny_bind (wpAny_holding (wpAny_bind (wpAny_standAt (wpAny_bindName (hs.run i hw hk _ _ fun _ h₂ tk₂ ρ₂ q₂ i₂ => ?_)))))
  exact go h₂ tk₂ ρ₂ q₂ i₂
theorem Ex.assign4 {x1 x2 x3 x4 : Str} {p1 p2 p3 p4 tp pos : Pos} {k i : Nat} {value : Expr} {a1 a2 a3 a4 : AV} (h : Ev c n fd value σ (.ref i) σ₁) (ho : σ₁.os[i]? = some (.tup [a1, a2, a3, a4])) (h1 : Sto fd x1 a1 σ₁ σ₂) (h2 : Sto fd x2 a2 σ₂ σ₃) (h3 : Sto fd x3 a3 σ₃ σ₄) (h4 : Sto fd x4 a4 σ₄ σ₅)
    (hs : ∀ env, swapsWithSole [.Tuple [.Name x1 p1, .Name x2 p2, .Name x3 p3, .Name x4 p4] k tp] value pos.line env = Pure.pure false) (hw : ∀ env, swappedStores [.Tuple [.Name x1 p1, .Name x2 p2, .Name x3 p3, .Name x4 p4] k tp] value env = Pure.pure none) (hk : fd.scope.kind = .function := by rfl) :
    Ex c n fd (.Assign [.Tuple [.Name x1 p1, .Name x2 p2, .Name x3 p3, .Name x4 p4] k tp] value pos) σ .next σ₅ := fun env A ρ s rm ii => Run.wp fun Q E hq => by
  refine Assign_Tuple ?_ (hs env) (hw env)
  refine wpAny_size (h env A ρ s rm ii _ _ fun v h₁ tk₁ ρ₁ q₁ p₁ => fun sz => ?_)
  obtain ⟨p, vs, hp, _, rfl, hvs, hpl⟩ := p₁.1.rel.tup ho p₁.2
  obtain ⟨w1, w2, w3, w4, rfl, g1, g2, g3, g4⟩ := VRs.d4 hvs
  rw [arm_assign_Tuple]
  refine wpAny_bind (wpAny_standAt ?_)
  show wpAny c.M A (PySem.holding [Value.ref p.a] (unpackItems (.ref p.a) 4 none) >>= fun items => assignInOrder [PySem.assign (Expr.Name x1 p1) env, PySem.assign (Expr.Name x2 p2) env, PySem.assign (Expr.Name x3 p3) env, PySem.assign (Expr.Name x4 p4) env] items) _ _ _
  refine wpAny_bind (wpAny_holding (wpAny_size (unpackItems_tuple (items := [w1, w2, w3, w4].toArray) rm.handled hpl.isTup fun h₂ hx => fun sz₂ => ?_)))
  have hk₂ : Keeps h₁ h₂ := fun b o e => hx b o (Nat.ne_of_lt (Heap.lt_size e)) e
  dsimp only at sz₂
  have hr := Reach.keeps [env.locals] ρ₁ hk₂ sz₂
  have i₂ : In c fd σ₁ env ρ₁ h₂ := p₁.1.lift (Reach.keeps [] ρ₁ hk₂ sz₂) (p₁.1.rel.none.keeps hk₂ sz₂)
  show wpAny c.M A (assignInOrder [PySem.assign (Expr.Name x1 p1) env, PySem.assign (Expr.Name x2 p2) env, PySem.assign (Expr.Name x3 p3) env, PySem.assign (Expr.Name x4 p4) env] [w1, w2, w3, w4]) _ _ _
  refine assignOne h1 i₂ g1 hk fun h₃ tk₃ ρ₃ q₃ i₃ => ?_
  intro dr3
  refine assignOne h2 i₃ (g2.reach q₃) hk fun h₄ tk₄ ρ₄ q₄ i₄ => ?_
  intro dr4
  refine assignOne h3 i₄ ((g3.reach q₃).reach q₄) hk fun h₅ tk₅ ρ₅ q₅ i₅ => ?_
  intro dr5
  refine assignOne h4 i₅ (((g4.reach q₃).reach q₄).reach q₅) hk fun h₆ tk₆ ρ₆ q₆ i₆ => ?_
  intro dr6
  show wpAny c.M A (pure ()) _ _ _
  refine wpAny_pure ?_
  exact hq _ h₆ tk₆ ρ₆ fun _ => ⟨((((q₁.trans hr).trans q₃).trans q₄).trans q₅).trans q₆, i₆, rfl⟩
end
end Mine
end

section
open PySem PySem.W PyProof.Rows PyProof.V PySem.Spec PySem.SeqAt
set_option linter.unusedVariables false
set_option maxRecDepth 100000
namespace Mine
local macro_rules | `(tactic| walk_at "obl") => `(tactic| (first | exact trivial | ((try dsimp only [also]); all_goals (repeat' (refine' And.intro ?_ ?_)) <;> (first | exact trivial | rfl | exact (fun _ => rfl) | exact (fun _ _ => rfl) | exact Callee.bi _ | exact Callee.ty _ | assumption | exact Nat.le_of_ble_eq_true rfl | exact ⟨_, _, rfl, rfl, rfl⟩ | exact ⟨_, _, _, _, _, rfl, rfl, rfl⟩ | exact ⟨_, _, _, _, rfl, rfl⟩ | decide | exact Nat.le_trans (by decide) sz1000 | (have := sz1000; simp only [Str.length_append, List.length_cons, List.length_nil, List.length_append, List.length_map]; omega) | (have := sz1000; omega)))))
local macro_rules | `(tactic| walk_at "sub") => `(tactic| (repeat' (first | exact trivial | (refine' And.intro rfl ?_))))
local macro_rules | `(tactic| walk_at "clo") => `(tactic| (refine' CloP.all ?_; (repeat' (first | exact trivial | refine' And.intro ?_ ?_)) <;> (first | exact refsLt_of rfl | exact refsLt_strs | exact refsLt_ints | assumption)))
local macro_rules | `(tactic| walk_at "ob2") => `(tactic| ((try dsimp only [also]); (repeat' (refine' And.intro ?_ ?_)) <;> (try (first | exact trivial | rfl | exact (fun _ => rfl) | exact (fun _ _ => rfl) | exact Callee.bi _ | exact Callee.ty _ | assumption | exact Nat.le_of_ble_eq_true rfl | exact ⟨_, _, rfl, rfl, rfl⟩ | exact ⟨_, _, _, _, _, rfl, rfl, rfl⟩ | exact ⟨_, _, _, _, rfl, rfl⟩ | exact Nat.le_trans (by decide) sz1000 | (have := sz1000; omega)))))

noncomputable section
abbrev KK := hd.heap_39

noncomputable def fnOf (x : Str) : List Stmt := match PySem.Challenge.pw_pe0095_02.main.body.find? (fun s => match s with | .FunctionDef name _ _ _ _ _ _ _ _ _ => name == x | _ => false) with
  | some (.FunctionDef _ _ body _ _ _ _ _ _ _) => body
  | _ => []
noncomputable def bodyK (P : Params) (a : Addr) : List Stmt := match (KK P).lookup a with
  | some ⟨_, _, .func d, _⟩ => (match d.body with | .stmts b => b | _ => [])
  | _ => []
noncomputable def scopeK (P : Params) (a : Addr) : Scope := match (KK P).lookup a with
  | some ⟨_, _, .func d, _⟩ => d.scope
  | _ => { kind := .function, names := [], isGenerator := false, isCoroutine := false }
/-- the frame of a def without cells -/
noncomputable def fdK (P : Params) (a : Addr) : FD := ⟨scopeK P a, [], none⟩
noncomputable def nstOf (q : Str) : Stmt → Nst
  | .FunctionDef name params body _ _ _ scope _ _ pos => ⟨name, q ++ name, params, .stmts body, scope, pos⟩
  | .Assign _ (.Lambda params body scope pos) _ => ⟨"<lambda>", q ++ "<lambda>", params, .expr body, scope, pos⟩
  | _ => ⟨"", "", { posonlyargs := [], args := [], vararg := none, kwonlyargs := [], kw_defaults := [], kwarg := none, defaults := [] }, .stmts [], { kind := .function, names := [], isGenerator := false, isCoroutine := false }, ⟨0, 0, 0, 0⟩⟩
noncomputable def LL1 : Law := { N := fun j => nstOf "_law_lexer.<locals>." ((fnOf "_law_lexer").getD (j + 1) (.Pass ⟨0, 0, 0, 0⟩)), tb := 72, C := 59, fR := 42 }

section
variable {c : Cx} {n : Nat} {P : Params}
theorem Lc1 (hK : c.K = KK P) (hx : c.XR = XRof LL1) : Lc c LL1 where
  xr := hx
  cls := by rw [hK]; exact ⟨_, rfl, rfl⟩
  ga := by rw [hK]; rfl
  gt := by rw [hK]; rfl
  sa := by rw [hK]; rfl
  po := by rw [hK]; rfl
  mks := by rw [hK]; rfl

noncomputable def GG : List (Str × AV) := [("ELLIPSIS_MARKER", .str "..."), ("_ellipsis_match", .lit (.ref 21)), ("_netrclex", .lit (.ref 59)), ("replace", .lit (.ref 70)), ("_law_lexer", .lit (.ref 77)), ("_law_written", .lit (.ref 84)), ("_law_turns", .lit (.ref 89)), ("_law_undoing", .lit (.ref 94)), ("_law_cancelled", .lit (.ref 101)), ("_law_pile", .lit (.ref 108)), ("_law_move", .lit (.ref 115)), ("_law_shortest", .lit (.ref 120)), ("_law_is_core", .lit (.ref 125)),
  ("len", .lit (.builtin "len")), ("range", .lit (.type "range")), ("iter", .lit (.builtin "iter")), ("list", .lit (.type "list")), ("sum", .lit (.builtin "sum")), ("sorted", .lit (.builtin "sorted")), ("set", .lit (.type "set")), ("min", .lit (.builtin "min"))]
theorem GG_ok (hK : c.K = KK P) : GOK c GG := by
  unfold GG
  refine .glob (v := .str "..." 189) (by rw [hK]; rfl) (fun _ => ⟨_, rfl⟩) ?_
  iterate 12 refine .glob (by rw [hK]; rfl) (fun _ => rfl) ?_
  iterate 8 refine .blt (by rw [hK]; rfl) rfl (by decide) ?_
  exact .nil
noncomputable def B1 (hK : c.K = KK P) (hx : c.XR = XRof LL1) : Bk c LL1 := ⟨Lc1 hK hx, KK P, hK, GG, GG_ok hK, [("_read_char", 42), ("get_token", 49), ("push_token", 56)]⟩
end
end

section
variable {c : Cx} {n : Nat}

noncomputable def ellOs (p got : Str) : List AO := [.list [.str "", .str p, .str ""], .tup [.int 0, .int got.length]]
noncomputable def ellSt (p got : Str) (sp : Nat) : S := ⟨[("got", .str got), ("ws", .ref 0), ("startpos", .int sp), ("endpos", .int got.length)], ellOs p got⟩
noncomputable def ellSw (p got w : Str) (sp : Nat) : S := ⟨[("w", .str w), ("got", .str got), ("ws", .ref 0), ("startpos", .int sp), ("endpos", .int got.length)], ellOs p got⟩

theorem ell_loop {fd : FD} {body : List Stmt} {p got : Str} (hl : fd.scope.names.lookup ("w" : Str) = some .local) (hk : fd.scope.kind = .function)
    (turn : ∀ (w : Str) (sp j : Nat), w.length ≤ 1000 → find4 got w sp got.length = j → Exs c n fd body (ellSw p got w sp) .next (ellSt p got (j + w.length)))
    (stop : ∀ (w : Str) (sp : Nat), w.length ≤ 1000 → find4 got w sp got.length = -1 → Exs c n fd body (ellSw p got w sp) (.ret (.bool false)) ⟨[], ellOs p got⟩) (hp : p.length ≤ 1000)
    (h0 : find4 got "" 0 got.length = (0 : Nat)) (h2 : ∀ k : Nat, find4 got p 0 got.length = k → find4 got "" (k + p.length) got.length = (k + p.length : Nat)) :
    (∀ k : Nat, find4 got p 0 got.length = k → Lp c n fd "w" body (.list 0) 0 (ellSt p got 0) .next (ellSt p got (k + p.length))) ∧
    (find4 got p 0 got.length = -1 → ∃ σ' : S, σ'.os = ellOs p got ∧ Lp c n fd "w" body (.list 0) 0 (ellSt p got 0) (.ret (.bool false)) σ') := by
  have sw : ∀ (w : Str) (sp : Nat) {f : AF} {σ' : S}, Exs c n fd body (ellSw p got w sp) f σ' → Exs c n fd body ⟨put "w" (.str w) (ellSt p got sp).vs, ellOs p got⟩ f σ' := fun w sp f σ' h =>
    Exs.fewer (σ₁ := ellSw p got w sp) (And.intro rfl (And.intro rfl (And.intro rfl (And.intro rfl (And.intro rfl trivial))))) rfl h
  constructor
  · intro k hk1
    refine Lp.step (v := .str "") rfl (.loc hl) (sw "" 0 (turn "" 0 0 (by decide) h0)) ?_ hk
    refine Lp.step (v := .str p) rfl (.loc hl) (sw p 0 (turn p 0 k hp hk1)) ?_ hk
    refine Lp.step (v := .str "") rfl (.loc hl) (sw "" _ (turn "" _ (k + p.length) (by decide) (h2 k hk1))) ?_ hk
    exact Lp.done rfl ⟨_, rfl⟩
  · intro hk1
    refine ⟨_, ?_, Lp.step (v := .str "") rfl (.loc hl) (sw "" 0 (turn "" 0 0 (by decide) h0)) (Lp.ret (v := .str p) rfl (.loc hl) (sw p 0 (stop p 0 hp hk1)) hk) hk⟩
    rfl

theorem ell_for {fd : FD} {body rest : List Stmt} {iter : Expr} {px pos : Pos} {p got : Str} (hl : fd.scope.names.lookup ("w" : Str) = some .local) (hk : fd.scope.kind = .function)
    (turn : ∀ (w : Str) (sp j : Nat), w.length ≤ 1000 → find4 got w sp got.length = j → Exs c n fd body (ellSw p got w sp) .next (ellSt p got (j + w.length)))
    (stop : ∀ (w : Str) (sp : Nat), w.length ≤ 1000 → find4 got w sp got.length = -1 → Exs c n fd body (ellSw p got w sp) (.ret (.bool false)) ⟨[], ellOs p got⟩) (hp : p.length ≤ 1000)
    (h0 : find4 got "" 0 got.length = (0 : Nat)) (h2 : ∀ k : Nat, find4 got p 0 got.length = k → find4 got "" (k + p.length) got.length = (k + p.length : Nat))
    (h3 : find4 got p 0 got.length = -1 ∨ ∃ k : Nat, find4 got p 0 got.length = k)
    (hev : Ev c n fd iter (ellSt p got 0) (.ref 0) (ellSt p got 0)) (hf : ∀ env v, foldedSetIterable iter env v = Pure.pure v) (hr : ∀ sp, Exs c n fd rest (ellSt p got sp) (.ret (.bool true)) ⟨[], ellOs p got⟩) :
    Exs c n fd (.For (.Name "w" px) iter body [] pos :: rest) (ellSt p got 0) (.ret (.bool (decide (find4 got p 0 got.length ≠ -1)))) ⟨[], ellOs p got⟩ := by
  have L := ell_loop hl hk turn stop hp h0 h2
  rcases h3 with h3 | ⟨k, h3⟩
  · rw [show decide (find4 got p 0 got.length ≠ -1) = false from decide_eq_false (by rw [h3]; decide)]
    obtain ⟨σ', ho, hl⟩ := L.2 h3
    exact Exs.less (Exs.out (Ex.for hev (.list rfl) hl hf) (by intro e; cases e)) trivial ho
  · rw [show decide (find4 got p 0 got.length ≠ -1) = true from decide_eq_true (by rw [h3]; omega)]
    exact Exs.less (Exs.cons (Ex.for hev (.list rfl) (L.1 k h3) hf) (hr _)) trivial rfl

set_option maxHeartbeats 1000000 in
theorem ell_call {P : Params} (hK : c.K = KK P) (hx : c.XR = XRof LL1) {want got p : Str} (hin : inS want "..." = true) (hsp : Txt.split want "..." = [Str.ofString "", p, Str.ofString ""]) (hw : want.length ≤ 1000) (hg : got.length ≤ 1000) (hp : p.length ≤ 1000)
    (hz : (Builtin.Str.partsBetween want (Builtin.Str.occurrences want "..." 0 want.length (want.length + 1)) 3).length ≤ sizeLine)
    (h0 : find4 got "" 0 got.length = (0 : Nat)) (h2 : ∀ k : Nat, find4 got p 0 got.length = k → find4 got "" (k + p.length) got.length = (k + p.length : Nat))
    (h3 : find4 got p 0 got.length = -1 ∨ ∃ k : Nat, find4 got p 0 got.length = k) : CallR c (n + 1) (.ref 21) [.str want, .str got] [] (.bool (decide (find4 got p 0 got.length ≠ -1))) [] := by
  have sl : 1000 ≤ sizeLine := by rw [sizeLine_eq]; decide
  have hgz : got.length ≤ sizeLine := by omega
  have hpz : p.length ≤ sizeLine := by omega
  have hsl : CallR c n (.builtin "str.split") [.str want, .str "..."] [] (.ref 0) [.list [.str "", .str p, .str ""]] := by
    have := split_s (c := c) (n := n) (os := []) (x := want) (y := "...") (by decide) (by omega) hz
    rw [hsp] at this
    exact this
  refine' CallR.of_def (ps := [Str.ofString "want", Str.ofString "got"]) (σ' := ⟨[], ellOs p got⟩) (DefAt.of hK rfl rfl rfl rfl rfl rfl rfl rfl) (by decide) ?bind (by decide) ?r (Back.val (os' := []) (os₁ := ellOs p got) rfl (fun _ h => nomatch h) rfl)
  case bind =>
    intro xs h
    obtain ⟨a, b, rfl⟩ := len2 h
    rfl
  case' r => refine' (B1 hK hx).test 5 [] false rfl ?f1 ?f2 ?r1
  case f1 => walk_at "obl"
  case f2 => exact (by rw [hin]; rfl)
  case' r1 => refine' (B1 hK hx).run 5 2 [(.ref 0, [.list [.str "", .str p, .str ""]])] ⟨[("want", .str want), ("got", .str got), ("ws", .ref 0)], [.list [.str "", .str p, .str ""]]⟩ rfl ?f3 ?s3 ?o3 ?r2
  case f3 => walk_at "obl"
  case s3 => walk_at "sub"
  case o3 => rfl
  case' r2 => refine' Exs.cons (Ex.assign2 ((B1 hK hx).ev 5 [] rfl ?f4 rfl rfl) rfl (sto_ok rfl) (sto_ok rfl) ?w1 ?w2) ?r3
  case f4 => walk_at "obl"
  case w1 => exact fun _ => rfl
  case w2 => exact fun env e => by cases env; dsimp only at e; subst e; rfl
  case' r3 => refine' (B1 hK hx).run 5 1 [] (ellSw p got "" 0) rfl ?f5 ?s5 ?o5 ?r4
  case f5 => walk_at "obl"
  case s5 => walk_at "sub"
  case o5 => rfl
  case' r4 => refine' (B1 hK hx).test 5 [] false rfl ?f6 rfl ?r5
  case f6 => walk_at "obl"
  case' r5 => refine' (B1 hK hx).run 5 1 [] (ellSw p got "" 0) rfl ?f7 ?s7 ?o7 ?r6
  case f7 => walk_at "obl"
  case s7 => walk_at "sub"
  case o7 => rfl
  case' r6 => refine' (B1 hK hx).test 5 [] false rfl ?f8 rfl ?r7
  case f8 => walk_at "obl"
  case' r7 => refine' (B1 hK hx).test 5 [] false rfl ?f9 ?z9 ?r8
  case f9 => walk_at "obl"
  case z9 => exact decide_eq_false (by omega)
  case' r8 => refine' Exs.fewer (σ₁ := ellSt p got 0) ?s10 rfl ?r9
  case s10 => walk_at "sub"
  case' r9 => refine' ell_for rfl rfl ?turn ?stop hp h0 h2 h3 ?ev ?fold ?ret
  case ev => refine' (B1 hK hx).ev 5 [] rfl ?_ rfl rfl; walk_at "obl"
  case fold => exact fun _ _ => rfl
  case ret => intro sp; refine' (B1 hK hx).ret 5 [] rfl ?_ rfl rfl; walk_at "obl"
  case turn =>
    intro w sp j hw1 hj
    have hwz : w.length ≤ sizeLine := by omega
    have hfi : CallR c n (.builtin "str.find") [.str got, .str w, .int (sp : Int), .int (got.length : Int)] (ellOs p got) (.int (j : Int)) (ellOs p got) := hj ▸ find_s
    refine' (B1 hK hx).run 5 1 [(.int j, ellOs p got)] (ellSw p got w j) rfl ?tf ?ts rfl ?tr
    case tf => walk_at "obl"
    case ts => walk_at "sub"
    refine' (B1 hK hx).test 5 [] false rfl ?tf2 ?tz ?tr2
    case tf2 => walk_at "obl"
    case tz => exact decide_eq_false (by omega)
    refine' (B1 hK hx).run 5 1 [] (ellSt p got (j + w.length)) rfl ?tf3 ?ts3 rfl Exs.nil
    case tf3 => walk_at "obl"
    case ts3 => walk_at "sub"
  case stop =>
    intro w sp hw1 hj
    have hfi : CallR c n (.builtin "str.find") [.str got, .str w, .int (sp : Int), .int (got.length : Int)] (ellOs p got) (.int (-1)) (ellOs p got) := hj ▸ find_s
    refine' (B1 hK hx).run 5 1 [(.int (-1), ellOs p got)] ⟨[("startpos", .int (-1))], ellOs p got⟩ rfl ?pf ?ps rfl ?pr
    case pf => walk_at "obl"
    case ps => walk_at "sub"
    refine' (B1 hK hx).test 5 [] true rfl ?pf2 rfl ?pr2
    case pf2 => walk_at "obl"
    refine' (B1 hK hx).ret 5 [] rfl ?g3 rfl rfl
    case g3 => walk_at "obl"
end

section
variable {c : Cx} {n : Nat} {P : Params}

noncomputable def wsS : Str := "\n\t\r "
/-- a lexer with what hangs on it -/
noncomputable def lexA (w : Str) (pos : Nat) (ln : Int) (pb : List AV) (js : List AO) : List AO := [
  .x (.inst [("lineno", .int ln), ("instream", .ref 2), ("whitespace", .str wsS), ("pushback", .ref 1)]),
  .list pb,
  .x (.fn 1 [] 9 (some 3)),
  .x (.rdict 4),
  .x (.fn 0 [("written", 6), ("at", 5)] 8 none),
  .cell (some (.ref 7)),
  .cell (some (.str w)),
  .list [.int pos],
  .x (.code 0),
  .x (.code 1)] ++ js

/-- the sign that is read -/
noncomputable def chAt (w : Str) (pos : Nat) : Str := cutS w (some (pos : Int)) (some ((pos : Int) + 1))

theorem readOn (hK : c.K = KK P) (hx : c.XR = XRof LL1) {w : Str} {pos : Nat} {ln : Int} {pb : List AV} {js : List AO} (hw : w.length ≤ 1000) (hc : (chAt w pos).length ≤ 1) :
    CallV c (n + 1) (.ref 4) [.int 1] (lexA w pos ln pb js) (.str (chAt w pos)) (lexA w (pos + (chAt w pos).length) ln pb js) := by
  have B := B1 hK hx
  refine' CallV.of_fn (ps := [Str.ofString "size"]) (σ' := ⟨[], lexA w (pos + (chAt w pos).length) ln pb js⟩) (Lc1 hK hx) rfl rfl rfl (by decide) ?bind (by decide) rfl rfl rfl ?r (Back.all)
  case bind =>
    intro xs clos doc pm cv ctv h
    obtain ⟨a, rfl⟩ := len1 h
    rfl
  case' r => refine' (B1 hK hx).run 5 1 [] ⟨[("sign", .str (chAt w pos))], lexA w pos ln pb js⟩ rfl ?f1 ?s1 rfl ?r1
  case f1 => walk_at "obl"
  case s1 => walk_at "sub"
  case' r1 => refine' Exs.cons (Ex.setSub (j := 0) (k := 7) ((B1 hK hx).ev 5 [] rfl ?f2 rfl rfl) ((B1 hK hx).ev 5 [] rfl ?f3 rfl rfl) ((B1 hK hx).ev 5 [] rfl ?f4 rfl rfl) rfl ?h1 ?h2 ?h3 ?h4) ?r2
  case f2 => walk_at "obl"
  case f3 => walk_at "obl"
  case f4 => walk_at "obl"
  case h1 => exact Nat.one_pos
  case h2 => decide
  case h3 => exact fun _ => rfl
  case h4 => exact fun _ _ _ => rfl
  case r2 => exact (B1 hK hx).ret 5 [] rfl trivial rfl rfl
end
section
variable {c : Cx} {n : Nat} {P : Params}

noncomputable def lnAt (w : Str) (pos : Nat) (ln : Int) : Int := if chAt w pos = "\n" then ln + 1 else ln
theorem dReadChar (hK : c.K = KK P) : ∃ d body, DefAt c 42 d body := ⟨_, _, DefAt.of hK rfl rfl rfl rfl rfl rfl rfl rfl⟩

set_option maxHeartbeats 400000 in
theorem readChar (hK : c.K = KK P) (hx : c.XR = XRof LL1) {w : Str} {pos : Nat} {ln : Int} {pb : List AV} {js : List AO} (hw : w.length ≤ 1000) (hc : (chAt w pos).length ≤ 1) :
    CodeR c (n + 2) (.ref 42) [.ref 0] (lexA w pos ln pb js) (.str (chAt w pos)) (lexA w (pos + (chAt w pos).length) (lnAt w pos ln) pb js) := by
  have hr := readOn (n := n) hK hx (ln := ln) (pb := pb) (js := js) hw hc
  refine' CodeR.of_def (ps := [Str.ofString "self"]) (σ' := ⟨[], lexA w (pos + (chAt w pos).length) (lnAt w pos ln) pb js⟩) (DefAt.of hK rfl rfl rfl rfl rfl rfl rfl rfl) (by decide) ?bind (by decide) ?r (Back.all)
  case bind =>
    intro xs h
    obtain ⟨a, rfl⟩ := len1 h
    rfl
  case' r => refine' (B1 hK hx).run 5 1 [(.str (chAt w pos), lexA w (pos + (chAt w pos).length) ln pb js)] ⟨[("self", .ref 0), ("ch", .str (chAt w pos))], lexA w (pos + (chAt w pos).length) ln pb js⟩ rfl ?f1 ?s1 rfl ?r1
  case f1 => walk_at "obl"
  case s1 => walk_at "sub"
  case r1 =>
    unfold lnAt
    by_cases hz : chAt w pos = "\n"
    · rw [if_pos hz]
      refine' (B1 hK hx).test 5 [] true rfl ?f2 ?z2 ?r2
      case f2 => walk_at "obl"
      case z2 => exact beq_iff_eq.mpr hz
      refine' Exs.cons (Ex.augAttr (m := [("lineno", .int ln), ("instream", .ref 2), ("whitespace", .str wsS), ("pushback", .ref 1)]) (v := .int (ln + 1)) (Lc1 hK hx) ((B1 hK hx).ev 5 [] rfl trivial rfl rfl) rfl rfl rfl (by rw [hK]; rfl) ((B1 hK hx).ev 5 [] rfl trivial rfl rfl) iadd_i (by rw [hK]; rfl) (Nat.le_of_ble_eq_true rfl)) ?r3
      exact (B1 hK hx).ret 5 [] rfl trivial rfl rfl
    · rw [if_neg hz]
      refine' (B1 hK hx).test 5 [] false rfl ?f4 ?z3 ?r4
      case f4 => walk_at "obl"
      case z3 => exact beq_eq_false_iff_ne.mpr hz
      exact (B1 hK hx).ret 5 [] rfl trivial rfl rfl
end

section
variable {c : Cx} {n : Nat} {P : Params}

noncomputable def lnx (x : Str) (ln : Int) : Int := if x = "\n" then ln + 1 else ln
theorem rcAt (hK : c.K = KK P) (hx : c.XR = XRof LL1) {w x : Str} {pos : Nat} {ln : Int} {pb : List AV} {js : List AO} (hw : w.length ≤ 1000) (h : chAt w pos = x) (hl : x.length = 1) :
    CodeR c (n + 2) (.ref 42) [.ref 0] (lexA w pos ln pb js) (.str x) (lexA w (pos + 1) (lnx x ln) pb js) := by
  have := readChar (n := n) hK hx (ln := ln) (pb := pb) (js := js) hw (by rw [h, hl]; exact Nat.le_refl _)
  unfold lnAt at this
  rw [h, hl] at this
  exact this
theorem rcEnd (hK : c.K = KK P) (hx : c.XR = XRof LL1) {w : Str} {pos : Nat} {ln : Int} {pb : List AV} {js : List AO} (hw : w.length ≤ 1000) (h : chAt w pos = "") :
    CodeR c (n + 2) (.ref 42) [.ref 0] (lexA w pos ln pb js) (.str "") (lexA w pos ln pb js) := by
  have := readChar (n := n) hK hx (ln := ln) (pb := pb) (js := js) hw (by rw [h]; decide)
  unfold lnAt at this
  rw [h] at this
  exact this

/-- what was pushed comes first -/
theorem gtPush (hK : c.K = KK P) (hx : c.XR = XRof LL1) {w t : Str} {pos : Nat} {ln : Int} {pb : List AV} {js : List AO} (hp : pb.length + 1 ≤ 1000) :
    CallR c (n + 1) (.ref 49) [.ref 0] (lexA w pos ln (.str t :: pb) js) (.str t) (lexA w pos ln pb js) := by
  have hpop : CallR c n (.builtin "list.pop") [.ref 1, .int 0] (lexA w pos ln (.str t :: pb) js) (.str t) (lexA w pos ln pb js) := pop0_l (xs := pb) rfl (by have := sz1000; omega)
  refine' CallR.of_def (ps := [Str.ofString "self"]) (σ' := ⟨[], lexA w pos ln pb js⟩) (DefAt.of hK rfl rfl rfl rfl rfl rfl rfl rfl) (by decide) ?bind (by decide) ?r (Back.all)
  case bind =>
    intro xs h
    obtain ⟨a, rfl⟩ := len1 h
    rfl
  case' r => refine' (B1 hK hx).test 5 [] true rfl ?f1 rfl ?r1
  case f1 => walk_at "obl"
  case r1 =>
    refine' (B1 hK hx).ret 5 [(.str t, lexA w pos ln pb js)] rfl ?f2 rfl rfl
    walk_at "obl"

noncomputable def lexB (w : Str) (pos : Nat) (ln : Int) : List AO := lexA w pos ln [] [.x (.meth 0), .x (.citer 10)]
noncomputable def gtS (w : Str) (pos : Nat) (ln : Int) (tok : Str) : S := ⟨[("token", .str tok), ("self", .ref 0), ("fiter", .ref 11)], lexB w pos ln⟩
noncomputable def gtC (w : Str) (pos : Nat) (ln : Int) (tok ch : Str) : S := ⟨[("ch", .str ch), ("token", .str tok), ("self", .ref 0), ("fiter", .ref 11)], lexB w pos ln⟩

/-- the two first steps of a token that is read -/
theorem gtHead (hK : c.K = KK P) (hx : c.XR = XRof LL1) {w tok : Str} {pos pos' : Nat} {ln ln' : Int} {js : List AO}
    (main : Exs c (n + 3) (fdK P 49) ((bodyK P 49).drop 3) (gtS w pos ln "") (.ret (.str tok)) ⟨[], lexA w pos' ln' [] js⟩) : CallR c (n + 4) (.ref 49) [.ref 0] (lexA w pos ln [] []) (.str tok) (lexA w pos' ln' [] []) := by
  refine' CallR.of_def (ps := [Str.ofString "self"]) (σ' := ⟨[], lexA w pos' ln' [] js⟩) (DefAt.of hK rfl rfl rfl rfl rfl rfl rfl rfl) (by decide) ?bind (by decide) ?r (Back.val (os' := lexA w pos' ln' [] []) (os₁ := js) rfl ?cl rfl)
  case cl => walk_at "clo"
  case bind =>
    intro xs h
    obtain ⟨a, rfl⟩ := len1 h
    rfl
  case' r => refine' (B1 hK hx).test 5 [] false rfl ?f1 rfl ?r1
  case f1 => walk_at "obl"
  case r1 =>
    refine' (B1 hK hx).run 5 2 [(.ref 10, lexA w pos ln [] [.x (.meth 0)]), (.ref 11, lexB w pos ln)] (gtS w pos ln "") rfl ?f2 ?s2 rfl main
    case s2 => walk_at "sub"
    case f2 =>
      walk_at "ob2"
      · refine' Ev.attrM (σ := ⟨[("token", .str ""), ("self", .ref 0)], lexA w pos ln [] []⟩) (σ₁ := ⟨[("token", .str ""), ("self", .ref 0)], lexA w pos ln [] []⟩) (i := 0) (m := [("lineno", .int ln), ("instream", .ref 2), ("whitespace", .str wsS), ("pushback", .ref 1)]) (Lc1 hK hx) ?a1 ?a2 ?a3 ?a4 ?a5 ?a6 ?a7 ?a8 ?a9 ?a10
        case a1 => exact (B1 hK hx).ev 5 [] rfl trivial rfl rfl
        case a2 => rfl
        case a3 => rfl
        case a4 => rw [hK]; rfl
        case a5 => rw [hK]; rfl
        case a6 => rw [hK]; rfl
        case a7 => rw [hK]; rfl
        case a8 => decide
        case a9 => rw [hK]; rfl
        case a10 => exact fun _ => rfl
      · exact iter_m (Lc1 hK hx) rfl

theorem gtEnd (hK : c.K = KK P) (hx : c.XR = XRof LL1) {w : Str} {pos : Nat} {ln : Int} (hw : w.length ≤ 1000) (h0 : chAt w pos = "") : CallR c (n + 4) (.ref 49) [.ref 0] (lexA w pos ln [] []) (.str "") (lexA w pos ln [] []) := by
  obtain ⟨d, bR, D⟩ := dReadChar (P := P) hK
  refine gtHead (js := [.x (.meth 0), .x .junk]) hK hx ?_
  refine' Exs.cons (Ex.forC (Lc1 hK hx) (σ₁ := gtS w pos ln "") (k := 11) (b := 10) ?a1 rfl (Lt.done (Lc1 hK hx) D rfl rfl (rcEnd hK hx hw h0) rfl rfl) ?a2) ?a3
  case a1 => exact (B1 hK hx).ev 5 [] rfl trivial rfl rfl
  case a2 => exact fun _ _ => rfl
  case a3 => exact (B1 hK hx).ret 5 [] rfl trivial rfl rfl

theorem ws_q : inS wsS "\"" = false := by decide +kernel
theorem ws_b : inS wsS "\\" = false := by decide +kernel
theorem ws_t : inS wsS "\t" = true := by decide +kernel
theorem empty_app (x : Str) : Str.ofString "" ++ x = x := by
  cases x with
  | mk a => show Str.mk (#[] ++ a) = _; rw [Array.empty_append]

/-- a sign in quotation marks -/
theorem gtQuote (hK : c.K = KK P) (hx : c.XR = XRof LL1) {w x : Str} {pos : Nat} {ln : Int} (hw : w.length ≤ 1000) (hl : x.length = 1) (h1 : x ≠ "\"") (h2 : x ≠ "\\") (c0 : chAt w pos = "\"") (c1 : chAt w (pos + 1) = x) (c2 : chAt w (pos + 2) = "\"") :
    CallR c (n + 4) (.ref 49) [.ref 0] (lexA w pos ln [] []) (.str x) (lexA w (pos + 3) (lnx x ln) [] []) := by
  obtain ⟨d, bR, D⟩ := dReadChar (P := P) hK
  have hne : x ≠ "" := fun e => by rw [e] at hl; cases hl
  have hz0 : (Str.ofString "").length + x.length ≤ sizeLine := by rw [hl]; exact Nat.le_trans (by decide) sz1000
  have hb1 : (x == Str.ofString "\"") = false := beq_eq_false_iff_ne.mpr h1
  have hb2 : (x == Str.ofString "\\") = false := beq_eq_false_iff_ne.mpr h2
  refine gtHead (js := [.x (.meth 0), .x (.citer 10)]) hK hx ?_
  refine' Exs.out (Ex.forC (Lc1 hK hx) (σ₁ := gtS w pos ln "") (k := 11) (b := 10) ?a1 rfl (Lt.ret (Lc1 hK hx) D rfl rfl (rcAt hK hx hw c0 rfl) rfl rfl (by decide) (sto_ok rfl) ?o rfl) ?a2) ?a3
  case a1 => exact (B1 hK hx).ev 5 [] rfl trivial rfl rfl
  case a2 => exact fun _ _ => rfl
  case a3 => exact fun e => by cases e
  case o =>
    refine' (B1 hK hx).test 5 [] false rfl ?f1 ws_q ?r1
    case f1 => walk_at "obl"
    refine' (B1 hK hx).test 5 [] true rfl ?f2 rfl ?r2
    case f2 => walk_at "obl"
    refine' Exs.out (Ex.forC (Lc1 hK hx) (σ₁ := gtC w (pos + 1) ln "" "\"") (k := 11) (b := 10) ?b1 rfl (Lt.next (σ₂ := gtC w (pos + 2) (lnx x ln) ("" ++ x) x) (Lc1 hK hx) D rfl rfl (rcAt hK hx hw c1 hl) rfl rfl hne (sto_ok rfl) ?o1 rfl ?o2) ?b2) ?b3
    case b1 => exact (B1 hK hx).ev 5 [] rfl trivial rfl rfl
    case b2 => exact fun _ _ => rfl
    case b3 => exact fun e => by cases e
    case o1 =>
      refine' (B1 hK hx).test 5 [] false rfl ?g1 hb1 ?t1
      case g1 => walk_at "obl"
      refine' (B1 hK hx).test 5 [] false rfl ?g2 hb2 ?t2
      case g2 => walk_at "obl"
      refine' (B1 hK hx).run 5 1 [] (gtC w (pos + 2) (lnx x ln) ("" ++ x) x) rfl ?g3 ?s3 rfl Exs.nil
      case g3 => walk_at "obl"
      case s3 => walk_at "sub"
    case o2 => 
      refine' Lt.ret (Lc1 hK hx) D rfl rfl (rcAt hK hx hw c2 rfl) rfl rfl (by decide) (sto_ok rfl) ?o3 rfl
      refine' (B1 hK hx).test 5 [] true rfl ?k1 rfl ?k2
      case k1 => walk_at "obl"
      exact (B1 hK hx).ret 5 [] rfl trivial (congrArg AV.str (empty_app x)) rfl

/-- a sign in quotation marks, behind a backslash -/
theorem gtQuoteE (hK : c.K = KK P) (hx : c.XR = XRof LL1) {w x : Str} {pos : Nat} {ln : Int} (hw : w.length ≤ 1000) (hl : x.length = 1) (c0 : chAt w pos = "\"") (c1 : chAt w (pos + 1) = "\\") (c2 : chAt w (pos + 2) = x) (c3 : chAt w (pos + 3) = "\"") :
    CallR c (n + 4) (.ref 49) [.ref 0] (lexA w pos ln [] []) (.str x) (lexA w (pos + 4) (lnx x ln) [] []) := by
  obtain ⟨d, bR, D⟩ := dReadChar (P := P) hK
  have hne : x ≠ "" := fun e => by rw [e] at hl; cases hl
  have hz0 : (Str.ofString "").length + x.length ≤ sizeLine := by rw [hl]; exact Nat.le_trans (by decide) sz1000
  have hrc : CallR c (n + 3) (.ref 42) [.ref 0] (lexB w (pos + 2) ln) (.str x) (lexB w (pos + 3) (lnx x ln)) := Op.up (Nat.le_succ _) (rcAt (n := n) hK hx hw c2 hl).call
  refine gtHead (js := [.x (.meth 0), .x (.citer 10)]) hK hx ?_
  refine' Exs.out (Ex.forC (Lc1 hK hx) (σ₁ := gtS w pos ln "") (k := 11) (b := 10) ?a1 rfl (Lt.ret (Lc1 hK hx) D rfl rfl (rcAt hK hx hw c0 rfl) rfl rfl (by decide) (sto_ok rfl) ?o rfl) ?a2) ?a3
  case a1 => exact (B1 hK hx).ev 5 [] rfl trivial rfl rfl
  case a2 => exact fun _ _ => rfl
  case a3 => exact fun e => by cases e
  case o =>
    refine' (B1 hK hx).test 5 [] false rfl ?f1 ws_q ?r1
    case f1 => walk_at "obl"
    refine' (B1 hK hx).test 5 [] true rfl ?f2 rfl ?r2
    case f2 => walk_at "obl"
    refine' Exs.out (Ex.forC (Lc1 hK hx) (σ₁ := gtC w (pos + 1) ln "" "\"") (k := 11) (b := 10) ?b1 rfl (Lt.next (σ₂ := gtC w (pos + 3) (lnx x ln) ("" ++ x) x) (Lc1 hK hx) D rfl rfl (rcAt hK hx hw c1 rfl) rfl rfl (by decide) (sto_ok rfl) ?o1 rfl ?o2) ?b2) ?b3
    case b1 => exact (B1 hK hx).ev 5 [] rfl trivial rfl rfl
    case b2 => exact fun _ _ => rfl
    case b3 => exact fun e => by cases e
    case o1 =>
      refine' (B1 hK hx).test 5 [] false rfl ?g1 rfl ?t1
      case g1 => walk_at "obl"
      refine' (B1 hK hx).test 5 [] true rfl ?g2 rfl ?t2
      case g2 => walk_at "obl"
      refine' (B1 hK hx).run 5 2 [(.str x, lexB w (pos + 3) (lnx x ln))] (gtC w (pos + 3) (lnx x ln) ("" ++ x) x) rfl ?g3 ?s3 rfl Exs.nil
      case g3 => walk_at "obl"
      case s3 => walk_at "sub"
    case o2 => 
      refine' Lt.ret (Lc1 hK hx) D rfl rfl (rcAt hK hx hw c3 rfl) rfl rfl (by decide) (sto_ok rfl) ?o3 rfl
      refine' (B1 hK hx).test 5 [] true rfl ?k1 rfl ?k2
      case k1 => walk_at "obl"
      exact (B1 hK hx).ret 5 [] rfl trivial (congrArg AV.str (empty_app x)) rfl

/-- a sign behind a backslash, a blank behind it -/
theorem gtEsc (hK : c.K = KK P) (hx : c.XR = XRof LL1) {w x b : Str} {pos : Nat} {ln : Int} (hw : w.length ≤ 1000) (hl : x.length = 1) (hb : inS wsS b = true) (hbl : b.length = 1) (hbn : b ≠ "\n") (c0 : chAt w pos = "\\") (c1 : chAt w (pos + 1) = x) (c2 : chAt w (pos + 2) = b) :
    CallR c (n + 4) (.ref 49) [.ref 0] (lexA w pos ln [] []) (.str x) (lexA w (pos + 3) (lnx x ln) [] []) := by
  obtain ⟨d, bR, D⟩ := dReadChar (P := P) hK
  have hne : b ≠ "" := fun e => by rw [e] at hbl; cases hbl
  have hz0 : (Str.ofString "").length + x.length ≤ sizeLine := by rw [hl]; exact Nat.le_trans (by decide) sz1000
  have hrc : CallR c (n + 3) (.ref 42) [.ref 0] (lexB w (pos + 1) ln) (.str x) (lexB w (pos + 2) (lnx x ln)) := Op.up (Nat.le_succ _) (rcAt (n := n) hK hx hw c1 hl).call
  have hrb := rcAt (n := n) (ln := lnx x ln) (pb := []) (js := [.x (.meth 0), .x (.citer 10)]) hK hx hw c2 hbl
  rw [show lnx b (lnx x ln) = lnx x ln from if_neg hbn] at hrb
  refine gtHead (js := [.x (.meth 0), .x (.citer 10)]) hK hx ?_
  refine' Exs.out (Ex.forC (Lc1 hK hx) (σ₁ := gtS w pos ln "") (k := 11) (b := 10) ?a1 rfl (Lt.ret (Lc1 hK hx) D rfl rfl (rcAt hK hx hw c0 rfl) rfl rfl (by decide) (sto_ok rfl) ?o rfl) ?a2) ?a3
  case a1 => exact (B1 hK hx).ev 5 [] rfl trivial rfl rfl
  case a2 => exact fun _ _ => rfl
  case a3 => exact fun e => by cases e
  case o =>
    refine' (B1 hK hx).test 5 [] false rfl ?f1 ws_b ?r1
    case f1 => walk_at "obl"
    refine' (B1 hK hx).test 5 [] false rfl ?f2 rfl ?r2
    case f2 => walk_at "obl"
    refine' (B1 hK hx).test 5 [] true rfl ?f3 rfl ?r3
    case f3 => walk_at "obl"
    refine' (B1 hK hx).run 5 2 [(.str x, lexB w (pos + 2) (lnx x ln))] (gtC w (pos + 2) (lnx x ln) ("" ++ x) x) rfl ?g3 ?s3 rfl ?r4
    case g3 => walk_at "obl"
    case s3 => walk_at "sub"
    refine' Exs.out (Ex.forC (Lc1 hK hx) (σ₁ := gtC w (pos + 2) (lnx x ln) ("" ++ x) x) (k := 11) (b := 10) ?b1 rfl (Lt.ret (Lc1 hK hx) D rfl rfl hrb rfl rfl hne (sto_ok rfl) ?o1 rfl) ?b2) ?b3
    case b1 => exact (B1 hK hx).ev 5 [] rfl trivial rfl rfl
    case b2 => exact fun _ _ => rfl
    case b3 => exact fun e => by cases e
    case o1 =>
      refine' (B1 hK hx).test 5 [] true rfl ?k1 hb ?k2
      case k1 => walk_at "obl"
      exact (B1 hK hx).ret 5 [] rfl trivial (congrArg AV.str (empty_app x)) rfl
end

section
variable {c : Cx} {n : Nat} {P : Params}

theorem pushTok (hK : c.K = KK P) (hx : c.XR = XRof LL1) {w t : Str} {pos : Nat} {ln : Int} {pb : List AV} {js : List AO} (hp : pb.length ≤ 1000) :
    CallR c (n + 1) (.ref 56) [.ref 0, .str t] (lexA w pos ln pb js) .none (lexA w pos ln (pb ++ [.str t]) js) := by
  have hpp : CallR c n (.builtin "list.append") [.ref 1, .str t] (lexA w pos ln pb js) .none (lexA w pos ln (pb ++ [.str t]) js) := append_l (xs := pb) rfl (by have := sz1000; omega)
  refine CodeR.call ?_
  refine' CodeR.of_def0 (ps := [Str.ofString "self", Str.ofString "token"]) (σ' := ⟨[], lexA w pos ln (pb ++ [.str t]) js⟩) (DefAt.of hK rfl rfl rfl rfl rfl rfl rfl rfl) (by decide) ?bind (by decide) ?r (Back.all)
  case bind =>
    intro xs h
    obtain ⟨a, b, rfl⟩ := len2 h
    rfl
  case r =>
    refine' (B1 hK hx).run 5 1 [(.none, lexA w pos ln (pb ++ [.str t]) js)] ⟨[], lexA w pos ln (pb ++ [.str t]) js⟩ rfl ?f1 ?s1 rfl Exs.nil
    case f1 =>
      have hz : pb.length ≤ sizeLine := by have := sz1000; omega
      walk_at "obl"
    case s1 => walk_at "sub"
end

section
variable {c : Cx} {n : Nat} {P : Params}

/-- what the first call of the maker leaves: the table, two codes, the lexer -/
noncomputable def lex1p (w : Str) : List AO := [.x (.tab [4, 6]), .cell (some (.str w)), .cell (some (.ref 3)), .list [.int 0], .x (.code 0), .x (.fn 0 [("written", 1), ("at", 2)] 4 none), .x (.code 1), .x (.fn 1 [] 6 (some 8)), .x (.rdict 5)]
noncomputable def lex1 (w : Str) : List AO := lex1p w ++ [.x (.inst [("lineno", .int 1), ("instream", .ref 7), ("whitespace", .str wsS), ("pushback", .ref 10)]), .list []]
/-- the second call: the table and the codes are there -/
noncomputable def lex2p (w : Str) : List AO := [.x (.tab [1, 2]), .x (.code 0), .x (.code 1), .cell (some (.str w)), .cell (some (.ref 5)), .list [.int 0], .x (.fn 0 [("written", 3), ("at", 4)] 1 none), .x (.fn 1 [] 2 (some 8)), .x (.rdict 6)]
noncomputable def lex2 (w : Str) : List AO := lex2p w ++ [.x (.inst [("lineno", .int 1), ("instream", .ref 7), ("whitespace", .str wsS), ("pushback", .ref 10)]), .list []]

theorem initLex1 (hK : c.K = KK P) (hx : c.XR = XRof LL1) {w : Str} : CodeR c (n + 1) (.ref 35) [.ref 9, .ref 7] (lex1p w ++ [.x (.inst [])]) .none (lex1p w ++ [.x (.inst [("lineno", .int 1), ("instream", .ref 7), ("whitespace", .str wsS), ("pushback", .ref 10)]), .list []]) := by
  refine' CodeR.of_def0 (ps := [Str.ofString "self", Str.ofString "fp"]) (σ' := ⟨[], lex1p w ++ [.x (.inst [("lineno", .int 1), ("instream", .ref 7), ("whitespace", .str wsS), ("pushback", .ref 10)]), .list []]⟩) (DefAt.of hK rfl rfl rfl rfl rfl rfl rfl rfl) (by decide) ?bind (by decide) ?r (Back.all)
  case bind =>
    intro xs h
    obtain ⟨a, b, rfl⟩ := len2 h
    rfl
  case r =>
    refine' (B1 hK hx).run 5 4 [] ⟨[], lex1p w ++ [.x (.inst [("lineno", .int 1), ("instream", .ref 7), ("whitespace", .str wsS), ("pushback", .ref 10)]), .list []]⟩ rfl ?f1 ?s1 rfl Exs.nil
    case f1 => walk_at "obl"
    case s1 => walk_at "sub"

theorem initLex2 (hK : c.K = KK P) (hx : c.XR = XRof LL1) {w : Str} : CodeR c (n + 1) (.ref 35) [.ref 9, .ref 7] (lex2p w ++ [.x (.inst [])]) .none (lex2p w ++ [.x (.inst [("lineno", .int 1), ("instream", .ref 7), ("whitespace", .str wsS), ("pushback", .ref 10)]), .list []]) := by
  refine' CodeR.of_def0 (ps := [Str.ofString "self", Str.ofString "fp"]) (σ' := ⟨[], lex2p w ++ [.x (.inst [("lineno", .int 1), ("instream", .ref 7), ("whitespace", .str wsS), ("pushback", .ref 10)]), .list []]⟩) (DefAt.of hK rfl rfl rfl rfl rfl rfl rfl rfl) (by decide) ?bind (by decide) ?r (Back.all)
  case bind =>
    intro xs h
    obtain ⟨a, b, rfl⟩ := len2 h
    rfl
  case r =>
    refine' (B1 hK hx).run 5 4 [] ⟨[], lex2p w ++ [.x (.inst [("lineno", .int 1), ("instream", .ref 7), ("whitespace", .str wsS), ("pushback", .ref 10)]), .list []]⟩ rfl ?f1 ?s1 rfl Exs.nil
    case f1 => walk_at "obl"
    case s1 => walk_at "sub"

theorem clo2 {fd : FD} {i j : Nat} (h1 : fd.cells.lookup ("written" : Str) = some i) (h2 : fd.cells.lookup ("at" : Str) = some j) : Clo fd (LL1.N 0).scope [("written", i), ("at", j)] := by
  refine ⟨fun q hq => ?_, fun env f h => ?_⟩
  · rcases List.mem_cons.mp hq with rfl | hq
    · exact h1
    · rcases List.mem_cons.mp hq with rfl | hq
      · exact h2
      · cases hq
  · have e1 : env.cells.lookup (Str.ofString "written") = some (f (Str.ofString "written")) := h ("written", i) List.mem_cons_self
    have e2 : env.cells.lookup (Str.ofString "at") = some (f (Str.ofString "at")) := h ("at", j) (List.mem_cons_of_mem _ List.mem_cons_self)
    have hn : (LL1.N 0).scope.names = [(Str.ofString "size", NameKind.local), (Str.ofString "sign", NameKind.local), (Str.ofString "at", NameKind.free), (Str.ofString "written", NameKind.free), (Str.ofString "len", NameKind.globalImplicit)] := rfl
    rw [closure_eq, hn]
    · show Pure.pure (clOf env.cells [(Str.ofString "size", NameKind.local), (Str.ofString "sign", NameKind.local), (Str.ofString "at", NameKind.free), (Str.ofString "written", NameKind.free), (Str.ofString "len", NameKind.globalImplicit)] []) = _
      simp [clOf, e1, e2, show (NameKind.local == NameKind.free) = false from rfl, show (NameKind.globalImplicit == NameKind.free) = false from rfl]
    · rw [hn]
      intro x hx hk
      simp only [List.mem_cons, List.not_mem_nil, or_false] at hx
      rcases hx with rfl | rfl | rfl | rfl | rfl <;> first | (cases hk; done) | (rw [e1]; rfl) | (rw [e2]; rfl)

theorem lexNew (hK : c.K = KK P) (hx : c.XR = XRof LL1) (M : Lm c LL1 76) {w : Str} : CallR c (n + 6) (.ref 77) [.str w] [.x (.tab [])] (.ref 9) (lex1 w) := by
  refine CodeR.call ?_
  refine' CodeR.of_cells (ps := [Str.ofString "written"]) (cn := [Str.ofString "written", Str.ofString "at"]) (σ' := ⟨[], lex1 w⟩) (DefAt.of hK rfl rfl rfl rfl rfl rfl rfl rfl) rfl ?hcs ?nd ?bind ?hps ?hcn ?r (Back.all)
  case hcs => exact fun _ => rfl
  case nd => decide
  case bind =>
    intro xs h
    obtain ⟨a, rfl⟩ := len1 h
    rfl
  case hps => decide
  case hcn => decide
  case r =>
    refine' (B1 hK hx).run 5 1 [] ⟨[], [.x (.tab []), .cell (some (.str w)), .cell (some (.ref 3)), .list [.int 0]]⟩ rfl ?f1 ?s1 rfl ?r1
    case f1 => walk_at "obl"
    case s1 => walk_at "sub"
    refine' Exs.cons (Ex.defNew (c0 := 76) (t := 0) (cs := []) (cl := [("written", 1), ("at", 2)]) (q := "_law_lexer.<locals>.") (Lc1 hK hx) M ?a1 rfl rfl ?a2 ?a3 ?a4 rfl rfl ?a5 (sto_ok rfl)) ?r2
    case a1 => rfl
    case a2 => exact clo2 rfl rfl
    case a3 =>
      intro as has
      match as, has with
      | [], _ => rfl
    case a4 => decide
    case a5 => exact fun _ => rfl
    refine' Exs.cons (Ex.assign' (Ev.lamNew (c0 := 76) (t := 0) (cs := [4]) (cl := []) (q := "_law_lexer.<locals>.") (Lc1 hK hx) M ?b1 rfl rfl ?b2 ?b3 ?b4) (sto_ok rfl) ?b5) ?r3
    case b1 => rfl
    case b2 => exact And.intro (fun _ h => nomatch h) (fun _ _ _ => rfl)
    case b3 =>
      intro as has
      obtain ⟨_, rfl⟩ := len1 has
      rfl
    case b4 => exact fun _ => rfl
    case b5 => exact fun _ => rfl
    refine' Exs.cons (Ex.setRead (Lc1 hK hx) ((B1 hK hx).ev 5 [] rfl trivial rfl rfl) ((B1 hK hx).ev 5 [] rfl trivial rfl rfl) rfl ?c5) ?r4
    case c5 => exact fun _ => rfl
    refine' (B1 hK hx).ret 5 [(.ref 9, lex1 w)] rfl ?d1 rfl rfl
    walk_at "ob2"
    exact CallR.of_class (os := lex1p w) (n := n + 2) (Lc1 hK hx) (fI := 35) (by rw [hK]; rfl) (by rw [hK]; rfl) (initLex1 (n := n + 1) hK hx)

theorem lexHit (hK : c.K = KK P) (hx : c.XR = XRof LL1) (M : Lm c LL1 76) {w : Str} : CallR c (n + 6) (.ref 77) [.str w] [.x (.tab [1, 2]), .x (.code 0), .x (.code 1)] (.ref 9) (lex2 w) := by
  refine CodeR.call ?_
  refine' CodeR.of_cells (ps := [Str.ofString "written"]) (cn := [Str.ofString "written", Str.ofString "at"]) (σ' := ⟨[], lex2 w⟩) (DefAt.of hK rfl rfl rfl rfl rfl rfl rfl rfl) rfl ?hcs ?nd ?bind ?hps ?hcn ?r (Back.all)
  case hcs => exact fun _ => rfl
  case nd => decide
  case bind =>
    intro xs h
    obtain ⟨a, rfl⟩ := len1 h
    rfl
  case hps => decide
  case hcn => decide
  case r =>
    refine' (B1 hK hx).run 5 1 [] ⟨[], [.x (.tab [1, 2]), .x (.code 0), .x (.code 1), .cell (some (.str w)), .cell (some (.ref 5)), .list [.int 0]]⟩ rfl ?f1 ?s1 rfl ?r1
    case f1 => walk_at "obl"
    case s1 => walk_at "sub"
    refine' Exs.cons (Ex.defHit (c0 := 76) (t := 0) (j := 0) (ci := 1) (cs := [1, 2]) (cl := [("written", 3), ("at", 4)]) (q := "_law_lexer.<locals>.") (Lc1 hK hx) M ?a1 rfl rfl rfl ?a2 ?a3 ?a4 rfl rfl ?a5 (sto_ok rfl)) ?r2
    case a1 => rfl
    case a2 => exact clo2 rfl rfl
    case a3 =>
      intro as a has
      match as, has with
      | b :: _, h => cases h; rfl
    case a4 => decide
    case a5 => exact fun _ => rfl
    refine' Exs.cons (Ex.assign' (Ev.lamHit (c0 := 76) (t := 0) (j := 1) (ci := 2) (cs := [1, 2]) (cl := []) (q := "_law_lexer.<locals>.") (Lc1 hK hx) M ?b1 rfl rfl rfl ?b2 ?b3 ?b4) (sto_ok rfl) ?b5) ?r3
    case b1 => rfl
    case b2 => exact And.intro (fun _ h => nomatch h) (fun _ _ _ => rfl)
    case b3 =>
      intro as a has
      match as, has with
      | b :: b' :: _, h => cases h; rfl
    case b4 => exact fun _ => rfl
    case b5 => exact fun _ => rfl
    refine' Exs.cons (Ex.setRead (Lc1 hK hx) ((B1 hK hx).ev 5 [] rfl trivial rfl rfl) ((B1 hK hx).ev 5 [] rfl trivial rfl rfl) rfl ?c5) ?r4
    case c5 => exact fun _ => rfl
    refine' (B1 hK hx).ret 5 [(.ref 9, lex2 w)] rfl ?d1 rfl rfl
    walk_at "ob2"
    exact CallR.of_class (os := lex2p w) (n := n + 2) (Lc1 hK hx) (fI := 35) (by rw [hK]; rfl) (by rw [hK]; rfl) (initLex2 (n := n + 1) hK hx)
end

noncomputable section
variable {c : Cx} {n : Nat} {P : Params}

noncomputable def wTest : Stmt → Expr
  | .While t _ _ _ => t
  | _ => .Constant .none 0 ⟨0, 0, 0, 0⟩
noncomputable def wBody : Stmt → List Stmt
  | .While _ b _ _ => b
  | _ => []
noncomputable def stK (P : Params) (a : Addr) (i : Nat) : Stmt := (bodyK P a).getD i (.Pass ⟨0, 0, 0, 0⟩)

noncomputable def flatPs : List (List Nat × List Nat) → List AV
  | [] => []
  | q :: r => .str (T q.1) :: .str (T q.2) :: flatPs r
theorem flatPs_len : ∀ ps : List (List Nat × List Nat), (flatPs ps).length = 2 * ps.length
  | [] => rfl
  | _ :: r => by show (flatPs r).length + 2 = _; rw [flatPs_len r, List.length_cons]; omega
/-- all pairs, one behind the other -/
noncomputable def replAll : List (List Nat × List Nat) → List Nat → List Nat
  | [], l => l
  | q :: r, l => replAll r (repl q.1 q.2 l 0)
noncomputable def ReplOk : List (List Nat × List Nat) → List Nat → Prop
  | [], l => l.length ≤ 1000
  | q :: r, l => l.length ≤ 1000 ∧ q.1 ≠ [] ∧ q.2.length ≤ 1000 ∧ ReplOk r (repl q.1 q.2 l 0)

theorem replLoop (hK : c.K = KK P) (hx : c.XR = XRof LL1) : ∀ (ps : List (List Nat × List Nat)) (l : List Nat) (i : Nat) (os : List AO), os[i]? = some (.tup (flatPs ps)) → ps.length ≤ 1000 → ReplOk ps l →
    ∃ j js, Wl c (n + 1) (fdK P 70) (wTest (stK P 70 0)) (wBody (stK P 70 0)) ⟨[("text", .str (T l)), ("pairs", .ref i)], os⟩ .next ⟨[("text", .str (T (replAll ps l))), ("pairs", .ref j)], os ++ js⟩
  | [], l, i, os, ho, hn, hok => by
    refine ⟨i, [], ?_⟩
    rw [List.append_nil]
    refine' Wl.done (Tst.val (a := .ref i) ?a1 (tru_t ho (Nat.zero_le _)) ?a2)
    case a1 => exact (B1 hK hx).ev 5 [] rfl trivial rfl rfl
    case a2 => exact fun _ _ => rfl
  | (p, q) :: ps, l, i, os, ho, hn, hok => by
    obtain ⟨h1, h2, h3, h4⟩ := hok
    have h2l : (T p).length ≠ 0 := by rw [T_len]; exact fun h => h2 (List.length_eq_zero_iff.mp h)
    have hz : sizeLine = 2 ^ 24 := sizeLine_eq
    have ho' : (os ++ [.list ((Txt.split (T l) (T p)).map .str)])[i]? = some (.tup (flatPs ((p, q) :: ps))) := getElem?_mono ho
    obtain ⟨j, js, W⟩ := replLoop hK hx ps (repl p q l 0) (os ++ [AO.list ((Txt.split (T l) (T p)).map AV.str)]).length (os ++ [.list ((Txt.split (T l) (T p)).map .str)] ++ [.tup (flatPs ps)]) (by rw [List.getElem?_append_right (Nat.le_refl _), Nat.sub_self]; rfl) (by simp at hn; omega) h4
    refine ⟨j, [.list ((Txt.split (T l) (T p)).map .str)] ++ [.tup (flatPs ps)] ++ js, ?_⟩
    rw [show os ++ ([.list ((Txt.split (T l) (T p)).map .str)] ++ [.tup (flatPs ps)] ++ js) = os ++ [.list ((Txt.split (T l) (T p)).map .str)] ++ [.tup (flatPs ps)] ++ js by simp]
    have hfl := flatPs_len ((p, q) :: ps)
    have hsp : CallR c (n + 1) (.builtin "str.split") [.str (T l), .str (T p)] os (.ref os.length) (os ++ [.list ((Txt.split (T l) (T p)).map .str)]) := split_s h2l (by rw [T_len]; omega) (by have := split_len h2l (x := T l) (by rw [T_len]; exact h1); omega)
    have hjo : CallR c (n + 1) (.builtin "str.join") [.str (T q), .ref os.length] (os ++ [.list ((Txt.split (T l) (T p)).map .str)]) (.str (T (repl p q l 0))) (os ++ [.list ((Txt.split (T l) (T p)).map .str)]) := by
      rw [← join_split l p q h2]
      exact join_s (by simp) (split_ok h2l (by rw [T_len]; exact h1) (by rw [T_len]; exact h3))
    refine' Wl.step (Tst.val (a := .ref i) ?a1 (b := true) ?a3 ?a2) ?b1 W
    case a1 => exact (B1 hK hx).ev 5 [] rfl trivial rfl rfl
    case a2 => exact fun _ _ => rfl
    case a3 => exact tru_t ho (by rw [hfl, hz]; simp at hn ⊢; omega)
    case b1 =>
      refine' (B1 hK hx).run' 8 1 [(.str (T q), os), (.str (T p), os), (.ref os.length, os ++ [.list ((Txt.split (T l) (T p)).map .str)]), (.str (T (repl p q l 0)), os ++ [.list ((Txt.split (T l) (T p)).map .str)])] ⟨[("text", .str (T (repl p q l 0))), ("pairs", .ref i)], os ++ [.list ((Txt.split (T l) (T p)).map .str)]⟩ rfl ?c1 ?c2 rfl ?c3
      case c2 => walk_at "sub"
      case c1 =>
        walk_at "ob2"
        · refine' Ev.idxT (i := i) (j := 1) (xs := flatPs ((p, q) :: ps)) ?d1 ?d2 ho rfl (by decide) ?d3
          case d1 => exact (B1 hK hx).ev 5 [] rfl trivial rfl rfl
          case d2 => exact (B1 hK hx).ev 5 [] rfl trivial rfl rfl
          case d3 => exact fun _ _ => rfl
        · refine' Ev.idxT (i := i) (j := 0) (xs := flatPs ((p, q) :: ps)) ?e1 ?e2 ho rfl (by decide) ?e3
          case e1 => exact (B1 hK hx).ev 5 [] rfl trivial rfl rfl
          case e2 => exact (B1 hK hx).ev 5 [] rfl trivial rfl rfl
          case e3 => exact fun _ _ => rfl
      case c3 =>
        refine' Exs.cons (Ex.assign' (Ev.slice (σ₄ := ⟨[("text", .str (T (repl p q l 0))), ("pairs", .ref i)], os ++ [.list ((Txt.split (T l) (T p)).map .str)]⟩) (a := .ref i) (lo := some 2) ?f1 (EvP.some ?f2) EvP.none EvP.none (.tup ho') (slice_tf (a := 2) ho' (by decide) ?f3 ?f4)) (sto_ok rfl) ?f5) ?f6
        case f1 => exact (B1 hK hx).ev 5 [] rfl trivial rfl rfl
        case f2 => exact (B1 hK hx).ev 5 [] rfl trivial rfl rfl
        case f3 => rw [hfl]; simp; omega
        case f4 => rw [hfl, hz]; simp at hn ⊢; omega
        case f5 => exact fun _ => rfl
        case f6 =>
          refine' Exs.fewer (σ₁ := ⟨[("text", .str (T (repl p q l 0))), ("pairs", .ref (os ++ [AO.list ((Txt.split (T l) (T p)).map AV.str)]).length)], os ++ [.list ((Txt.split (T l) (T p)).map .str)] ++ [.tup (flatPs ps)]⟩) ?g1 rfl Exs.nil
          walk_at "sub"

theorem replaceD (hK : c.K = KK P) (hx : c.XR = XRof LL1) (ps : List (List Nat × List Nat)) (l : List Nat) (hn : ps.length ≤ 1000) (hok : ReplOk ps l)
    (hb : ∀ (d : FuncData) (x : Value) (xs : List Value), xs.length = (flatPs ps).length → (∃ o od sl, (KK P).lookup 70 = some ⟨o, od, .func d, sl⟩) → bindArgs d ⟨x :: xs, []⟩ = (newTuple xs >>= fun t => Pure.pure [(Str.ofString "text", x), (Str.ofString "pairs", t)])) :
    CallR c (n + 2) (.ref 70) (.str (T l) :: flatPs ps) [] (.str (T (replAll ps l))) [] := by
  refine CodeR.call ?_
  obtain ⟨j, js, W⟩ := replLoop (n := n) hK hx ps l 0 [.tup (flatPs ps)] rfl hn hok
  refine' CodeR.of_var (p := "text") (q := "pairs") (σ' := ⟨[], [.tup (flatPs ps)] ++ js⟩) (DefAt.of hK rfl rfl rfl rfl rfl rfl rfl rfl) (by decide) ?bind rfl rfl ?hz ?r (Back.val (os' := []) rfl ?cl rfl)
  case bind => exact fun x xs h => hb _ x xs h ⟨_, _, _, rfl⟩
  case hz => rw [flatPs_len, sizeLine_eq]; omega
  case cl => walk_at "clo"
  case r =>
    refine' Exs.fewer (σ₁ := ⟨[("text", .str (T l)), ("pairs", .ref 0)], [.tup (flatPs ps)]⟩) ?w1 rfl (Exs.cons (σ₁ := ⟨[("text", .str (T (replAll ps l))), ("pairs", .ref j)], [.tup (flatPs ps)] ++ js⟩) (Ex.while W) ?r2)
    case w1 => walk_at "sub"
    case r2 => exact (B1 hK hx).ret 5 [] rfl trivial rfl rfl
end

noncomputable section
variable {c : Cx} {n : Nat} {P : Params}

noncomputable def forBody : Stmt → List Stmt
  | .For _ _ b _ _ => b
  | _ => []

/-- how a sign is written -/
noncomputable def pieceL (x : Nat) (e : Bool) : List Nat := bif e then [92, x, 9] else bif decide (x ∈ [34, 92]) then [34, 92, x, 34] else [34, x, 34]
noncomputable def escB (ns : List Int) (k : Nat) : Bool := ((ns.getD (k % ns.length) 0).fdiv 4).fmod 2 == 1
noncomputable def pcs (l : List Nat) (ns : List Int) (k : Nat) : List (List Nat) := (List.range k).map fun j => pieceL (l.getD j 0) (escB ns j)
noncomputable def writtenL (l : List Nat) (ns : List Int) : List Nat := (pcs l ns l.length).flatten
theorem pcs_succ (l : List Nat) (ns : List Int) (k : Nat) : pcs l ns (k + 1) = pcs l ns k ++ [pieceL (l.getD k 0) (escB ns k)] := by
  unfold pcs; rw [List.range_succ, List.map_append]; rfl
theorem fmod_nat (k m : Nat) : Int.fmod (k : Int) (m : Int) = ((k % m : Nat) : Int) := by
  rw [Int.fmod_eq_emod_of_nonneg _ (by omega)]; omega
theorem pc1 (x : Nat) : Str.ofString "\\" ++ T [x] ++ Str.ofString "\t" = T [92, x, 9] := by
  rw [show Str.ofString "\\" = T [92] by decide +kernel, show Str.ofString "\t" = T [9] by decide +kernel, T_app, T_app]; rfl
theorem pc2 (x : Nat) : Str.ofString "\"\\" ++ T [x] ++ Str.ofString "\"" = T [34, 92, x, 34] := by
  rw [show Str.ofString "\"\\" = T [34, 92] by decide +kernel, show Str.ofString "\"" = T [34] by decide +kernel, T_app, T_app]; rfl
theorem pc3 (x : Nat) : Str.ofString "\"" ++ T [x] ++ Str.ofString "\"" = T [34, x, 34] := by
  rw [show Str.ofString "\"" = T [34] by decide +kernel, T_app, T_app]; rfl
theorem pcIn (x : Nat) : inS (Str.ofString "\"\\") (T [x]) = decide (x ∈ [34, 92]) := by
  rw [show Str.ofString "\"\\" = T [34, 92] by decide +kernel]; exact inS_T [34, 92] x

theorem put1 {l : List Nat} {ns : List Int} {k : Nat} {y : List Nat} (h : pieceL (l.getD k 0) (escB ns k) = y) : ((pcs l ns k).map T).map AV.str ++ [AV.str (T y)] = ((pcs l ns (k + 1)).map T).map AV.str := by
  rw [pcs_succ, h]; simp

noncomputable def wrS (l : List Nat) (ns : List Int) (k : Nat) : S := ⟨[("word", .str (T l)), ("numbers", .ref 0), ("pieces", .ref 1)], [.list (ns.map .int), .list (((pcs l ns k).map T).map .str), .rng 0 l.length]⟩
noncomputable def wrK (l : List Nat) (ns : List Int) (k : Nat) : S := ⟨[("k", .int k), ("word", .str (T l)), ("numbers", .ref 0), ("pieces", .ref 1)], [.list (ns.map .int), .list (((pcs l ns k).map T).map .str), .rng 0 l.length]⟩

theorem wrTurn (hK : c.K = KK P) (hx : c.XR = XRof LL1) {l : List Nat} {ns : List Int} {k : Nat} (hl : l.length ≤ 200) (hn : ns.length ≤ 200) (h0 : 0 < ns.length) (hk : k < l.length) :
    Exs c (n + 1) (fdK P 84) (forBody (stK P 84 1)) (wrK l ns k) .next (wrS l ns (k + 1)) := by
  have hz : sizeLine = 2 ^ 24 := sizeLine_eq
  have hzn : (ns.map AV.int).length ≤ sizeLine := by rw [List.length_map]; omega
  have hlk : l[k]? = some (l.getD k 0) := by rw [List.getD_eq_getElem?_getD, List.getElem?_eq_getElem hk]; rfl
  have hm : k % ns.length < ns.length := Nat.mod_lt _ h0
  have hnk : (ns.map AV.int)[k % ns.length]? = some (.int (ns.getD (k % ns.length) 0)) := by rw [List.getElem?_map, List.getD_eq_getElem?_getD, List.getElem?_eq_getElem hm]; rfl
  have hgw : ∀ (pos : Pos) (o i : Expr), o = o → True := fun _ _ _ _ => trivial
  refine' (B1 hK hx).test' 8 [(.int (ns.getD (k % ns.length) 0), (wrK l ns k).os)] (escB ns k) rfl ?f1 rfl ?r1
  case f1 =>
    walk_at "ob2"
    refine' Ev.idxL (i := 0) (j := k % ns.length) (xs := ns.map .int) ?d1 ?d2 rfl hnk (by omega) ?d3
    case d1 => exact (B1 hK hx).ev 5 [] rfl trivial rfl rfl
    case d2 =>
      refine' (B1 hK hx).ev 5 [] rfl ?d4 ?d5 rfl
      case d4 =>
        walk_at "ob2"
        rw [List.length_map]; omega
      case d5 =>
        show AV.int (Int.fmod (k : Int) ((ns.map AV.int).length : Nat)) = _
        rw [List.length_map, fmod_nat]
    case d3 => exact fun _ _ => rfl
  case r1 =>
    have idx : ∀ {value slice : Expr} {pos : Pos}, Ev c (n + 1) (fdK P 84) value (wrK l ns k) (.str (T l)) (wrK l ns k) → Ev c (n + 1) (fdK P 84) slice (wrK l ns k) (.int k) (wrK l ns k) → (∀ o i, subscripted slice false o i = operate [o, i] (getItem o i)) →
        Ev c (n + 1) (fdK P 84) (.Subscript value slice pos) (wrK l ns k) (.str (T [l.getD k 0])) (wrK l ns k) := fun h1 h2 h3 => Ev.idxS h1 h2 hlk (by omega) h3
    have pz : (((pcs l ns k).map T).map AV.str).length ≤ sizeLine := by rw [List.length_map, List.length_map]; unfold pcs; rw [List.length_map, List.length_range]; omega
    cases he : escB ns k with
    | true =>
      refine' (B1 hK hx).run' 8 1 [(.str (T [l.getD k 0]), (wrK l ns k).os)] (wrS l ns (k + 1)) rfl ?g1 ?g2 ?g3 Exs.nil
      case g1 =>
        walk_at "ob2"
        exact idx ((B1 hK hx).ev 5 [] rfl trivial rfl rfl) ((B1 hK hx).ev 5 [] rfl trivial rfl rfl) (fun _ _ => rfl)
      case g2 => walk_at "sub"
      case g3 =>
        show [AO.list (ns.map .int), AO.list (((pcs l ns k).map T).map AV.str ++ [AV.str (Str.ofString "\\" ++ T [l.getD k 0] ++ Str.ofString "\t")]), AO.rng 0 l.length] = _
        rw [pc1, put1 (y := [92, l.getD k 0, 9]) (by rw [he]; rfl)]; rfl
    | false =>
      refine' (B1 hK hx).test' 8 [(.str (T [l.getD k 0]), (wrK l ns k).os)] (decide (l.getD k 0 ∈ [34, 92])) rfl ?g4 (pcIn _) ?g5
      case g4 =>
        walk_at "ob2"
        exact idx ((B1 hK hx).ev 5 [] rfl trivial rfl rfl) ((B1 hK hx).ev 5 [] rfl trivial rfl rfl) (fun _ _ => rfl)
      case g5 =>
        cases hm2 : decide (l.getD k 0 ∈ [34, 92]) with
        | true =>
          refine' (B1 hK hx).run' 8 1 [(.str (T [l.getD k 0]), (wrK l ns k).os)] (wrS l ns (k + 1)) rfl ?h1 ?h2 ?h3 Exs.nil
          case h1 =>
            walk_at "ob2"
            exact idx ((B1 hK hx).ev 5 [] rfl trivial rfl rfl) ((B1 hK hx).ev 5 [] rfl trivial rfl rfl) (fun _ _ => rfl)
          case h2 => walk_at "sub"
          case h3 =>
            show [AO.list (ns.map .int), AO.list (((pcs l ns k).map T).map AV.str ++ [AV.str (Str.ofString "\"\\" ++ T [l.getD k 0] ++ Str.ofString "\"")]), AO.rng 0 l.length] = _
            rw [pc2, put1 (y := [34, 92, l.getD k 0, 34]) (by rw [he]; unfold pieceL; rw [hm2]; rfl)]; rfl
        | false =>
          refine' (B1 hK hx).run' 8 1 [(.str (T [l.getD k 0]), (wrK l ns k).os)] (wrS l ns (k + 1)) rfl ?i1 ?i2 ?i3 Exs.nil
          case i1 =>
            walk_at "ob2"
            exact idx ((B1 hK hx).ev 5 [] rfl trivial rfl rfl) ((B1 hK hx).ev 5 [] rfl trivial rfl rfl) (fun _ _ => rfl)
          case i2 => walk_at "sub"
          case i3 =>
            show [AO.list (ns.map .int), AO.list (((pcs l ns k).map T).map AV.str ++ [AV.str (Str.ofString "\"" ++ T [l.getD k 0] ++ Str.ofString "\"")]), AO.rng 0 l.length] = _
            rw [pc3, put1 (y := [34, l.getD k 0, 34]) (by rw [he]; unfold pieceL; rw [hm2]; rfl)]; rfl

theorem pcs_len (l : List Nat) (ns : List Int) (k : Nat) : (pcs l ns k).length = k := by unfold pcs; rw [List.length_map, List.length_range]
theorem flat_le {ls : List (List Nat)} {m : Nat} (h : ∀ x ∈ ls, x.length ≤ m) : ls.flatten.length ≤ ls.length * m := by
  induction ls with
  | nil => simp
  | cons x r ih =>
    have h1 := h x List.mem_cons_self
    have h2 := ih fun y hy => h y (List.mem_cons_of_mem _ hy)
    rw [List.flatten_cons, List.length_append, List.length_cons, Nat.succ_mul]; omega
theorem piece_le (x : Nat) (e : Bool) : (pieceL x e).length ≤ 4 := by
  unfold pieceL
  cases e <;> cases decide (x ∈ [34, 92]) <;> simp
theorem pcs_le (l : List Nat) (ns : List Int) (k : Nat) : (pcs l ns k).flatten.length ≤ 4 * k := by
  have := flat_le (ls := pcs l ns k) (m := 4) (fun x hx => by
    unfold pcs at hx
    obtain ⟨j, _, rfl⟩ := List.mem_map.mp hx
    exact piece_le _ _)
  rw [pcs_len] at this; omega

theorem writtenD (hK : c.K = KK P) (hx : c.XR = XRof LL1) {l : List Nat} {ns : List Int} (hl : l.length ≤ 200) (hn : ns.length ≤ 200) (h0 : 0 < ns.length) :
    CallR c (n + 2) (.ref 84) [.str (T l), .ref 0] [.list (ns.map .int)] (.str (T (writtenL l ns))) [.list (ns.map .int)] := by
  have hz : sizeLine = 2 ^ 24 := sizeLine_eq
  have hzl : (T l).length ≤ sizeLine := by rw [T_len]; omega
  have hjo : CallR c (n + 1) (.builtin "str.join") [.str (Str.ofString ""), .ref 1] (wrS l ns l.length).os (.str (T (writtenL l ns))) (wrS l ns l.length).os := by
    rw [T_nil, show T (writtenL l ns) = Txt.join (T []) ((pcs l ns l.length).map T) from (join_T0 _).symm]
    refine join_s rfl (joinOk_T ?_)
    have := pcs_le l ns l.length
    rw [pcs_len, List.length_nil, Nat.mul_zero]; omega
  refine' CallR.of_def (ps := [Str.ofString "word", Str.ofString "numbers"]) (σ' := ⟨[], (wrS l ns l.length).os⟩) (DefAt.of hK rfl rfl rfl rfl rfl rfl rfl rfl) (by decide) ?bind (by decide) ?r (Back.val (os' := [.list (ns.map .int)]) rfl ?cl rfl)
  case cl => walk_at "clo"
  case bind =>
    intro xs h
    obtain ⟨a, b, rfl⟩ := len2 h
    rfl
  case r =>
    refine' (B1 hK hx).run 8 1 [] ⟨[("word", .str (T l)), ("numbers", .ref 0), ("pieces", .ref 1)], [.list (ns.map .int), .list []]⟩ rfl ?f1 ?s1 rfl ?r1
    case f1 => walk_at "ob2"
    case s1 => walk_at "sub"
    case r1 =>
      refine' Exs.cons (σ₁ := wrS l ns l.length) (Ex.for (σ₁ := wrS l ns 0) (a := .ref 2) (src := .rng 0 l.length) ?g1 (.rng rfl ?g2) ?g3 ?g4) ?g5
      case g1 =>
        refine' (B1 hK hx).ev 8 [] rfl ?g6 rfl ?g7
        case g6 => walk_at "ob2"
        case g7 => rfl
      case g2 => exact small_rng (by omega)
      case g3 =>
        refine' Lp.less (Lp.loop l.length (fun k => wrS l ns k) (fun k => .int k) ?k1 ?k2 trivial rfl rfl ?k3) ?k4 rfl
        case k1 => exact fun k hk => item_rng hk
        case k2 => exact item_rngE
        case k3 => exact fun k hk => Exs.fewer (σ₁ := wrK l ns k) (by walk_at "sub") rfl (wrTurn hK hx hl hn h0 hk)
        case k4 => walk_at "sub"
      case g4 => exact fun _ _ => rfl
      case g5 =>
        refine' (B1 hK hx).ret 8 [(.str (T (writtenL l ns)), (wrS l ns l.length).os)] rfl ?m1 rfl rfl
        walk_at "ob2"
end

noncomputable section
variable {c : Cx} {n : Nat} {P : Params}

theorem chAt_T {w t : List Nat} {pos x : Nat} (h : w.drop pos = x :: t) : chAt (T w) pos = T [x] := by
  show T (cut w (some (pos : Int)) (some ((pos : Int) + 1))) = _
  rw [show ((pos : Int) + 1) = ((pos + 1 : Nat) : Int) by omega, cut_nat, h, show pos + 1 - pos = 1 by omega]; rfl
theorem chAt_end {w : List Nat} {pos : Nat} (h : w.length ≤ pos) : chAt (T w) pos = "" := by
  show T (cut w (some (pos : Int)) (some ((pos : Int) + 1))) = _
  rw [show ((pos : Int) + 1) = ((pos + 1 : Nat) : Int) by omega, cut_nat, List.drop_eq_nil_of_le h, T_nil]; simp
theorem drop_next {w t : List Nat} {pos x : Nat} (h : w.drop pos = x :: t) : w.drop (pos + 1) = t := (drop_cons h).2

theorem T_q : Str.ofString "\"" = T [34] := by decide +kernel
theorem T_b : Str.ofString "\\" = T [92] := by decide +kernel
theorem T_s : Str.ofString "\t" = T [9] := by decide +kernel
theorem T_nl : Str.ofString "\n" = T [10] := by decide +kernel

noncomputable def nl (x : Nat) : Int := if x = 10 then 1 else 0
theorem lnx_T (x : Nat) (ln : Int) : lnx (T [x]) ln = ln + nl x := by
  unfold lnx nl
  rw [T_nl]
  by_cases h : x = 10
  · subst h; simp
  · rw [if_neg (fun e => h (by simpa using T_inj e)), if_neg h]; omega

/-- one written sign read -/
theorem gtPiece (hK : c.K = KK P) (hx : c.XR = XRof LL1) {w t : List Nat} {pos x : Nat} {e : Bool} {ln : Int} (hw : w.length ≤ 1000) (h : w.drop pos = pieceL x e ++ t) :
    CallR c (n + 4) (.ref 49) [.ref 0] (lexA (T w) pos ln [] []) (.str (T [x])) (lexA (T w) (pos + (pieceL x e).length) (ln + nl x) [] []) := by
  have hw' : (T w).length ≤ 1000 := by rw [T_len]; exact hw
  rw [← lnx_T]
  unfold pieceL at h ⊢
  cases e with
  | true =>
    have h0 : w.drop pos = 92 :: x :: 9 :: t := h
    have h1 := drop_next h0
    have h2 := drop_next h1
    refine gtEsc (b := "\t") hK hx hw' rfl ws_t rfl (by decide) ?_ (chAt_T h1) ?_
    · rw [chAt_T h0, T_b]
    · rw [chAt_T h2, T_s]
  | false =>
    cases hm : decide (x ∈ [34, 92]) with
    | true =>
      rw [hm] at h
      have h0 : w.drop pos = 34 :: 92 :: x :: 34 :: t := h
      have h1 := drop_next h0
      have h2 := drop_next h1
      have h3 := drop_next h2
      refine gtQuoteE hK hx hw' rfl ?_ ?_ (chAt_T h2) ?_
      · rw [chAt_T h0, T_q]
      · rw [chAt_T h1, T_b]
      · rw [chAt_T h3, T_q]
    | false =>
      rw [hm] at h
      have h0 : w.drop pos = 34 :: x :: 34 :: t := h
      have h1 := drop_next h0
      have h2 := drop_next h1
      have hn : x ∉ [34, 92] := of_decide_eq_false hm
      refine gtQuote hK hx hw' rfl ?_ ?_ ?_ (chAt_T h1) ?_
      · rw [T_q]; exact fun e => hn (by have := T_inj e; simp at this; simp [this])
      · rw [T_b]; exact fun e => hn (by have := T_inj e; simp at this; simp [this])
      · rw [chAt_T h0, T_q]
      · rw [chAt_T h2, T_q]

/-- how far the first k signs reach -/
noncomputable def off (l : List Nat) (ns : List Int) (k : Nat) : Nat := (pcs l ns k).flatten.length
theorem off_succ (l : List Nat) (ns : List Int) (k : Nat) : off l ns (k + 1) = off l ns k + (pieceL (l.getD k 0) (escB ns k)).length := by
  unfold off; rw [pcs_succ, List.flatten_append, List.length_append]; simp
theorem drop_off (l : List Nat) (ns : List Int) {k : Nat} (hk : k < l.length) : ∃ t, (writtenL l ns).drop (off l ns k) = pieceL (l.getD k 0) (escB ns k) ++ t := by
  have key : ∀ m, k < m → ∃ t, (pcs l ns m).flatten = (pcs l ns k).flatten ++ (pieceL (l.getD k 0) (escB ns k) ++ t) := by
    intro m
    induction m with
    | zero => intro h; omega
    | succ m ih =>
      intro h
      rw [pcs_succ, List.flatten_append]
      by_cases hm : k < m
      · obtain ⟨t, ht⟩ := ih hm
        exact ⟨t ++ [pieceL (l.getD m 0) (escB ns m)].flatten, by rw [ht]; simp⟩
      · obtain rfl : k = m := by omega
        exact ⟨[], by simp⟩
  obtain ⟨t, ht⟩ := key l.length hk
  refine ⟨t, ?_⟩
  unfold writtenL off
  rw [ht, List.drop_left]
noncomputable def lnK (l : List Nat) : Nat → Int
  | 0 => 1
  | k + 1 => lnK l k + nl (l.getD k 0)
theorem written_le (l : List Nat) (ns : List Int) : (writtenL l ns).length ≤ 4 * l.length := pcs_le l ns l.length
/-! ### turning -/
noncomputable def rot (k : Nat) (l : List Nat) : List Nat := l.drop k ++ l.take k
noncomputable def sgs (l : List Nat) : List Str := l.map fun x => T [x]
theorem rot_head {l : List Nat} {k : Nat} (hk : k < l.length) : rot k l = l.getD k 0 :: (l.drop (k + 1) ++ l.take k) := by
  unfold rot
  rw [List.drop_eq_getElem_cons hk, List.getD_eq_getElem?_getD, List.getElem?_eq_getElem hk]; rfl
theorem rot_next {l : List Nat} {k : Nat} (hk : k < l.length) : rot (k + 1) l = (l.drop (k + 1) ++ l.take k) ++ [l.getD k 0] := by
  unfold rot
  rw [List.take_add_one, List.getElem?_eq_getElem hk, List.getD_eq_getElem?_getD, List.getElem?_eq_getElem hk]; simp
theorem rot_len {l : List Nat} {k : Nat} (hk : k ≤ l.length) : (rot k l).length = l.length := by
  unfold rot; rw [List.length_append, List.length_drop, List.length_take]; omega
theorem flat_one (l : List Nat) : (l.map fun x => [x]).flatten = l := by
  induction l with
  | nil => rfl
  | cons x t ih =>
    rw [List.map_cons, List.flatten_cons, ih]; rfl
theorem join_sgs (l : List Nat) : Txt.join (T []) (sgs l) = T l := by
  unfold sgs
  rw [show l.map (fun x => T [x]) = (l.map fun x => [x]).map T by rw [List.map_map]; rfl, join_T0]
  rw [flat_one]
theorem sgs_range (l : List Nat) : (List.range l.length).map (fun k => AV.str (T [l.getD k 0])) = (sgs l).map .str := by
  apply List.ext_getElem?
  intro i
  unfold sgs
  rw [List.getElem?_map, List.getElem?_map, List.getElem?_map]
  by_cases hi : i < l.length
  · rw [List.getElem?_range hi, List.getElem?_eq_getElem hi]
    show some (AV.str (T [l.getD i 0])) = some (AV.str (T [l[i]]))
    rw [List.getD_eq_getElem?_getD, List.getElem?_eq_getElem hi]; rfl
  · rw [List.getElem?_eq_none (by rw [List.length_range]; omega), List.getElem?_eq_none (by omega)]; rfl
theorem sgs_joinOk (l : List Nat) (h : l.length ≤ 1000) : JoinOk (T []) (sgs l) = true := by
  unfold sgs
  rw [show l.map (fun x => T [x]) = (l.map fun x => [x]).map T by rw [List.map_map]; rfl]
  refine joinOk_T ?_
  rw [flat_one, List.length_nil, Nat.mul_zero]; omega
end

noncomputable section
variable {c : Cx} {n : Nat} {P : Params}

/-- the objects of _law_turns -/
noncomputable def tnO (ns : List Int) (w : Str) (pos : Nat) (ln : Int) (pb : List Str) (js : List AO) : List AO := [
  .list (ns.map .int), .x (.tab [6, 8]), .cell (some (.ref 11)), .cell (some (.str w)), .cell (some (.ref 5)), .list [.int pos], .x (.code 0), .x (.fn 0 [("written", 3), ("at", 4)] 6 none), .x (.code 1), .x (.fn 1 [] 8 (some 10)), .x (.rdict 7),
  .x (.inst [("lineno", .int ln), ("instream", .ref 9), ("whitespace", .str wsS), ("pushback", .ref 12)]), .list (pb.map .str)] ++ js

noncomputable def tnπ : List Nat := [11, 12, 9, 10, 7, 4, 3, 5, 6, 8]

theorem lexClo {w : Str} {pos : Nat} {ln : Int} {pb : List Str} : ∀ o ∈ lexA w pos ln (pb.map .str) [], ∀ i ∈ o.refs, i < (lexA w pos ln (pb.map .str) []).length := by walk_at "clo"

theorem tnHeld {ns : List Int} {w : Str} {pos : Nat} {ln : Int} {pb : List Str} {js : List AO} {m : Nat} : Held (Mine.out tnπ m) (tnO ns w pos ln pb js) tnπ (lexA w pos ln (pb.map .str) []) := by
  refine ⟨rfl, ?_, rfl, rfl, rfl, rfl, rfl, rfl, rfl, rfl, trivial⟩
  show some (AO.list (pb.map .str)) = some (AO.list ((pb.map AV.str).map (AV.ren (Mine.out tnπ m))))
  rw [ren_strs]
theorem tnUpd {ns : List Int} {w : Str} {pos pos' : Nat} {ln ln' : Int} {pb pb' : List Str} {js : List AO} {m : Nat} : upd (Mine.out tnπ m) tnπ (lexA w pos' ln' (pb'.map .str) []) (tnO ns w pos ln pb js) ++ ([] : List AO).map (AO.ren (Mine.out tnπ m)) = tnO ns w pos' ln' pb' js := by
  show [AO.list (ns.map .int), _, _, _, _, _, _, _, _, _, _, _, AO.list ((pb'.map AV.str).map (AV.ren (Mine.out tnπ m)))] ++ js ++ [] = _
  rw [ren_strs, List.append_nil]; rfl
theorem tnCall {ns : List Int} {w : Str} {pos pos' : Nat} {ln ln' : Int} {pb pb' : List Str} {js : List AO} {f : Value} {args : List AV} {v : AV} (h : CallR c n f (.ref 0 :: args) (lexA w pos ln (pb.map .str) []) v (lexA w pos' ln' (pb'.map .str) [])) (ha : ∀ r, args.map (AV.ren r) = args) (hv : ∀ r, v.ren r = v) :
    CallR c n f (.ref 11 :: args) (tnO ns w pos ln pb js) v (tnO ns w pos' ln' pb' js) := by
  have := Op.frame (c := c) (n := n) (t := fun xs => call f xs) (args := .ref 0 :: args) (v := v) (os₀ := lexA w pos ln (pb.map .str) []) (π := tnπ) (os := tnO ns w pos ln pb js) (new := []) (os₀' := lexA w pos' ln' (pb'.map .str) []) (by rw [List.append_nil]; exact h) rfl (by decide) tnHeld lexClo
  exact Op.as this (congrArg (AV.ref 11 :: ·) (ha _)) (hv _) tnUpd

theorem lnK_one {l : List Nat} (h : ∀ x ∈ l, x ≠ 10) : ∀ {k : Nat}, k ≤ l.length → lnK l k = 1
  | 0, _ => rfl
  | k + 1, hk => by
    have hm : l.getD k 0 ∈ l := by rw [List.getD_eq_getElem?_getD, List.getElem?_eq_getElem (by omega)]; exact List.getElem_mem _
    show lnK l k + nl (l.getD k 0) = 1
    rw [lnK_one h (by omega)]; unfold nl; rw [if_neg (h _ hm)]; rfl
noncomputable def trT (l : List Nat) : List Str := (List.range l.length).map fun k => T (rot (k + 1) l)

/-- at the end of _law_turns -/
noncomputable def tnE (ns : List Int) (l : List Nat) : List AO := tnO ns (T (writtenL l ns)) (off l ns l.length) (lnK l l.length) (sgs (rot l.length l)) [.list ((sgs l).map .str), .list ((sgs l).map .str), .list ((trT l).map .str), .rng 0 l.length]

theorem sgs_snoc {l : List Nat} {x : Nat} : (sgs l).map AV.str ++ [AV.str (T [x])] = (sgs (l ++ [x])).map .str := by unfold sgs; simp
noncomputable def trQ (l : List Nat) (k : Nat) : List Str := (List.range k).map fun j => T (rot (j + 1) l)
theorem trQ_succ (l : List Nat) (k : Nat) : (trQ l k).map AV.str ++ [AV.str (T (rot (k + 1) l))] = (trQ l (k + 1)).map .str := by unfold trQ; rw [List.range_succ]; simp

set_option maxHeartbeats 4000000 in
theorem turnsD (hK : c.K = KK P) (hx : c.XR = XRof LL1) (M : Lm c LL1 76) {l : List Nat} {ns : List Int} (hl : l.length ≤ 200) (hn : ns.length ≤ 200) (h0 : 0 < ns.length) (hch : ∀ x ∈ l, x < 1000) (hc10 : ∀ x ∈ l, x ≠ 10) :
    CallR c (n + 10) (.ref 89) [.str (T l), .ref 0] [.list (ns.map .int), .x (.tab [])] (.ref 4) [.list (ns.map .int), .x (.tab [2, 3]), .x (.code 0), .x (.code 1), .list ((trT l).map .str)] := by
  have hz : sizeLine = 2 ^ 24 := sizeLine_eq
  have hzl : (T l).length ≤ sizeLine := by rw [T_len]; omega
  have hw : (writtenL l ns).length ≤ 1000 := by have := written_le l ns; omega
  refine Op.sel 2 [6, 8, 15] (v := .ref 15) (os₁ := tnE ns l) ?call rfl (by decide) ?held ?cl rfl
  case held => exact ⟨by show some (AO.list (ns.map .int)) = some (AO.list ((ns.map AV.int).map (AV.ren _))); rw [ren_ints], rfl, rfl, rfl, by show some (AO.list ((trT l).map .str)) = some (AO.list (((trT l).map AV.str).map (AV.ren _))); rw [ren_strs], trivial⟩
  case cl => walk_at "clo"
  refine CodeR.call ?_
  refine' CodeR.of_cells (ps := [Str.ofString "word", Str.ofString "numbers"]) (cn := [Str.ofString "ring"]) (σ' := ⟨[], tnE ns l⟩) (DefAt.of hK rfl rfl rfl rfl rfl rfl rfl rfl) rfl ?hcs ?nd ?bind ?hps ?hcn ?rr (Back.all)
  case hcs => exact fun _ => rfl
  case nd => decide
  case bind =>
    intro xs h
    obtain ⟨a, b, rfl⟩ := len2 h
    rfl
  case hps => decide
  case hcn => decide
  case rr =>
    have h1 : CallR c (n + 9) (.ref 84) [.str (T l), .ref 0] [.list (ns.map .int), .x (.tab []), .cell none] (.str (T (writtenL l ns))) [.list (ns.map .int), .x (.tab []), .cell none] := by
      have := Op.frame (new := []) (os₀ := [.list (ns.map .int)]) (os₀' := [.list (ns.map .int)]) (os := [.list (ns.map .int), .x (.tab []), .cell none]) (π := [0]) (by rw [List.append_nil]; exact writtenD (n := n + 7) hK hx hl hn h0) rfl (by decide) ⟨by show some (AO.list (ns.map .int)) = some (AO.list ((ns.map AV.int).map (AV.ren _))); rw [ren_ints], trivial⟩ (by walk_at "clo")
      refine Op.as this rfl rfl ?_
      show [AO.list ((ns.map AV.int).map (AV.ren (Mine.out [0] 3))), _, _] ++ [] = _
      rw [ren_ints]; rfl
    have h2 : CallR c (n + 9) (.ref 77) [.str (T (writtenL l ns))] [.list (ns.map .int), .x (.tab []), .cell none] (.ref 11) [.list (ns.map .int), .x (.tab [6, 8]), .cell none, .cell (some (.str (T (writtenL l ns)))), .cell (some (.ref 5)), .list [.int 0], .x (.code 0), .x (.fn 0 [("written", 3), ("at", 4)] 6 none), .x (.code 1), .x (.fn 1 [] 8 (some 10)), .x (.rdict 7),
        .x (.inst [("lineno", .int 1), ("instream", .ref 9), ("whitespace", .str wsS), ("pushback", .ref 12)]), .list []] := by
      have := Op.frame (os := [.list (ns.map .int), .x (.tab []), .cell none]) (π := [1]) (os₀' := [.x (.tab [4, 6])]) (new := (lex1 (T (writtenL l ns))).tail) (lexNew (n := n + 3) hK hx M) rfl (by decide) ⟨rfl, trivial⟩ (by walk_at "clo")
      exact this
    refine' (B1 hK hx).run 8 1 [(.str (T (writtenL l ns)), [.list (ns.map .int), .x (.tab []), .cell none]), (.ref 11, [.list (ns.map .int), .x (.tab [6, 8]), .cell none, .cell (some (.str (T (writtenL l ns)))), .cell (some (.ref 5)), .list [.int 0], .x (.code 0), .x (.fn 0 [("written", 3), ("at", 4)] 6 none), .x (.code 1), .x (.fn 1 [] 8 (some 10)), .x (.rdict 7),
        .x (.inst [("lineno", .int 1), ("instream", .ref 9), ("whitespace", .str wsS), ("pushback", .ref 12)]), .list []])] ⟨[("word", .str (T l)), ("numbers", .ref 0)], tnO ns (T (writtenL l ns)) 0 1 [] []⟩ rfl ?f1 ?s1 rfl ?r1
    case f1 => walk_at "ob2"
    case s1 => walk_at "sub"
    case r1 =>
      refine' Exs.cons (Ex.assignMap (vs := [("word", .str (T l)), ("numbers", .ref 0)]) (src := .str (T l)) l.length (fun k => tnO ns (T (writtenL l ns)) (off l ns k) (lnK l k) [] []) (fun k => .str (T [l.getD k 0])) (fun k => .str (T [l.getD k 0])) ?c1 .str ?c2 ?c3 ?c4 ?c5 ?c6 ?c7 ?c8 (sto_ok rfl) ?c10 ?c11) ?r2
      case c1 => exact (B1 hK hx).ev 5 [] rfl trivial rfl rfl
      case c2 => intro k hk; exact item_str hk
      case c3 => exact item_strE
      case c4 => exact trivial
      case c5 => rfl
      case c6 =>
        intro k hk
        refine ⟨_, (B1 hK hx).ev 8 [(.str (T [l.getD k 0]), tnO ns (T (writtenL l ns)) (off l ns (k + 1)) (lnK l (k + 1)) [] [])] rfl ?_ rfl rfl⟩
        obtain ⟨t, ht⟩ := drop_off l ns hk
        have hg := tnCall (ns := ns) (js := []) (pb := []) (pb' := []) (gtPiece (n := n + 5) hK hx (ln := lnK l k) hw ht) (fun _ => rfl) (fun _ => rfl)
        rw [← off_succ] at hg
        walk_at "ob2"
      case c7 => omega
      case c8 => exact compOk_of rfl rfl rfl rfl
      case c10 => exact fun env he => by cases env; dsimp only at he; subst he; rfl
      case c11 => exact fun _ _ => rfl
      rw [sgs_range]
      have hend := tnCall (n := n + 9) (ns := ns) (js := [.list ((sgs l).map .str), .list ((sgs l).map .str)]) (pb := []) (pb' := []) (gtEnd (n := n + 5) hK hx (w := T (writtenL l ns)) (pos := off l ns l.length) (ln := lnK l l.length) (by rw [T_len]; exact hw) (chAt_end (Nat.le_refl _))) (fun _ => rfl) (fun _ => rfl)
      have hok : (sgs l).all PyData.strOk = true := by
        rw [List.all_eq_true]
        intro x hx
        unfold sgs at hx
        obtain ⟨y, hy, rfl⟩ := List.mem_map.mp hx
        have := hch y hy
        show (T [y]).cps.all _ = true
        simp [T]; omega
      refine' Exs.fewer (σ₁ := ⟨[("word", .str (T l)), ("read", .ref 13)], tnO ns (T (writtenL l ns)) (off l ns l.length) (lnK l l.length) [] [.list ((sgs l).map .str)]⟩) (by walk_at "sub") rfl ?r3
      refine' (B1 hK hx).test 8 [(.ref 14, tnO ns (T (writtenL l ns)) (off l ns l.length) (lnK l l.length) [] [.list ((sgs l).map .str), .list ((sgs l).map .str)]), (.bool false, tnO ns (T (writtenL l ns)) (off l ns l.length) (lnK l l.length) [] [.list ((sgs l).map .str), .list ((sgs l).map .str)]), (.str "", tnO ns (T (writtenL l ns)) (off l ns l.length) (lnK l l.length) [] [.list ((sgs l).map .str), .list ((sgs l).map .str)])] false rfl ?d1 ?d2 ?r4
      case d1 =>
        walk_at "ob2"
        · exact list_str hzl
        · have := ne_ls (c := c) (n := n + 9) (i := 13) (j := 14) (os := tnO ns (T (writtenL l ns)) (off l ns l.length) (lnK l l.length) [] [.list ((sgs l).map .str), .list ((sgs l).map .str)]) (xs := sgs l) (ys := sgs l) rfl rfl hok hok
          rw [decide_eq_true rfl] at this
          exact this
      case d2 =>
        show (lnK l l.length != 1) = false
        rw [lnK_one hc10 (Nat.le_refl _)]; rfl
      case r4 =>
        refine' Exs.fewer (σ₁ := ⟨[("word", .str (T l)), ("read", .ref 13)], tnO ns (T (writtenL l ns)) (off l ns l.length) (lnK l l.length) (sgs (l.take 0)) [.list ((sgs l).map .str), .list ((sgs l).map .str)]⟩) (by walk_at "sub") rfl ?r5
        refine' Exs.cons (σ₁ := ⟨[("word", .str (T l)), ("read", .ref 13)], tnO ns (T (writtenL l ns)) (off l ns l.length) (lnK l l.length) (sgs (l.take l.length)) [.list ((sgs l).map .str), .list ((sgs l).map .str)]⟩) (Ex.for (a := .ref 13) (src := .list 13) (σ₁ := ⟨[("word", .str (T l)), ("read", .ref 13)], tnO ns (T (writtenL l ns)) (off l ns l.length) (lnK l l.length) (sgs (l.take 0)) [.list ((sgs l).map .str), .list ((sgs l).map .str)]⟩) ?e1 (.list rfl) (Lp.loop l.length (fun k => ⟨[("word", .str (T l)), ("read", .ref 13)], tnO ns (T (writtenL l ns)) (off l ns l.length) (lnK l l.length) (sgs (l.take k)) [.list ((sgs l).map .str), .list ((sgs l).map .str)]⟩) (fun k => .str (T [l.getD k 0])) ?e2 ?e3 ⟨_, rfl⟩ rfl rfl ?e4) ?e5) ?r6
        case e1 => exact (B1 hK hx).ev 5 [] rfl trivial rfl rfl
        case e5 => exact fun _ _ => rfl
        case e2 =>
          intro k hk
          show ((sgs l).map AV.str)[k]? = _
          unfold sgs
          rw [List.getElem?_map, List.getElem?_map, List.getElem?_eq_getElem hk, List.getD_eq_getElem?_getD, List.getElem?_eq_getElem hk]; rfl
        case e3 =>
          show ((sgs l).map AV.str)[l.length]? = _
          unfold sgs
          rw [List.getElem?_map, List.getElem?_map, List.getElem?_eq_none (Nat.le_refl _)]; rfl
        case e4 =>
          intro k hk
          have hpu := tnCall (n := n + 9) (ns := ns) (js := [.list ((sgs l).map .str), .list ((sgs l).map .str)]) (pb := sgs (l.take k)) (pb' := sgs (l.take (k + 1))) (by
            have := pushTok (n := n + 8) hK hx (w := T (writtenL l ns)) (t := T [l.getD k 0]) (pos := off l ns l.length) (ln := lnK l l.length) (pb := (sgs (l.take k)).map .str) (js := []) (by unfold sgs; simp; omega)
            rw [sgs_snoc, show l.take k ++ [l.getD k 0] = l.take (k + 1) by rw [List.take_add_one, List.getElem?_eq_getElem hk, List.getD_eq_getElem?_getD, List.getElem?_eq_getElem hk]; rfl] at this
            exact this) (fun _ => rfl) (fun _ => rfl)
          refine' (B1 hK hx).run 8 1 [(.none, tnO ns (T (writtenL l ns)) (off l ns l.length) (lnK l l.length) (sgs (l.take (k + 1))) [.list ((sgs l).map .str), .list ((sgs l).map .str)])] ⟨[("word", .str (T l)), ("read", .ref 13)], tnO ns (T (writtenL l ns)) (off l ns l.length) (lnK l l.length) (sgs (l.take (k + 1))) [.list ((sgs l).map .str), .list ((sgs l).map .str)]⟩ rfl ?m1 ?m2 rfl Exs.nil
          case m1 => walk_at "ob2"
          case m2 => walk_at "sub"
        case r6 =>
          have hj0 : l.take l.length = rot 0 l := by unfold rot; simp
          rw [hj0]
          refine' (B1 hK hx).run 8 1 [] ⟨[("word", .str (T l)), ("turns", .ref 15)], tnO ns (T (writtenL l ns)) (off l ns l.length) (lnK l l.length) (sgs (rot 0 l)) [.list ((sgs l).map .str), .list ((sgs l).map .str), .list ((trQ l 0).map .str)]⟩ rfl ?k1 ?k2 rfl ?r7
          case k1 => walk_at "ob2"
          case k2 => walk_at "sub"
          case r7 =>
            refine' Exs.cons (σ₁ := ⟨[("turns", .ref 15)], tnE ns l⟩) (Ex.for (a := .ref 16) (src := .rng 0 l.length) (σ₁ := ⟨[("word", .str (T l)), ("turns", .ref 15)], tnO ns (T (writtenL l ns)) (off l ns l.length) (lnK l l.length) (sgs (rot 0 l)) [.list ((sgs l).map .str), .list ((sgs l).map .str), .list ((trQ l 0).map .str), .rng 0 l.length]⟩) ?i1 (.rng rfl (small_rng (by omega))) (Lp.fewer (σ₁ := ⟨[("turns", .ref 15)], tnO ns (T (writtenL l ns)) (off l ns l.length) (lnK l l.length) (sgs (rot 0 l)) [.list ((sgs l).map .str), .list ((sgs l).map .str), .list ((trQ l 0).map .str), .rng 0 l.length]⟩) (by walk_at "sub") rfl <| Lp.loop l.length (fun k => ⟨[("turns", .ref 15)], tnO ns (T (writtenL l ns)) (off l ns l.length) (lnK l l.length) (sgs (rot k l)) [.list ((sgs l).map .str), .list ((sgs l).map .str), .list ((trQ l k).map .str), .rng 0 l.length]⟩) (fun k => .int k) ?i2 ?i3 trivial rfl rfl ?i4) ?i5) ?r8
            case i1 =>
              refine' (B1 hK hx).ev 8 [] rfl ?j1 rfl ?j2
              case j1 => walk_at "ob2"
              case j2 => rfl
            case i2 => exact fun k hk => item_rng hk
            case i3 => exact item_rngE
            case i5 => exact fun _ _ => rfl
            case i4 => 
              intro k hk
              have hlen1 : (sgs (l.drop (k + 1) ++ l.take k)).length + 1 ≤ 1000 := by unfold sgs; simp; omega
              have hg0 := gtPush (n := n + 8) hK hx (w := T (writtenL l ns)) (t := T [l.getD k 0]) (pos := off l ns l.length) (ln := lnK l l.length) (pb := (sgs (l.drop (k + 1) ++ l.take k)).map .str) (js := []) (by rw [List.length_map]; exact hlen1)
              have hp0 := pushTok (n := n + 8) hK hx (w := T (writtenL l ns)) (t := T [l.getD k 0]) (pos := off l ns l.length) (ln := lnK l l.length) (pb := (sgs (l.drop (k + 1) ++ l.take k)).map .str) (js := []) (by rw [List.length_map]; omega)
              rw [sgs_snoc, ← rot_next hk] at hp0
              have hg := tnCall (n := n + 9) (ns := ns) (js := [.list ((sgs l).map .str), .list ((sgs l).map .str), .list ((trQ l k).map .str), .rng 0 l.length]) (pb := sgs (rot k l)) (pb' := sgs (l.drop (k + 1) ++ l.take k)) (by rw [rot_head hk]; exact hg0) (fun _ => rfl) (fun _ => rfl)
              have hp := tnCall (n := n + 9) (ns := ns) (js := [.list ((sgs l).map .str), .list ((sgs l).map .str), .list ((trQ l k).map .str), .rng 0 l.length]) (pb' := sgs (rot (k + 1) l)) (pb := sgs (l.drop (k + 1) ++ l.take k)) hp0 (fun _ => rfl) (fun _ => rfl)
              have hjo : CallR c (n + 9) (.builtin "str.join") [.str (Str.ofString ""), .ref 12] (tnO ns (T (writtenL l ns)) (off l ns l.length) (lnK l l.length) (sgs (rot (k + 1) l)) [.list ((sgs l).map .str), .list ((sgs l).map .str), .list ((trQ l k).map .str), .rng 0 l.length]) (.str (T (rot (k + 1) l))) (tnO ns (T (writtenL l ns)) (off l ns l.length) (lnK l l.length) (sgs (rot (k + 1) l)) [.list ((sgs l).map .str), .list ((sgs l).map .str), .list ((trQ l k).map .str), .rng 0 l.length]) := by
                rw [T_nil, ← join_sgs (rot (k + 1) l)]
                exact join_s rfl (sgs_joinOk _ (by rw [rot_len (by omega)]; omega))
              have htz : ((trQ l k).map AV.str).length ≤ sizeLine := by unfold trQ; rw [List.length_map, List.length_map, List.length_range]; omega
              refine' (B1 hK hx).run 8 2 [(.str (T [l.getD k 0]), tnO ns (T (writtenL l ns)) (off l ns l.length) (lnK l l.length) (sgs (l.drop (k + 1) ++ l.take k)) [.list ((sgs l).map .str), .list ((sgs l).map .str), .list ((trQ l k).map .str), .rng 0 l.length]), (.none, tnO ns (T (writtenL l ns)) (off l ns l.length) (lnK l l.length) (sgs (rot (k + 1) l)) [.list ((sgs l).map .str), .list ((sgs l).map .str), .list ((trQ l k).map .str), .rng 0 l.length]),
                (.str (T (rot (k + 1) l)), tnO ns (T (writtenL l ns)) (off l ns l.length) (lnK l l.length) (sgs (rot (k + 1) l)) [.list ((sgs l).map .str), .list ((sgs l).map .str), .list ((trQ l k).map .str), .rng 0 l.length])]
                ⟨[("turns", .ref 15)], tnO ns (T (writtenL l ns)) (off l ns l.length) (lnK l l.length) (sgs (rot (k + 1) l)) [.list ((sgs l).map .str), .list ((sgs l).map .str), .list ((trQ l (k + 1)).map .str), .rng 0 l.length]⟩ rfl ?l1 ?l2 ?l3 Exs.nil
              case l1 => walk_at "ob2"
              case l2 => walk_at "sub"
              case l3 => rw [← trQ_succ]; rfl
            case r8 => exact (B1 hK hx).ret 5 [] rfl trivial rfl rfl
/-- the objects of _law_turns -/
noncomputable def tnOB (ns : List Int) (w : Str) (pos : Nat) (ln : Int) (pb : List Str) (js : List AO) : List AO := [
  .list (ns.map .int), .x (.tab [2, 3]), .x (.code 0), .x (.code 1), .cell (some (.ref 11)), .cell (some (.str w)), .cell (some (.ref 7)), .list [.int pos], .x (.fn 0 [("written", 5), ("at", 6)] 2 none), .x (.fn 1 [] 3 (some 10)), .x (.rdict 8),
  .x (.inst [("lineno", .int ln), ("instream", .ref 9), ("whitespace", .str wsS), ("pushback", .ref 12)]), .list (pb.map .str)] ++ js

noncomputable def tnσ : List Nat := [11, 12, 9, 10, 8, 6, 5, 7, 2, 3]

theorem tnHeldB {ns : List Int} {w : Str} {pos : Nat} {ln : Int} {pb : List Str} {js : List AO} {m : Nat} : Held (Mine.out tnσ m) (tnOB ns w pos ln pb js) tnσ (lexA w pos ln (pb.map .str) []) := by
  refine ⟨rfl, ?_, rfl, rfl, rfl, rfl, rfl, rfl, rfl, rfl, trivial⟩
  show some (AO.list (pb.map .str)) = some (AO.list ((pb.map AV.str).map (AV.ren (Mine.out tnσ m))))
  rw [ren_strs]
theorem tnUpdB {ns : List Int} {w : Str} {pos pos' : Nat} {ln ln' : Int} {pb pb' : List Str} {js : List AO} {m : Nat} : upd (Mine.out tnσ m) tnσ (lexA w pos' ln' (pb'.map .str) []) (tnOB ns w pos ln pb js) ++ ([] : List AO).map (AO.ren (Mine.out tnσ m)) = tnOB ns w pos' ln' pb' js := by
  show [AO.list (ns.map .int), _, _, _, _, _, _, _, _, _, _, _, AO.list ((pb'.map AV.str).map (AV.ren (Mine.out tnσ m)))] ++ js ++ [] = _
  rw [ren_strs, List.append_nil]; rfl
theorem tnCallB {ns : List Int} {w : Str} {pos pos' : Nat} {ln ln' : Int} {pb pb' : List Str} {js : List AO} {f : Value} {args : List AV} {v : AV} (h : CallR c n f (.ref 0 :: args) (lexA w pos ln (pb.map .str) []) v (lexA w pos' ln' (pb'.map .str) [])) (ha : ∀ r, args.map (AV.ren r) = args) (hv : ∀ r, v.ren r = v) :
    CallR c n f (.ref 11 :: args) (tnOB ns w pos ln pb js) v (tnOB ns w pos' ln' pb' js) := by
  have := Op.frame (c := c) (n := n) (t := fun xs => call f xs) (args := .ref 0 :: args) (v := v) (os₀ := lexA w pos ln (pb.map .str) []) (π := tnσ) (os := tnOB ns w pos ln pb js) (new := []) (os₀' := lexA w pos' ln' (pb'.map .str) []) (by rw [List.append_nil]; exact h) rfl (by decide) tnHeldB lexClo
  exact Op.as this (congrArg (AV.ref 11 :: ·) (ha _)) (hv _) tnUpdB

/-- at the end of _law_turns -/
noncomputable def tnEB (ns : List Int) (l : List Nat) : List AO := tnOB ns (T (writtenL l ns)) (off l ns l.length) (lnK l l.length) (sgs (rot l.length l)) [.list ((sgs l).map .str), .list ((sgs l).map .str), .list ((trT l).map .str), .rng 0 l.length]

set_option maxHeartbeats 4000000 in
theorem turnsDB (hK : c.K = KK P) (hx : c.XR = XRof LL1) (M : Lm c LL1 76) {l : List Nat} {ns : List Int} (hl : l.length ≤ 200) (hn : ns.length ≤ 200) (h0 : 0 < ns.length) (hch : ∀ x ∈ l, x < 1000) (hc10 : ∀ x ∈ l, x ≠ 10) :
    CallR c (n + 10) (.ref 89) [.str (T l), .ref 0] [.list (ns.map .int), .x (.tab [2, 3]), .x (.code 0), .x (.code 1)] (.ref 4) [.list (ns.map .int), .x (.tab [2, 3]), .x (.code 0), .x (.code 1), .list ((trT l).map .str)] := by
  have hz : sizeLine = 2 ^ 24 := sizeLine_eq
  have hzl : (T l).length ≤ sizeLine := by rw [T_len]; omega
  have hw : (writtenL l ns).length ≤ 1000 := by have := written_le l ns; omega
  refine Op.sel 4 [15] (v := .ref 15) (os₁ := tnEB ns l) ?call rfl (by decide) ?held ?cl rfl
  case held => exact ⟨by show some (AO.list (ns.map .int)) = some (AO.list ((ns.map AV.int).map (AV.ren _))); rw [ren_ints], rfl, rfl, rfl, by show some (AO.list ((trT l).map .str)) = some (AO.list (((trT l).map AV.str).map (AV.ren _))); rw [ren_strs], trivial⟩
  case cl => walk_at "clo"
  refine CodeR.call ?_
  refine' CodeR.of_cells (ps := [Str.ofString "word", Str.ofString "numbers"]) (cn := [Str.ofString "ring"]) (σ' := ⟨[], tnEB ns l⟩) (DefAt.of hK rfl rfl rfl rfl rfl rfl rfl rfl) rfl ?hcs ?nd ?bind ?hps ?hcn ?rr (Back.all)
  case hcs => exact fun _ => rfl
  case nd => decide
  case bind =>
    intro xs h
    obtain ⟨a, b, rfl⟩ := len2 h
    rfl
  case hps => decide
  case hcn => decide
  case rr =>
    have h1 : CallR c (n + 9) (.ref 84) [.str (T l), .ref 0] [.list (ns.map .int), .x (.tab [2, 3]), .x (.code 0), .x (.code 1), .cell none] (.str (T (writtenL l ns))) [.list (ns.map .int), .x (.tab [2, 3]), .x (.code 0), .x (.code 1), .cell none] := by
      have := Op.frame (new := []) (os₀ := [.list (ns.map .int)]) (os₀' := [.list (ns.map .int)]) (os := [.list (ns.map .int), .x (.tab [2, 3]), .x (.code 0), .x (.code 1), .cell none]) (π := [0]) (by rw [List.append_nil]; exact writtenD (n := n + 7) hK hx hl hn h0) rfl (by decide) ⟨by show some (AO.list (ns.map .int)) = some (AO.list ((ns.map AV.int).map (AV.ren _))); rw [ren_ints], trivial⟩ (by walk_at "clo")
      refine Op.as this rfl rfl ?_
      show [AO.list ((ns.map AV.int).map (AV.ren (Mine.out [0] 5))), _, _, _, _] ++ [] = _
      rw [ren_ints]; rfl
    have h2 : CallR c (n + 9) (.ref 77) [.str (T (writtenL l ns))] [.list (ns.map .int), .x (.tab [2, 3]), .x (.code 0), .x (.code 1), .cell none] (.ref 11) [.list (ns.map .int), .x (.tab [2, 3]), .x (.code 0), .x (.code 1), .cell none, .cell (some (.str (T (writtenL l ns)))), .cell (some (.ref 7)), .list [.int 0], .x (.fn 0 [("written", 5), ("at", 6)] 2 none), .x (.fn 1 [] 3 (some 10)), .x (.rdict 8),
        .x (.inst [("lineno", .int 1), ("instream", .ref 9), ("whitespace", .str wsS), ("pushback", .ref 12)]), .list []] := by
      have := Op.frame (os := [.list (ns.map .int), .x (.tab [2, 3]), .x (.code 0), .x (.code 1), .cell none]) (π := [1, 2, 3]) (os₀' := [.x (.tab [1, 2]), .x (.code 0), .x (.code 1)]) (new := (lex2 (T (writtenL l ns))).drop 3) (lexHit (n := n + 3) hK hx M) rfl (by decide) ⟨rfl, rfl, rfl, trivial⟩ (by walk_at "clo")
      exact this
    refine' (B1 hK hx).run 8 1 [(.str (T (writtenL l ns)), [.list (ns.map .int), .x (.tab [2, 3]), .x (.code 0), .x (.code 1), .cell none]), (.ref 11, [.list (ns.map .int), .x (.tab [2, 3]), .x (.code 0), .x (.code 1), .cell none, .cell (some (.str (T (writtenL l ns)))), .cell (some (.ref 7)), .list [.int 0], .x (.fn 0 [("written", 5), ("at", 6)] 2 none), .x (.fn 1 [] 3 (some 10)), .x (.rdict 8),
        .x (.inst [("lineno", .int 1), ("instream", .ref 9), ("whitespace", .str wsS), ("pushback", .ref 12)]), .list []])] ⟨[("word", .str (T l)), ("numbers", .ref 0)], tnOB ns (T (writtenL l ns)) 0 1 [] []⟩ rfl ?f1 ?s1 rfl ?r1
    case f1 => walk_at "ob2"
    case s1 => walk_at "sub"
    case r1 =>
      refine' Exs.cons (Ex.assignMap (vs := [("word", .str (T l)), ("numbers", .ref 0)]) (src := .str (T l)) l.length (fun k => tnOB ns (T (writtenL l ns)) (off l ns k) (lnK l k) [] []) (fun k => .str (T [l.getD k 0])) (fun k => .str (T [l.getD k 0])) ?c1 .str ?c2 ?c3 ?c4 ?c5 ?c6 ?c7 ?c8 (sto_ok rfl) ?c10 ?c11) ?r2
      case c1 => exact (B1 hK hx).ev 5 [] rfl trivial rfl rfl
      case c2 => intro k hk; exact item_str hk
      case c3 => exact item_strE
      case c4 => exact trivial
      case c5 => rfl
      case c6 =>
        intro k hk
        refine ⟨_, (B1 hK hx).ev 8 [(.str (T [l.getD k 0]), tnOB ns (T (writtenL l ns)) (off l ns (k + 1)) (lnK l (k + 1)) [] [])] rfl ?_ rfl rfl⟩
        obtain ⟨t, ht⟩ := drop_off l ns hk
        have hg := tnCallB (ns := ns) (js := []) (pb := []) (pb' := []) (gtPiece (n := n + 5) hK hx (ln := lnK l k) hw ht) (fun _ => rfl) (fun _ => rfl)
        rw [← off_succ] at hg
        walk_at "ob2"
      case c7 => omega
      case c8 => exact compOk_of rfl rfl rfl rfl
      case c10 => exact fun env he => by cases env; dsimp only at he; subst he; rfl
      case c11 => exact fun _ _ => rfl
      rw [sgs_range]
      have hend := tnCallB (n := n + 9) (ns := ns) (js := [.list ((sgs l).map .str), .list ((sgs l).map .str)]) (pb := []) (pb' := []) (gtEnd (n := n + 5) hK hx (w := T (writtenL l ns)) (pos := off l ns l.length) (ln := lnK l l.length) (by rw [T_len]; exact hw) (chAt_end (Nat.le_refl _))) (fun _ => rfl) (fun _ => rfl)
      have hok : (sgs l).all PyData.strOk = true := by
        rw [List.all_eq_true]
        intro x hx
        unfold sgs at hx
        obtain ⟨y, hy, rfl⟩ := List.mem_map.mp hx
        have := hch y hy
        show (T [y]).cps.all _ = true
        simp [T]; omega
      refine' Exs.fewer (σ₁ := ⟨[("word", .str (T l)), ("read", .ref 13)], tnOB ns (T (writtenL l ns)) (off l ns l.length) (lnK l l.length) [] [.list ((sgs l).map .str)]⟩) (by walk_at "sub") rfl ?r3
      refine' (B1 hK hx).test 8 [(.ref 14, tnOB ns (T (writtenL l ns)) (off l ns l.length) (lnK l l.length) [] [.list ((sgs l).map .str), .list ((sgs l).map .str)]), (.bool false, tnOB ns (T (writtenL l ns)) (off l ns l.length) (lnK l l.length) [] [.list ((sgs l).map .str), .list ((sgs l).map .str)]), (.str "", tnOB ns (T (writtenL l ns)) (off l ns l.length) (lnK l l.length) [] [.list ((sgs l).map .str), .list ((sgs l).map .str)])] false rfl ?d1 ?d2 ?r4
      case d1 =>
        walk_at "ob2"
        · exact list_str hzl
        · have := ne_ls (c := c) (n := n + 9) (i := 13) (j := 14) (os := tnOB ns (T (writtenL l ns)) (off l ns l.length) (lnK l l.length) [] [.list ((sgs l).map .str), .list ((sgs l).map .str)]) (xs := sgs l) (ys := sgs l) rfl rfl hok hok
          rw [decide_eq_true rfl] at this
          exact this
      case d2 =>
        show (lnK l l.length != 1) = false
        rw [lnK_one hc10 (Nat.le_refl _)]; rfl
      case r4 =>
        refine' Exs.fewer (σ₁ := ⟨[("word", .str (T l)), ("read", .ref 13)], tnOB ns (T (writtenL l ns)) (off l ns l.length) (lnK l l.length) (sgs (l.take 0)) [.list ((sgs l).map .str), .list ((sgs l).map .str)]⟩) (by walk_at "sub") rfl ?r5
        refine' Exs.cons (σ₁ := ⟨[("word", .str (T l)), ("read", .ref 13)], tnOB ns (T (writtenL l ns)) (off l ns l.length) (lnK l l.length) (sgs (l.take l.length)) [.list ((sgs l).map .str), .list ((sgs l).map .str)]⟩) (Ex.for (a := .ref 13) (src := .list 13) (σ₁ := ⟨[("word", .str (T l)), ("read", .ref 13)], tnOB ns (T (writtenL l ns)) (off l ns l.length) (lnK l l.length) (sgs (l.take 0)) [.list ((sgs l).map .str), .list ((sgs l).map .str)]⟩) ?e1 (.list rfl) (Lp.loop l.length (fun k => ⟨[("word", .str (T l)), ("read", .ref 13)], tnOB ns (T (writtenL l ns)) (off l ns l.length) (lnK l l.length) (sgs (l.take k)) [.list ((sgs l).map .str), .list ((sgs l).map .str)]⟩) (fun k => .str (T [l.getD k 0])) ?e2 ?e3 ⟨_, rfl⟩ rfl rfl ?e4) ?e5) ?r6
        case e1 => exact (B1 hK hx).ev 5 [] rfl trivial rfl rfl
        case e5 => exact fun _ _ => rfl
        case e2 =>
          intro k hk
          show ((sgs l).map AV.str)[k]? = _
          unfold sgs
          rw [List.getElem?_map, List.getElem?_map, List.getElem?_eq_getElem hk, List.getD_eq_getElem?_getD, List.getElem?_eq_getElem hk]; rfl
        case e3 =>
          show ((sgs l).map AV.str)[l.length]? = _
          unfold sgs
          rw [List.getElem?_map, List.getElem?_map, List.getElem?_eq_none (Nat.le_refl _)]; rfl
        case e4 =>
          intro k hk
          have hpu := tnCallB (n := n + 9) (ns := ns) (js := [.list ((sgs l).map .str), .list ((sgs l).map .str)]) (pb := sgs (l.take k)) (pb' := sgs (l.take (k + 1))) (by
            have := pushTok (n := n + 8) hK hx (w := T (writtenL l ns)) (t := T [l.getD k 0]) (pos := off l ns l.length) (ln := lnK l l.length) (pb := (sgs (l.take k)).map .str) (js := []) (by unfold sgs; simp; omega)
            rw [sgs_snoc, show l.take k ++ [l.getD k 0] = l.take (k + 1) by rw [List.take_add_one, List.getElem?_eq_getElem hk, List.getD_eq_getElem?_getD, List.getElem?_eq_getElem hk]; rfl] at this
            exact this) (fun _ => rfl) (fun _ => rfl)
          refine' (B1 hK hx).run 8 1 [(.none, tnOB ns (T (writtenL l ns)) (off l ns l.length) (lnK l l.length) (sgs (l.take (k + 1))) [.list ((sgs l).map .str), .list ((sgs l).map .str)])] ⟨[("word", .str (T l)), ("read", .ref 13)], tnOB ns (T (writtenL l ns)) (off l ns l.length) (lnK l l.length) (sgs (l.take (k + 1))) [.list ((sgs l).map .str), .list ((sgs l).map .str)]⟩ rfl ?m1 ?m2 rfl Exs.nil
          case m1 => walk_at "ob2"
          case m2 => walk_at "sub"
        case r6 =>
          have hj0 : l.take l.length = rot 0 l := by unfold rot; simp
          rw [hj0]
          refine' (B1 hK hx).run 8 1 [] ⟨[("word", .str (T l)), ("turns", .ref 15)], tnOB ns (T (writtenL l ns)) (off l ns l.length) (lnK l l.length) (sgs (rot 0 l)) [.list ((sgs l).map .str), .list ((sgs l).map .str), .list ((trQ l 0).map .str)]⟩ rfl ?k1 ?k2 rfl ?r7
          case k1 => walk_at "ob2"
          case k2 => walk_at "sub"
          case r7 =>
            refine' Exs.cons (σ₁ := ⟨[("turns", .ref 15)], tnEB ns l⟩) (Ex.for (a := .ref 16) (src := .rng 0 l.length) (σ₁ := ⟨[("word", .str (T l)), ("turns", .ref 15)], tnOB ns (T (writtenL l ns)) (off l ns l.length) (lnK l l.length) (sgs (rot 0 l)) [.list ((sgs l).map .str), .list ((sgs l).map .str), .list ((trQ l 0).map .str), .rng 0 l.length]⟩) ?i1 (.rng rfl (small_rng (by omega))) (Lp.fewer (σ₁ := ⟨[("turns", .ref 15)], tnOB ns (T (writtenL l ns)) (off l ns l.length) (lnK l l.length) (sgs (rot 0 l)) [.list ((sgs l).map .str), .list ((sgs l).map .str), .list ((trQ l 0).map .str), .rng 0 l.length]⟩) (by walk_at "sub") rfl <| Lp.loop l.length (fun k => ⟨[("turns", .ref 15)], tnOB ns (T (writtenL l ns)) (off l ns l.length) (lnK l l.length) (sgs (rot k l)) [.list ((sgs l).map .str), .list ((sgs l).map .str), .list ((trQ l k).map .str), .rng 0 l.length]⟩) (fun k => .int k) ?i2 ?i3 trivial rfl rfl ?i4) ?i5) ?r8
            case i1 =>
              refine' (B1 hK hx).ev 8 [] rfl ?j1 rfl ?j2
              case j1 => walk_at "ob2"
              case j2 => rfl
            case i2 => exact fun k hk => item_rng hk
            case i3 => exact item_rngE
            case i5 => exact fun _ _ => rfl
            case i4 => 
              intro k hk
              have hlen1 : (sgs (l.drop (k + 1) ++ l.take k)).length + 1 ≤ 1000 := by unfold sgs; simp; omega
              have hg0 := gtPush (n := n + 8) hK hx (w := T (writtenL l ns)) (t := T [l.getD k 0]) (pos := off l ns l.length) (ln := lnK l l.length) (pb := (sgs (l.drop (k + 1) ++ l.take k)).map .str) (js := []) (by rw [List.length_map]; exact hlen1)
              have hp0 := pushTok (n := n + 8) hK hx (w := T (writtenL l ns)) (t := T [l.getD k 0]) (pos := off l ns l.length) (ln := lnK l l.length) (pb := (sgs (l.drop (k + 1) ++ l.take k)).map .str) (js := []) (by rw [List.length_map]; omega)
              rw [sgs_snoc, ← rot_next hk] at hp0
              have hg := tnCallB (n := n + 9) (ns := ns) (js := [.list ((sgs l).map .str), .list ((sgs l).map .str), .list ((trQ l k).map .str), .rng 0 l.length]) (pb := sgs (rot k l)) (pb' := sgs (l.drop (k + 1) ++ l.take k)) (by rw [rot_head hk]; exact hg0) (fun _ => rfl) (fun _ => rfl)
              have hp := tnCallB (n := n + 9) (ns := ns) (js := [.list ((sgs l).map .str), .list ((sgs l).map .str), .list ((trQ l k).map .str), .rng 0 l.length]) (pb' := sgs (rot (k + 1) l)) (pb := sgs (l.drop (k + 1) ++ l.take k)) hp0 (fun _ => rfl) (fun _ => rfl)
              have hjo : CallR c (n + 9) (.builtin "str.join") [.str (Str.ofString ""), .ref 12] (tnOB ns (T (writtenL l ns)) (off l ns l.length) (lnK l l.length) (sgs (rot (k + 1) l)) [.list ((sgs l).map .str), .list ((sgs l).map .str), .list ((trQ l k).map .str), .rng 0 l.length]) (.str (T (rot (k + 1) l))) (tnOB ns (T (writtenL l ns)) (off l ns l.length) (lnK l l.length) (sgs (rot (k + 1) l)) [.list ((sgs l).map .str), .list ((sgs l).map .str), .list ((trQ l k).map .str), .rng 0 l.length]) := by
                rw [T_nil, ← join_sgs (rot (k + 1) l)]
                exact join_s rfl (sgs_joinOk _ (by rw [rot_len (by omega)]; omega))
              have htz : ((trQ l k).map AV.str).length ≤ sizeLine := by unfold trQ; rw [List.length_map, List.length_map, List.length_range]; omega
              refine' (B1 hK hx).run 8 2 [(.str (T [l.getD k 0]), tnOB ns (T (writtenL l ns)) (off l ns l.length) (lnK l l.length) (sgs (l.drop (k + 1) ++ l.take k)) [.list ((sgs l).map .str), .list ((sgs l).map .str), .list ((trQ l k).map .str), .rng 0 l.length]), (.none, tnOB ns (T (writtenL l ns)) (off l ns l.length) (lnK l l.length) (sgs (rot (k + 1) l)) [.list ((sgs l).map .str), .list ((sgs l).map .str), .list ((trQ l k).map .str), .rng 0 l.length]),
                (.str (T (rot (k + 1) l)), tnOB ns (T (writtenL l ns)) (off l ns l.length) (lnK l l.length) (sgs (rot (k + 1) l)) [.list ((sgs l).map .str), .list ((sgs l).map .str), .list ((trQ l k).map .str), .rng 0 l.length])]
                ⟨[("turns", .ref 15)], tnOB ns (T (writtenL l ns)) (off l ns l.length) (lnK l l.length) (sgs (rot (k + 1) l)) [.list ((sgs l).map .str), .list ((sgs l).map .str), .list ((trQ l (k + 1)).map .str), .rng 0 l.length]⟩ rfl ?l1 ?l2 ?l3 Exs.nil
              case l1 => walk_at "ob2"
              case l2 => walk_at "sub"
              case l3 => rw [← trQ_succ]; rfl
            case r8 => exact (B1 hK hx).ret 5 [] rfl trivial rfl rfl
end

noncomputable section
variable {c : Cx} {n : Nat} {P : Params}

theorem range_map {α β : Type} (xs : List α) (d : α) (f : α → β) : (List.range xs.length).map (fun k => f (xs.getD k d)) = xs.map f := by
  apply List.ext_getElem?
  intro i
  rw [List.getElem?_map, List.getElem?_map]
  by_cases hi : i < xs.length
  · rw [List.getElem?_range hi, List.getElem?_eq_getElem hi]
    show some (f (xs.getD i d)) = some (f xs[i])
    rw [List.getD_eq_getElem?_getD, List.getElem?_eq_getElem hi]; rfl
  · rw [List.getElem?_eq_none (by rw [List.length_range]; omega), List.getElem?_eq_none (by omega)]; rfl
/-! ### _law_undoing -/
noncomputable def undo (x : Nat) : Nat := if x = 97 then 34 else if x = 34 then 97 else if x = 32 then 92 else 32
noncomputable def Four (l : List Nat) : Prop := ∀ x ∈ l, x = 97 ∨ x = 34 ∨ x = 32 ∨ x = 92
noncomputable def undL (l : List Nat) : List Nat := l.reverse.map undo
theorem look_undo {x : Nat} (h : x = 97 ∨ x = 34 ∨ x = 32 ∨ x = 92) : [(Str.ofString "a", Str.ofString "\""), (Str.ofString "\"", Str.ofString "a"), (Str.ofString " ", Str.ofString "\\"), (Str.ofString "\\", Str.ofString " ")].lookup (T [x]) = some (T [undo x]) := by
  rcases h with rfl | rfl | rfl | rfl <;> decide +kernel

theorem undoingD (hK : c.K = KK P) (hx : c.XR = XRof LL1) {l : List Nat} (hl : l.length ≤ 200) (h4 : Four l) : CallR c (n + 2) (.ref 94) [.str (T l)] [] (.str (T (undL l))) [] := by
  have hz : sizeLine = 2 ^ 24 := sizeLine_eq
  have hzl : (T l).length ≤ sizeLine := by rw [T_len]; omega
  have hjo : CallR c (n + 1) (.builtin "str.join") [.str (Str.ofString ""), .ref 0] [.list ((sgs (undL l)).map .str)] (.str (T (undL l))) [.list ((sgs (undL l)).map .str)] := by
    rw [T_nil, ← join_sgs (undL l)]
    exact join_s rfl (sgs_joinOk _ (by unfold undL; rw [List.length_map, List.length_reverse]; omega))
  have hacc : (List.range l.reverse.length).map (fun k => AV.str (T [undo (l.reverse.getD k 0)])) = (sgs (undL l)).map .str := by
    rw [range_map l.reverse 0 (fun x => AV.str (T [undo x]))]; unfold sgs undL; rw [List.map_map, List.map_map]; rfl
  refine' CallR.of_def (ps := [Str.ofString "word"]) (σ' := ⟨[], [.list ((sgs (undL l)).map .str)]⟩) (DefAt.of hK rfl rfl rfl rfl rfl rfl rfl rfl) (by decide) ?bind (by decide) ?r (Back.val (os' := []) rfl ?cl rfl)
  case cl => walk_at "clo"
  case bind =>
    intro xs h
    obtain ⟨a, rfl⟩ := len1 h
    rfl
  case r =>
    refine' (B1 hK hx).ret 8 [(.ref 0, [.list ((sgs (undL l)).map .str)]), (.str (T (undL l)), [.list ((sgs (undL l)).map .str)])] rfl ?m1 rfl rfl
    walk_at "ob2"
    refine' Ev.mapAs (src := .str (T l.reverse)) (a := .str (T l.reverse)) (vs := [("word", .str (T l))]) l.reverse.length (fun _ => []) (fun k => .str (T [l.reverse.getD k 0])) (fun k => .str (T [undo (l.reverse.getD k 0)])) _ hacc ?h1 .str (fun k hk => item_str hk) item_strE trivial rfl ?turn (by rw [List.length_reverse]; omega) (compOk_of rfl rfl rfl rfl) (fun _ _ => rfl)
    case h1 =>
      refine' (B1 hK hx).ev 8 [(.str (T l.reverse), [])] rfl ?g1 rfl rfl
      walk_at "ob2"
      exact slice_sr hzl
    case turn =>
      intro k hk
      have hm : l.reverse.getD k 0 ∈ l.reverse := by rw [List.getD_eq_getElem?_getD, List.getElem?_eq_getElem hk]; exact List.getElem_mem hk
      exact Ev.dictTurn (evDict4 (by decide +kernel)) ((B1 hK hx).ev 5 [] rfl trivial rfl rfl) (look_undo (h4 _ (List.mem_reverse.mp hm)))
end

noncomputable section
variable {c : Cx} {n : Nat} {P : Params}

/-! ### _law_cancelled -/
theorem flatPs_ren' (r : Nat → Nat) : ∀ ps : List (List Nat × List Nat), (flatPs ps).map (AV.ren r) = flatPs ps
  | [] => rfl
  | q :: t => by show AV.str _ :: AV.str _ :: (flatPs t).map (AV.ren r) = _; rw [flatPs_ren' r t]; rfl
theorem flatPs_refs' : ∀ ps : List (List Nat × List Nat), AVs.refs (flatPs ps) = []
  | [] => rfl
  | q :: t => by show AVs.refs (flatPs t) = []; exact flatPs_refs' t
theorem refs_flat' {m : Nat} {ps : List (List Nat × List Nat)} : RefsLt m (AO.list (flatPs ps)).refs := fun i hi => by
  rw [show (AO.list (flatPs ps)).refs = [] from flatPs_refs' ps] at hi; cases hi
theorem flatPs_app : ∀ a b : List (List Nat × List Nat), flatPs (a ++ b) = flatPs a ++ flatPs b
  | [], _ => rfl
  | q :: t, b => by show AV.str _ :: AV.str _ :: flatPs (t ++ b) = _; rw [flatPs_app t b]; rfl
theorem flatPs_rep (ps : List (List Nat × List Nat)) : ∀ k, flatPs (List.replicate k ps).flatten = (List.replicate k (flatPs ps)).flatten
  | 0 => rfl
  | k + 1 => by rw [List.replicate_succ, List.replicate_succ, List.flatten_cons, List.flatten_cons, flatPs_app, flatPs_rep ps k]

theorem replAny (hK : c.K = KK P) (hx : c.XR = XRof LL1) (ps : List (List Nat × List Nat)) (l : List Nat) (os : List AO) (hn : ps.length ≤ 1000) (hok : ReplOk ps l) : CallR c (n + 2) (.ref 70) (.str (T l) :: flatPs ps) os (.str (T (replAll ps l))) os := by
  refine Op.bare (replaceD hK hx ps l hn hok fun d x xs hxs hd => ?_) (fun r => ?_) fun _ => rfl
  · obtain ⟨o, od, sl, hd⟩ := hd
    have hd' : (KK P).lookup 70 = some ⟨_, _, .func _, _⟩ := rfl
    rw [hd'] at hd
    cases hd
    match xs with
    | [] => rfl
    | y :: ys => rfl
  · rw [List.map_cons, flatPs_ren']; rfl

theorem Ev.replN (hK : c.K = KK P) (hx : c.XR = XRof LL1) {fd : FD} {ps : List (List Nat × List Nat)} {l : List Nat} {σ σ₁ : S} {i : Nat} {p1 p2 pos : Pos} {e1 e2 : Expr} (hn : ps.length ≤ 1000) (hok : ReplOk ps l)
    (h0 : Ev c (n + 2) fd (.Name "replace" p1) σ (.lit (.ref 70)) σ) (h1 : Ev c (n + 2) fd e1 σ (.str (T l)) σ) (h2 : Ev c (n + 2) fd e2 σ (.ref i) σ₁) (ho : σ₁.os[i]? = some (.list (flatPs ps))) (hpl : ∀ env, starEach (e1 :: [.Starred e2 p2]) env = (false, eval e1 env) :: starEach [.Starred e2 p2] env) :
    Ev c (n + 2) fd (.Call (.Name "replace" p1) [e1, .Starred e2 p2] [] pos) σ (.str (T (replAll ps l))) σ₁ := by
  have hargs : Evs c (n + 2) fd [e1, .Starred e2 p2] σ (.str (T l) :: flatPs ps) σ₁ := by
    have := Evs.cons h1 (Evs.star (p := p2) h2 ho (by rw [flatPs_len, sizeLine_eq]; omega) Evs.nil) hpl
    rwa [List.append_nil] at this
  obtain ⟨d, body, D⟩ : ∃ d body, DefAt c 70 d body := ⟨_, _, DefAt.of hK rfl rfl rfl rfl rfl rfl rfl rfl⟩
  obtain ⟨o, ho1, ho2⟩ := D.there
  exact Ev.call h0 hargs (.kp (by rw [hK]; rfl)) (replAny hK hx ps l σ₁.os hn hok) (.cons hpl) (.inr ⟨70, o, d, rfl, ho1, ho2⟩)

/-- the pairs, over and over -/
noncomputable def overP (ps : List (List Nat × List Nat)) (l : List Nat) : List (List Nat × List Nat) := (List.replicate (l.length / 2 + 1) ps).flatten
noncomputable def cancL (ps : List (List Nat × List Nat)) (l : List Nat) : List Nat := replAll (overP ps l) l
theorem overP_len (ps : List (List Nat × List Nat)) (l : List Nat) : (overP ps l).length = (l.length / 2 + 1) * ps.length := by
  unfold overP; simp

theorem cancelledD (hK : c.K = KK P) (hx : c.XR = XRof LL1) {ps : List (List Nat × List Nat)} {l : List Nat} (hl : l.length ≤ 30) (hps : ps.length = 4) (hok : ReplOk (overP ps l) l) :
    CallR c (n + 3) (.ref 101) [.str (T l), .ref 0] [.list (flatPs ps)] (.str (T (cancL ps l))) [.list (flatPs ps)] := by
  have hz : sizeLine = 2 ^ 24 := sizeLine_eq
  have hzl : (T l).length ≤ sizeLine := by rw [T_len]; omega
  have hov := overP_len ps l
  rw [hps] at hov
  have hfl := flatPs_len (overP ps l)
  refine' CallR.of_def (ps := [Str.ofString "word", Str.ofString "pairs"]) (σ' := ⟨[], [.list (flatPs ps), .list (flatPs (overP ps l))]⟩) (DefAt.of hK rfl rfl rfl rfl rfl rfl rfl rfl) (by decide) ?bind (by decide) ?r (Back.val (os' := [.list (flatPs ps)]) rfl ?cl rfl)
  case cl =>
    have e1 := refs_flat' (m := 1) (ps := ps)
    walk_at "clo"
  case bind =>
    intro xs h
    obtain ⟨a, b, rfl⟩ := len2 h
    rfl
  case r =>
    refine' (B1 hK hx).ret 8 [(.str (T (cancL ps l)), [.list (flatPs ps), .list (flatPs (overP ps l))])] rfl ?m1 rfl rfl
    walk_at "ob2"
    have hk : (l.length / 2 + 1) * 8 ≤ 200 := by omega
    refine' Ev.replN hK hx (ps := overP ps l) (l := l) (i := 1) (by omega) hok ?a1 ?a2 ?a3 rfl ?a4
    case a1 => exact (B1 hK hx).ev 5 [] rfl trivial rfl rfl
    case a2 => exact (B1 hK hx).ev 5 [] rfl trivial rfl rfl
    case a4 => exact fun _ => rfl
    case a3 =>
      refine' (B1 hK hx).ev 8 [(.ref 1, [.list (flatPs ps), .list (flatPs (overP ps l))])] rfl ?g1 rfl rfl
      walk_at "ob2"
      have := mul_l (c := c) (n := n + 2) (i := 0) (k := l.length / 2 + 1) (os := [.list (flatPs ps)]) rfl (by rw [flatPs_len, hps]; omega) (by omega)
      rw [← flatPs_rep] at this
      rw [T_len, show Int.fdiv (l.length : Int) 2 + 1 = ((l.length / 2 + 1 : Nat) : Int) by rw [Int.fdiv_eq_ediv_of_nonneg _ (by omega)]; omega]
      exact this
end

noncomputable section
variable {c : Cx} {n : Nat} {P : Params}

/-! ### _law_pile -/
noncomputable def pputN (p : List Nat) (x : Nat) : List Nat := if p.getLast? = some (undo x) then p.dropLast else p ++ [x]
noncomputable def pileN (l : List Nat) : List Nat := l.foldl pputN []
noncomputable def pileK (l : List Nat) (k : Nat) : List Nat := pileN (l.take k)
theorem pileK_succ {l : List Nat} {k : Nat} (hk : k < l.length) : pileK l (k + 1) = pputN (pileK l k) (l.getD k 0) := by
  unfold pileK pileN
  rw [List.take_add_one, List.getElem?_eq_getElem hk, List.foldl_append, List.getD_eq_getElem?_getD, List.getElem?_eq_getElem hk]; rfl
theorem pput_four {p : List Nat} {x : Nat} (hp : Four p) (hx : x = 97 ∨ x = 34 ∨ x = 32 ∨ x = 92) : Four (pputN p x) := by
  unfold pputN
  split
  · exact fun y hy => hp y (List.dropLast_subset _ hy)
  · intro y hy
    rcases List.mem_append.mp hy with hy | hy
    · exact hp y hy
    · rw [List.mem_singleton] at hy; rw [hy]; exact hx
theorem getD_mem {l : List Nat} {k : Nat} (hk : k < l.length) : l.getD k 0 ∈ l := by rw [List.getD_eq_getElem?_getD, List.getElem?_eq_getElem hk]; exact List.getElem_mem hk
theorem pileK_four {l : List Nat} (h : Four l) : ∀ k, k ≤ l.length → Four (pileK l k) ∧ (pileK l k).length ≤ k
  | 0, _ => by
    refine ⟨fun x hx => ?_, Nat.le_refl _⟩
    cases hx
  | k + 1, hk => by
    have ih := pileK_four h k (by omega)
    rw [pileK_succ (by omega)]
    refine ⟨pput_four ih.1 (h _ (getD_mem (by omega))), ?_⟩
    unfold pputN
    split
    · rw [List.length_dropLast]; omega
    · rw [List.length_append]; simp; omega
theorem four_lt {l : List Nat} (h : Four l) : ∀ x ∈ l, x < 1000 ∧ x ≠ 10 := fun x hx => by rcases h x hx with e | e | e | e <;> rw [e] <;> decide
theorem sgs_ok {l : List Nat} (h : Four l) : (sgs l).all PyData.strOk = true := by
  rw [List.all_eq_true]
  intro x hx
  unfold sgs at hx
  obtain ⟨y, hy, rfl⟩ := List.mem_map.mp hx
  have := (four_lt h y hy).1
  show (T [y]).cps.all _ = true
  simp [T]; omega
theorem undoOne (hK : c.K = KK P) (hx : c.XR = XRof LL1) {x : Nat} (h : x = 97 ∨ x = 34 ∨ x = 32 ∨ x = 92) {os : List AO} : CallR c (n + 2) (.ref 94) [.str (T [x])] os (.str (T [undo x])) os :=
  Op.bare (undoingD (l := [x]) hK hx (by simp) fun y hy => by rw [List.mem_singleton] at hy; rw [hy]; exact h) (fun _ => rfl) fun _ => rfl

theorem sgs_last {p : List Nat} (h : p ≠ []) : (sgs p).map AV.str = (sgs p.dropLast).map AV.str ++ [AV.str (T [p.getLast h])] := by
  rw [sgs_snoc, List.dropLast_concat_getLast h]
theorem Ev.lastL {fd : FD} {σ : S} {value slice : Expr} {pos : Pos} {i : Nat} {xs : List AV} {x : AV} (h1 : Ev c n fd value σ (.ref i) σ) (h2 : Ev c n fd slice σ (.int (-1)) σ) (ho : σ.os[i]? = some (.list (xs ++ [x]))) (hz : xs.length < 1000000)
    (hsub : ∀ o i, subscripted slice false o i = operate [o, i] (getItem o i)) : Ev c n fd (.Subscript value slice pos) σ x σ :=
  Ev.sub h1 h2 (.list ho) (item_ln ho (by decide) (by simp; omega) (by decide) (by
    rw [List.length_append, show ((-1 : Int) + ((xs.length + [x].length : Nat) : Int)).toNat = xs.length by simp; omega]; simp)) hsub
noncomputable def piO (p : List Nat) : List AO := [.list ((sgs p).map .str)]
noncomputable def piS (l p : List Nat) : S := ⟨[("word", .str (T l)), ("pile", .ref 0)], piO p⟩
noncomputable def piX (l p : List Nat) (x : Nat) : S := ⟨[("sign", .str (T [x])), ("word", .str (T l)), ("pile", .ref 0)], piO p⟩

theorem pileTurn (hK : c.K = KK P) (hx : c.XR = XRof LL1) {l p : List Nat} {x : Nat} (hp : Four p) (hl : p.length ≤ 200) (h4 : x = 97 ∨ x = 34 ∨ x = 32 ∨ x = 92) :
    Exs c (n + 3) (fdK P 108) (forBody (stK P 108 1)) (piX l p x) .next (piS l (pputN p x)) := by
  have hz : sizeLine = 2 ^ 24 := sizeLine_eq
  have hzp : ((sgs p).map AV.str).length ≤ sizeLine := by rw [List.length_map]; unfold sgs; rw [List.length_map]; omega
  have hne : Op2 c (n + 3) (compareOp .NotEq) (.ref 0) (.ref 1) (piO p ++ [.list []]) (.bool (!decide (sgs p = []))) (piO p ++ [.list []]) := ne_ls (xs := sgs p) (ys := []) rfl rfl (sgs_ok hp) rfl
  refine Exs.ite (decide (p.getLast? = some (undo x))) (σ₁ := piX l p x) ?t ?b
  case t =>
    refine Tst.cut (os' := piO p) (js := [.list []]) ?tt rfl (by unfold piO; walk_at "clo")
    cases hpe : p with
    | nil =>
      subst hpe
      refine Tst.bop (Tsts.and (b := false) (σ₁ := ⟨(piX l [] x).vs, piO [] ++ [.list []]⟩) ((B1 hK hx).tst' 8 [(.bool false, piO [] ++ [.list []])] rfl ?f1 rfl rfl) (fun e => by cases e) fun _ => ⟨rfl, rfl⟩)
      walk_at "ob2"
    | cons y r =>
      rw [← hpe]
      have hpn : p ≠ [] := by rw [hpe]; exact fun e => nomatch e
      have hlast : p.getLast? = some (p.getLast hpn) := List.getLast?_eq_some_getLast hpn
      have hd : (!decide (sgs p = [])) = true := by rw [hpe]; rfl
      rw [hd] at hne
      refine' (B1 hK hx).tst' 8 [(.bool true, piO p ++ [.list []]), (.str (T [p.getLast hpn]), piO p ++ [.list []]), (.str (T [undo x]), piO p ++ [.list []])] rfl ?f2 ?f3 rfl
      case f2 =>
        walk_at "ob2"
        · exact Ev.lastL ((B1 hK hx).ev 5 [] rfl trivial rfl rfl) ((B1 hK hx).ev 5 [] rfl trivial rfl rfl) (xs := (sgs p.dropLast).map .str) (by show some (AO.list ((sgs p).map .str)) = _; rw [sgs_last hpn]) (by rw [List.length_map]; unfold sgs; rw [List.length_map, List.length_dropLast]; omega) (fun _ _ => rfl)
        · exact undoOne hK hx h4
      case f3 =>
        show (T [p.getLast hpn] == T [undo x]) = _
        rw [T_beq, hlast]
        by_cases e : p.getLast hpn = undo x
        · rw [e]; simp
        · simp [e]
  case b =>
    cases hb : decide (p.getLast? = some (undo x)) with
    | true =>
      have hlx : p.getLast? = some (undo x) := of_decide_eq_true hb
      have hpn : p ≠ [] := fun e => by rw [e] at hlx; cases hlx
      have hpop : CallR c (n + 3) (.builtin "list.pop") [.ref 0] (piO p) (.str (T [p.getLast hpn])) (piO p.dropLast) := by
        have := popEnd_l (c := c) (n := n + 3) (i := 0) (x := .str (T [p.getLast hpn])) (xs := (sgs p.dropLast).map .str) (os := piO p) (by show some (AO.list ((sgs p).map .str)) = _; rw [sgs_last hpn]) (by rw [List.length_map]; unfold sgs; rw [List.length_map, List.length_dropLast]; omega)
        exact this
      have e : pputN p x = p.dropLast := if_pos hlx
      rw [e]
      refine' (B1 hK hx).run 8 1 [(.str (T [p.getLast hpn]), piO p.dropLast)] (piS l p.dropLast) rfl ?g1 ?g2 rfl Exs.nil
      case g1 => walk_at "ob2"
      case g2 => walk_at "sub"
    | false =>
      have e : pputN p x = p ++ [x] := if_neg (of_decide_eq_false hb)
      rw [e]
      refine' (B1 hK hx).run 8 1 [] (piS l (p ++ [x])) rfl ?k1 ?k2 ?k3 Exs.nil
      case k1 => walk_at "ob2"
      case k2 => walk_at "sub"
      case k3 =>
        show [AO.list ((sgs p).map .str ++ [.str (T [x])])] = _
        rw [sgs_snoc]; rfl

theorem pileD (hK : c.K = KK P) (hx : c.XR = XRof LL1) {l : List Nat} (hl : l.length ≤ 200) (h4 : Four l) : CallR c (n + 4) (.ref 108) [.str (T l)] [] (.str (T (pileN l))) [] := by
  have hz : sizeLine = 2 ^ 24 := sizeLine_eq
  have hend : pileK l l.length = pileN l := by unfold pileK; rw [List.take_length]
  have hjo : CallR c (n + 3) (.builtin "str.join") [.str (Str.ofString ""), .ref 0] (piO (pileN l)) (.str (T (pileN l))) (piO (pileN l)) := by
    rw [T_nil, ← join_sgs (pileN l)]
    exact join_s rfl (sgs_joinOk _ (by have := (pileK_four h4 l.length (Nat.le_refl _)).2; rw [hend] at this; omega))
  refine' CallR.of_def (ps := [Str.ofString "word"]) (σ' := ⟨[], piO (pileN l)⟩) (DefAt.of hK rfl rfl rfl rfl rfl rfl rfl rfl) (by decide) ?bind (by decide) ?r (Back.val (os' := []) rfl ?cl rfl)
  case cl => walk_at "clo"
  case bind =>
    intro xs h
    obtain ⟨a, rfl⟩ := len1 h
    rfl
  case r =>
    refine' (B1 hK hx).run 8 1 [] (piS l (pileK l 0)) rfl ?f1 ?s1 rfl ?r1
    case f1 => walk_at "ob2"
    case s1 => walk_at "sub"
    case r1 =>
      refine' Exs.cons (σ₁ := piS l (pileN l)) (Ex.for (σ₁ := piS l (pileK l 0)) (a := .str (T l)) (src := .str (T l)) ?g1 .str ?g3 ?g4) ?g5
      case g1 => exact (B1 hK hx).ev 5 [] rfl trivial rfl rfl
      case g3 =>
        rw [← hend]
        refine' Lp.loop l.length (fun k => piS l (pileK l k)) (fun k => .str (T [l.getD k 0])) (fun k hk => item_str hk) item_strE trivial rfl rfl ?k3
        intro k hk
        have hf := pileK_four h4 k (by omega)
        have := pileTurn (n := n) (l := l) hK hx hf.1 (by omega) (h4 _ (getD_mem hk))
        rw [← pileK_succ hk] at this
        exact Exs.fewer (σ₁ := piX l (pileK l k) (l.getD k 0)) (by walk_at "sub") rfl this
      case g4 => exact fun _ _ => rfl
      case g5 =>
        refine' (B1 hK hx).ret 8 [(.str (T (pileN l)), piO (pileN l))] rfl ?m1 rfl rfl
        walk_at "ob2"
end

noncomputable section
variable {c : Cx} {n : Nat} {P : Params}

/-! ### _law_move -/
structure Mv where
  p : Int
  q : Int
  r : Int
  s : Int
  deriving DecidableEq
noncomputable def Mv.one : Mv := ⟨1, 0, 0, 1⟩
noncomputable def mstN (m : Mv) (x : Nat) : Mv :=
  if x = 97 then ⟨m.p, m.q + 2 * m.p, m.r, m.s + 2 * m.r⟩ else if x = 34 then ⟨m.p, m.q - 2 * m.p, m.r, m.s - 2 * m.r⟩ else if x = 32 then ⟨m.p + 2 * m.q, m.q, m.r + 2 * m.s, m.s⟩ else ⟨m.p - 2 * m.q, m.q, m.r - 2 * m.s, m.s⟩
noncomputable def moveN (l : List Nat) : Mv := l.foldl mstN .one
noncomputable def moveK (l : List Nat) (k : Nat) : Mv := moveN (l.take k)
theorem moveK_succ {l : List Nat} {k : Nat} (hk : k < l.length) : moveK l (k + 1) = mstN (moveK l k) (l.getD k 0) := by
  unfold moveK moveN
  rw [List.take_add_one, List.getElem?_eq_getElem hk, List.foldl_append, List.getD_eq_getElem?_getD, List.getElem?_eq_getElem hk]; rfl
noncomputable def Mv.vs (m : Mv) : List (Str × AV) := [("p", .int m.p), ("q", .int m.q), ("r", .int m.r), ("s", .int m.s)]
noncomputable def Mv.av (m : Mv) : List AV := [.int m.p, .int m.q, .int m.r, .int m.s]
noncomputable def mvX (m : Mv) (x : Nat) : S := ⟨("sign", .str (T [x])) :: m.vs, []⟩
theorem mst_a (m : Mv) : mstN m 97 = ⟨m.p, m.q + 2 * m.p, m.r, m.s + 2 * m.r⟩ := if_pos rfl
theorem mst_u (m : Mv) : mstN m 34 = ⟨m.p, m.q - 2 * m.p, m.r, m.s - 2 * m.r⟩ := (if_neg (by decide)).trans (if_pos rfl)
theorem mst_b (m : Mv) : mstN m 32 = ⟨m.p + 2 * m.q, m.q, m.r + 2 * m.s, m.s⟩ := (if_neg (by decide)).trans ((if_neg (by decide)).trans (if_pos rfl))
theorem mst_v (m : Mv) : mstN m 92 = ⟨m.p - 2 * m.q, m.q, m.r - 2 * m.s, m.s⟩ := (if_neg (by decide)).trans ((if_neg (by decide)).trans (if_neg (by decide)))
theorem mul2 (j : Int) : IntMulOk 2 j := IntMulOk.of_left (intBits_le_64 (by decide) (by decide))

/-- one turn's stores -/
theorem mvSet (hK : c.K = KK P) (hx : c.XR = XRof LL1) {m m' : Mv} {x : Nat} {y1 y2 : Str} {px py tp pos : Pos} {kk : Nat} {value : Expr} {a b : Int} (hv : Ev c (n + 2) (fdK P 115) value (mvX m x) (.ref 0) ⟨(mvX m x).vs, [.tup [.int a, .int b]]⟩)
    (h1 : Sto (fdK P 115) y2 (.int b) ⟨(mvX m x).vs, [.tup [.int a, .int b]]⟩ ⟨put y2 (.int b) (mvX m x).vs, [.tup [.int a, .int b]]⟩) (h2 : Sto (fdK P 115) y1 (.int a) ⟨put y2 (.int b) (mvX m x).vs, [.tup [.int a, .int b]]⟩ ⟨put y1 (.int a) (put y2 (.int b) (mvX m x).vs), [.tup [.int a, .int b]]⟩)
    (hs : ∀ env, swapsWithSole [.Tuple [.Name y1 px, .Name y2 py] kk tp] value pos.line env = Pure.pure false) (hw : ∀ env, env.scope = (fdK P 115).scope → swappedStores [.Tuple [.Name y1 px, .Name y2 py] kk tp] value env = Pure.pure (some [y1, y2]))
    (hm : Sub m'.vs (put y1 (.int a) (put y2 (.int b) (mvX m x).vs))) : Exs c (n + 2) (fdK P 115) [.Assign [.Tuple [.Name y1 px, .Name y2 py] kk tp] value pos] (mvX m x) .next ⟨m'.vs, []⟩ := by
  refine Exs.cut (os' := []) (js := [.tup [.int a, .int b]]) ?go rfl (by walk_at "clo") (vsLt_of rfl) (fun _ h => nomatch h)
  exact Exs.cons (Ex.assign2 (i := 0) hv rfl h1 h2 hs hw) (Exs.done hm rfl)
theorem mvTurn (hK : c.K = KK P) (hx : c.XR = XRof LL1) {m : Mv} {x : Nat} (h4 : x = 97 ∨ x = 34 ∨ x = 32 ∨ x = 92) :
    Exs c (n + 2) (fdK P 115) (forBody (stK P 115 1)) (mvX m x) .next ⟨(mstN m x).vs, []⟩ := by
  rcases h4 with e | e | e | e
  · subst e
    rw [mst_a]
    refine' (B1 hK hx).test 8 [] true rfl ?af0 ?az0 ?ab0
    case af0 => walk_at "ob2"
    case az0 => show (T [97] == Str.ofString "a") = true; decide +kernel
    refine Exs.fewer (σ₁ := mvX m 97) (by walk_at "sub") rfl ?_
    refine' mvSet hK hx (a := (m.q + 2 * m.p)) (b := (m.s + 2 * m.r)) ?av (sto_ok rfl) (sto_ok rfl) ?as1 ?as2 ?ad1
    case as1 => exact fun _ => rfl
    case as2 => exact fun env he => by cases env; dsimp only at he; subst he; rfl
    case ad1 => walk_at "sub"
    case av =>
      refine' Ev.tup (σ₁ := mvX m 97) (Evs.cons (σ₁ := mvX m 97) ?at1 (Evs.cons (σ₁ := mvX m 97) ?at2 Evs.nil ?at4) ?at3) ?at5
      case at1 => exact (B1 hK hx).ev 8 [] rfl ⟨⟨trivial, mul2 m.p⟩, trivial⟩ rfl rfl
      case at2 => exact (B1 hK hx).ev 8 [] rfl ⟨⟨trivial, mul2 m.r⟩, trivial⟩ rfl rfl
      case at3 => exact fun _ => rfl
      case at4 => exact fun _ => rfl
      case at5 => exact Nat.le_trans (show 2 ≤ 1000 by decide) sz1000
  · subst e
    rw [mst_u]
    refine' (B1 hK hx).test 8 [] false rfl ?bf0 ?bz0 ?bb0
    case bf0 => walk_at "ob2"
    case bz0 => show (T [34] == Str.ofString "a") = false; decide +kernel
    refine Exs.fewer (σ₁ := mvX m 34) (by walk_at "sub") rfl ?_
    refine' (B1 hK hx).test 8 [] true rfl ?bf1 ?bz1 ?bb1
    case bf1 => walk_at "ob2"
    case bz1 => show (T [34] == Str.ofString "\"") = true; decide +kernel
    refine Exs.fewer (σ₁ := mvX m 34) (by walk_at "sub") rfl ?_
    refine' mvSet hK hx (a := (m.q - 2 * m.p)) (b := (m.s - 2 * m.r)) ?bv (sto_ok rfl) (sto_ok rfl) ?bs1 ?bs2 ?bd1
    case bs1 => exact fun _ => rfl
    case bs2 => exact fun env he => by cases env; dsimp only at he; subst he; rfl
    case bd1 => walk_at "sub"
    case bv =>
      refine' Ev.tup (σ₁ := mvX m 34) (Evs.cons (σ₁ := mvX m 34) ?bt1 (Evs.cons (σ₁ := mvX m 34) ?bt2 Evs.nil ?bt4) ?bt3) ?bt5
      case bt1 => exact (B1 hK hx).ev 8 [] rfl ⟨⟨trivial, mul2 m.p⟩, trivial⟩ rfl rfl
      case bt2 => exact (B1 hK hx).ev 8 [] rfl ⟨⟨trivial, mul2 m.r⟩, trivial⟩ rfl rfl
      case bt3 => exact fun _ => rfl
      case bt4 => exact fun _ => rfl
      case bt5 => exact Nat.le_trans (show 2 ≤ 1000 by decide) sz1000
  · subst e
    rw [mst_b]
    refine' (B1 hK hx).test 8 [] false rfl ?cf0 ?cz0 ?cb0
    case cf0 => walk_at "ob2"
    case cz0 => show (T [32] == Str.ofString "a") = false; decide +kernel
    refine Exs.fewer (σ₁ := mvX m 32) (by walk_at "sub") rfl ?_
    refine' (B1 hK hx).test 8 [] false rfl ?cf1 ?cz1 ?cb1
    case cf1 => walk_at "ob2"
    case cz1 => show (T [32] == Str.ofString "\"") = false; decide +kernel
    refine Exs.fewer (σ₁ := mvX m 32) (by walk_at "sub") rfl ?_
    refine' (B1 hK hx).test 8 [] true rfl ?cf2 ?cz2 ?cb2
    case cf2 => walk_at "ob2"
    case cz2 => show (T [32] == Str.ofString " ") = true; decide +kernel
    refine Exs.fewer (σ₁ := mvX m 32) (by walk_at "sub") rfl ?_
    refine' mvSet hK hx (a := (m.p + 2 * m.q)) (b := (m.r + 2 * m.s)) ?cv (sto_ok rfl) (sto_ok rfl) ?cs1 ?cs2 ?cd1
    case cs1 => exact fun _ => rfl
    case cs2 => exact fun env he => by cases env; dsimp only at he; subst he; rfl
    case cd1 => walk_at "sub"
    case cv =>
      refine' Ev.tup (σ₁ := mvX m 32) (Evs.cons (σ₁ := mvX m 32) ?ct1 (Evs.cons (σ₁ := mvX m 32) ?ct2 Evs.nil ?ct4) ?ct3) ?ct5
      case ct1 => exact (B1 hK hx).ev 8 [] rfl ⟨⟨trivial, mul2 m.q⟩, trivial⟩ rfl rfl
      case ct2 => exact (B1 hK hx).ev 8 [] rfl ⟨⟨trivial, mul2 m.s⟩, trivial⟩ rfl rfl
      case ct3 => exact fun _ => rfl
      case ct4 => exact fun _ => rfl
      case ct5 => exact Nat.le_trans (show 2 ≤ 1000 by decide) sz1000
  · subst e
    rw [mst_v]
    refine' (B1 hK hx).test 8 [] false rfl ?df0 ?dz0 ?db0
    case df0 => walk_at "ob2"
    case dz0 => show (T [92] == Str.ofString "a") = false; decide +kernel
    refine Exs.fewer (σ₁ := mvX m 92) (by walk_at "sub") rfl ?_
    refine' (B1 hK hx).test 8 [] false rfl ?df1 ?dz1 ?db1
    case df1 => walk_at "ob2"
    case dz1 => show (T [92] == Str.ofString "\"") = false; decide +kernel
    refine Exs.fewer (σ₁ := mvX m 92) (by walk_at "sub") rfl ?_
    refine' (B1 hK hx).test 8 [] false rfl ?df2 ?dz2 ?db2
    case df2 => walk_at "ob2"
    case dz2 => show (T [92] == Str.ofString " ") = false; decide +kernel
    refine Exs.fewer (σ₁ := mvX m 92) (by walk_at "sub") rfl ?_
    refine' mvSet hK hx (a := (m.p - 2 * m.q)) (b := (m.r - 2 * m.s)) ?dv (sto_ok rfl) (sto_ok rfl) ?ds1 ?ds2 ?dd1
    case ds1 => exact fun _ => rfl
    case ds2 => exact fun env he => by cases env; dsimp only at he; subst he; rfl
    case dd1 => walk_at "sub"
    case dv =>
      refine' Ev.tup (σ₁ := mvX m 92) (Evs.cons (σ₁ := mvX m 92) ?dt1 (Evs.cons (σ₁ := mvX m 92) ?dt2 Evs.nil ?dt4) ?dt3) ?dt5
      case dt1 => exact (B1 hK hx).ev 8 [] rfl ⟨⟨trivial, mul2 m.q⟩, trivial⟩ rfl rfl
      case dt2 => exact (B1 hK hx).ev 8 [] rfl ⟨⟨trivial, mul2 m.s⟩, trivial⟩ rfl rfl
      case dt3 => exact fun _ => rfl
      case dt4 => exact fun _ => rfl
      case dt5 => exact Nat.le_trans (show 2 ≤ 1000 by decide) sz1000

theorem moveD (hK : c.K = KK P) (hx : c.XR = XRof LL1) {l : List Nat} (hl : l.length ≤ 200) (h4 : Four l) : CallR c (n + 3) (.ref 115) [.str (T l)] [] (.ref 0) [.tup (moveN l).av] := by
  have hend : moveK l l.length = moveN l := by unfold moveK; rw [List.take_length]
  refine' CallR.of_def (ps := [Str.ofString "word"]) (σ' := ⟨[], [.tup (moveN l).av]⟩) (DefAt.of hK rfl rfl rfl rfl rfl rfl rfl rfl) (by decide) ?bind (by decide) ?r Back.all
  case bind =>
    intro xs h
    obtain ⟨a, rfl⟩ := len1 h
    rfl
  case r =>
    refine' Exs.cons (σ₁ := ⟨("word", .str (T l)) :: (moveK l 0).vs, []⟩) ?a1 ?a2
    case a1 =>
      refine Ex.cut (os' := []) (js := [.tup [.int 1, .int 0, .int 0, .int 1]]) ?go rfl (by walk_at "clo") (vsLt_of rfl) (fun _ h => nomatch h)
      refine Ex.less (Ex.assign4 (i := 0) (σ₁ := ⟨[("word", .str (T l))], [.tup [.int 1, .int 0, .int 0, .int 1]]⟩) ?v rfl (sto_ok rfl) (sto_ok rfl) (sto_ok rfl) (sto_ok rfl) (fun _ => rfl) (fun _ => rfl)) (by walk_at "sub") rfl
      exact (B1 hK hx).ev 8 [] rfl ⟨trivial, Nat.le_trans (show 4 ≤ 1000 by decide) sz1000⟩ rfl rfl
    case a2 =>
      refine' Exs.cons (σ₁ := ⟨(moveN l).vs, []⟩) (Ex.for (σ₁ := ⟨("word", .str (T l)) :: (moveK l 0).vs, []⟩) (a := .str (T l)) (src := .str (T l)) ?g1 .str ?g3 ?g4) ?g5
      case g1 => exact (B1 hK hx).ev 5 [] rfl trivial rfl rfl
      case g3 =>
        rw [← hend]
        refine Lp.fewer (σ₁ := ⟨(moveK l 0).vs, []⟩) (by walk_at "sub") rfl ?_
        refine' Lp.loop l.length (fun k => ⟨(moveK l k).vs, []⟩) (fun k => .str (T [l.getD k 0])) (fun k hk => item_str hk) item_strE trivial rfl rfl ?k3
        intro k hk
        have := mvTurn (n := n) hK hx (m := moveK l k) (h4 _ (getD_mem hk))
        rw [← moveK_succ hk] at this
        exact Exs.fewer (σ₁ := mvX (moveK l k) (l.getD k 0)) (by walk_at "sub") rfl this
      case g4 => exact fun _ _ => rfl
      case g5 => exact (B1 hK hx).ret 8 [] rfl ⟨trivial, Nat.le_trans (show 4 ≤ 1000 by decide) sz1000⟩ rfl rfl
end

noncomputable section
variable {c : Cx} {n : Nat} {P : Params}

/-! ### _law_shortest -/
structure MinLen (ws : List (List Nat)) (m : Nat) : Prop where
  one : ∃ w ∈ ws, w.length = m
  all : ∀ w ∈ ws, m ≤ w.length
noncomputable def shortN (ws : List (List Nat)) (m : Nat) : List (List Nat) := ws.filter fun w => decide (w.length = m)
noncomputable def avs (ws : List (List Nat)) : List AV := (ws.map T).map .str
theorem avs_ren (r : Nat → Nat) (ws : List (List Nat)) : (avs ws).map (AV.ren r) = avs ws := by
  unfold avs; exact ren_strs _ _
theorem item_avs {os : List AO} {i : Nat} {ws : List (List Nat)} (ho : os[i]? = some (.list (avs ws))) {k : Nat} (hk : k < ws.length) : (Src.list i).item os k = some (.str (T (ws.getD k []))) := by
  unfold Src.item
  simp only [ho, avs]
  rw [List.getElem?_map, List.getElem?_map, List.getElem?_eq_getElem hk, List.getD_eq_getElem?_getD, List.getElem?_eq_getElem hk]; rfl
theorem item_avsE {os : List AO} {i : Nat} {ws : List (List Nat)} (ho : os[i]? = some (.list (avs ws))) : (Src.list i).item os ws.length = none := by
  unfold Src.item
  simp only [ho, avs]
  rw [List.getElem?_map, List.getElem?_map, List.getElem?_eq_none (Nat.le_refl _)]; rfl
theorem filter_map {α β : Type} (xs : List α) (d : α) (f : α → β) (b : α → Bool) : ((List.range xs.length).filter fun k => b (xs.getD k d)).map (fun k => f (xs.getD k d)) = (xs.filter b).map f := by
  have h := range_map xs d (fun x => x)
  rw [List.map_id'] at h
  conv => rhs; rw [← h]
  rw [List.filter_map, List.map_map]
  rfl
theorem getD_mem' {ws : List (List Nat)} {k : Nat} (hk : k < ws.length) : ws.getD k [] ∈ ws := by rw [List.getD_eq_getElem?_getD, List.getElem?_eq_getElem hk]; exact List.getElem_mem hk

noncomputable def shO (ws : List (List Nat)) (m : Nat) (js : List AO) : List AO := [.list (avs ws), .cell (some (.int (m : Int)))] ++ js
theorem shortestD (hK : c.K = KK P) (hx : c.XR = XRof LL1) {ws : List (List Nat)} {m : Nat} (hm : MinLen ws m) (hl : ws.length ≤ 200) (hw : ∀ w ∈ ws, w.length ≤ 200) :
    CallR c (n + 2) (.ref 120) [.ref 0] [.list (avs ws)] (.ref 1) [.list (avs ws), .list (avs (shortN ws m))] := by
  have hz : sizeLine = 2 ^ 24 := sizeLine_eq
  let lens : List Int := ws.map fun w => (w.length : Int)
  have hmin : CallR c (n + 1) (.builtin "min") [.ref 2] [.list (avs ws), .cell none, .list (lens.map .int)] (.int (m : Int)) [.list (avs ws), .cell none, .list (lens.map .int)] := by
    obtain ⟨w, hw1, hw2⟩ := hm.one
    refine min_l rfl (List.mem_map.mpr ⟨w, hw1, by rw [hw2]⟩) fun a ha => ?_
    obtain ⟨w', h1, rfl⟩ := List.mem_map.mp ha
    have := hm.all w' h1
    omega
  have e1 : RefsLt 2 (AO.list (avs ws)).refs := refsLt_strs
  have e2 : RefsLt 2 (AO.list (avs (shortN ws m))).refs := refsLt_strs
  refine Op.sel 1 [3] (v := .ref 3) (os₁ := shO ws m [.list (lens.map .int), .list (avs (shortN ws m))]) ?call rfl (by decide) ⟨by show some (AO.list (avs ws)) = some (AO.list ((avs ws).map (AV.ren _))); rw [avs_ren], by show some (AO.list (avs (shortN ws m))) = some (AO.list ((avs (shortN ws m)).map (AV.ren _))); rw [avs_ren], trivial⟩ (by walk_at "clo") rfl
  refine CodeR.call ?_
  refine' CodeR.of_cells (ps := [Str.ofString "words"]) (cn := [Str.ofString "least"]) (σ' := ⟨[], shO ws m [.list (lens.map .int), .list (avs (shortN ws m))]⟩) (DefAt.of hK rfl rfl rfl rfl rfl rfl rfl rfl) rfl ?hcs ?nd ?bind ?hps ?hcn ?rr (Back.all)
  case hcs => exact fun _ => rfl
  case nd => decide
  case hps => decide
  case hcn => decide
  case bind =>
    intro xs h
    obtain ⟨a, rfl⟩ := len1 h
    rfl
  case rr =>
    refine' (B1 hK hx).run 8 1 [(.ref 2, [.list (avs ws), .cell none, .list (lens.map .int)]), (.int (m : Int), [.list (avs ws), .cell none, .list (lens.map .int)])] ⟨[("words", .ref 0)], shO ws m [.list (lens.map .int)]⟩ rfl ?f1 ?s1 rfl ?r1
    case s1 => walk_at "sub"
    case f1 =>
      walk_at "ob2"
      refine' Ev.mapAs (src := .list 0) (a := .ref 0) (vs := [("words", .ref 0)]) ws.length (fun _ => [.list (avs ws), .cell none]) (fun k => .str (T (ws.getD k []))) (fun k => .int ((ws.getD k []).length : Int)) _ (range_map ws [] (fun w => AV.int (w.length : Int)) |>.trans (by rw [List.map_map]; rfl)) ?h1 (.list rfl) (fun k hk => item_avs rfl hk) (item_avsE rfl) ⟨_, rfl⟩ rfl ?turn (by omega) (compOk_of rfl rfl rfl rfl) (fun _ _ => rfl)
      case h1 => exact (B1 hK hx).ev 5 [] rfl trivial rfl rfl
      case turn =>
        intro k hk
        have := hw _ (getD_mem' hk)
        refine ⟨_, (B1 hK hx).ev 8 [] rfl ⟨⟨trivial, rfl⟩, by rw [T_len]; omega⟩ (by rw [T_len]) rfl⟩
    case r1 =>
      refine' (B1 hK hx).ret 8 [(.ref 3, shO ws m [.list (lens.map .int), .list (avs (shortN ws m))])] rfl ?m1 rfl rfl
      walk_at "ob2"
      refine' Ev.mapIf (os := shO ws m [.list (lens.map .int)]) (src := .list 0) (a := .ref 0) (vs := [("words", .ref 0)]) ws.length (fun k => .str (T (ws.getD k []))) (fun k => .str (T (ws.getD k []))) (fun k => decide ((ws.getD k []).length = m)) _ ((filter_map ws [] (fun w => AV.str (T w)) (fun w => decide (w.length = m))).trans (by unfold avs shortN; rw [List.map_map]; rfl)) ?h2 (.list rfl) (fun k hk => item_avs rfl hk) (item_avsE rfl) ⟨_, rfl⟩ rfl ?turn2 (by omega) (compOk_of rfl rfl rfl rfl) (fun _ _ => rfl)
      case h2 => exact (B1 hK hx).ev 5 [] rfl trivial rfl rfl
      case turn2 =>
        intro k hk
        have := hw _ (getD_mem' hk)
        refine ⟨[("one", .str (T (ws.getD k [])))], ?_, fun _ => ⟨_, (B1 hK hx).ev 5 [] rfl trivial rfl rfl⟩⟩
        refine' (B1 hK hx).tst 8 [] rfl ?o1 ?o2 rfl
        case o1 =>
          have hzl : (T (ws.getD k [])).length ≤ sizeLine := by rw [T_len]; omega
          walk_at "ob2"
        case o2 =>
          show (((T (ws.getD k [])).length : Int) == (m : Int)) = _
          rw [T_len]
          by_cases e : (ws.getD k []).length = m
          · rw [e]; simp
          · have : ¬ ((ws.getD k []).length : Int) = (m : Int) := by omega
            rw [beq_eq_false_iff_ne.mpr this, decide_eq_false e]
end

noncomputable section
variable {c : Cx} {n : Nat} {P : Params}

theorem set_same {α : Type} : ∀ {l : List α} {i : Nat} {x : α}, l[i]? = some x → l.set i x = l
  | _ :: _, 0, _, h => by simp at h; subst h; rfl
  | y :: t, i + 1, x, h => by simp at h; show y :: t.set i x = _; rw [set_same h]
/-- a function of one list: the list wherever it lies -/
theorem Op.at1 {f : Value} {args : List AV} {o : AO} {v : AV} {os : List AO} {i : Nat} (h : CallR c n f args [o] v [o]) (ho : os[i]? = some o) (hr : ∀ r, o.ren r = o) (hrf : o.refs = []) (hv : ∀ r, v.ren r = v) : CallR c n f (args.map (AV.ren (Mine.out [i] os.length))) os v os := by
  have := Op.frame (c := c) (n := n) (t := fun xs => call f xs) (args := args) (v := v) (os₀ := [o]) (os₀' := [o]) (new := []) (π := [i]) (os := os) (by rw [List.append_nil]; exact h) rfl (by simp) ⟨by rw [hr]; exact ho, trivial⟩ (fun o' ho' j hj => by
    rw [List.mem_singleton] at ho'; subst ho'; rw [hrf] at hj; cases hj)
  refine Op.as this rfl (hv _) ?_
  show os.set i (o.ren _) ++ [] = os
  rw [hr, List.append_nil, set_same ho]
theorem flatO_ren (ps : List (List Nat × List Nat)) (r : Nat → Nat) : (AO.list (flatPs ps)).ren r = .list (flatPs ps) := congrArg AO.list (flatPs_ren' r ps)
theorem cancAt (hK : c.K = KK P) (hx : c.XR = XRof LL1) {ps : List (List Nat × List Nat)} {l : List Nat} {os : List AO} {i : Nat} (ho : os[i]? = some (.list (flatPs ps))) (hl : l.length ≤ 30) (hps : ps.length = 4) (hok : ReplOk (overP ps l) l) :
    CallR c (n + 3) (.ref 101) [.str (T l), .ref i] os (.str (T (cancL ps l))) os := by
  exact Op.at1 (args := [.str (T l), .ref 0]) (cancelledD hK hx hl hps hok) ho (flatO_ren ps) (flatPs_refs' ps) fun _ => rfl

/-! ### _law_is_core -/
noncomputable def trn0N (l : List Nat) : List (List Nat) := (List.range (l.length + 1)).map fun k => rot k l
noncomputable def icO (cs : List (List Nat)) (ps : List (List Nat × List Nat)) (c0 : List Nat) (js : List AO) : List AO := [.list (avs cs), .list (flatPs ps), .cell (some (.str (T c0)))] ++ js
theorem sset_ok {ss : List Str} (h : ss.all PyData.strOk = true) : (sset ss).all PyData.strOk = true := by
  unfold sset
  split
  · rename_i hx
    have g := hx.choose_spec
    rw [List.all_eq_true] at h ⊢
    exact fun x hx' => h x ((g.2.1 x).mp hx')
  · rfl
theorem strOk_T {l : List Nat} (h : Four l) : PyData.strOk (T l) = true := by
  show (T l).cps.all _ = true
  rw [← Array.all_toList, T_list, List.all_eq_true]
  intro x hx
  have := (four_lt h x hx).1
  simp; omega
theorem avsOk {cs : List (List Nat)} (h : ∀ w ∈ cs, Four w) : (cs.map T).all PyData.strOk = true := by
  rw [List.all_eq_true]
  intro x hx
  obtain ⟨w, hw, rfl⟩ := List.mem_map.mp hx
  exact strOk_T (h w hw)
theorem four_rot {l : List Nat} (h : Four l) (k : Nat) : Four (rot k l) := fun x hx => by
  unfold rot at hx
  rcases List.mem_append.mp hx with hx | hx
  · exact h x (List.mem_of_mem_drop hx)
  · exact h x (List.mem_of_mem_take hx)

noncomputable def icJ1 (cs : List (List Nat)) : List AO := [.list ((sset (cs.map T)).map .str)]
noncomputable def icJr (cs : List (List Nat)) (c0 : List Nat) : List AO := icJ1 cs ++ [.rng 0 ((c0.length : Int) + 1)]
noncomputable def icJ2 (cs : List (List Nat)) (c0 : List Nat) : List AO := icJr cs c0 ++ [.list (avs (trn0N c0))]
noncomputable def icJ3 (cs : List (List Nat)) (c0 : List Nat) : List AO := icJ2 cs c0 ++ [.list ((sset ((trn0N c0).map T)).map .str)]
theorem isCoreD (hK : c.K = KK P) (hx : c.XR = XRof LL1) {w c0 : List Nat} {cs : List (List Nat)} {ps : List (List Nat × List Nat)} (hl : w.length ≤ 15) (hps : ps.length = 4) (hok1 : ReplOk (overP ps (w ++ w)) (w ++ w)) (hok2 : ReplOk (overP ps w) w)
    (hc0 : cs[0]? = some c0) (hcl : c0.length ≤ 20) (hcs : cs.length ≤ 20) (h4 : ∀ x ∈ cs, Four x) (hsame : ∀ x, x ∈ cs ↔ x ∈ trn0N c0) (hz1 : (cancL ps (w ++ w)).length ≤ 100) (hz2 : (cancL ps w).length ≤ 100) (hlen : (cancL ps (w ++ w)).length = (cancL ps w).length + c0.length) :
    CallR c (n + 5) (.ref 125) [.str (T w), .ref 0, .ref 1] [.list (avs cs), .list (flatPs ps)] (.bool true) [.list (avs cs), .list (flatPs ps)] := by
  have hz : sizeLine = 2 ^ 24 := sizeLine_eq
  have hzc : (T c0).length ≤ sizeLine := by rw [T_len]; omega
  have e1 : RefsLt 2 (AO.list (avs cs)).refs := refsLt_strs
  have e2 := refs_flat' (m := 2) (ps := ps)
  refine CodeR.call ?_
  refine' CodeR.of_cells (ps := [Str.ofString "word", Str.ofString "cores", Str.ofString "pairs"]) (cn := [Str.ofString "core"]) (σ' := ⟨[], icO cs ps c0 (icJ3 cs c0)⟩) (DefAt.of hK rfl rfl rfl rfl rfl rfl rfl rfl) rfl ?hcs ?nd ?bind ?hps ?hcn ?rr (Back.val (os' := [.list (avs cs), .list (flatPs ps)]) rfl ?cl rfl)
  case cl => walk_at "clo"
  case hcs => exact fun _ => rfl
  case nd => decide
  case hps => decide
  case hcn => decide
  case bind =>
    intro xs h
    obtain ⟨a, b, d, rfl⟩ := len3 h
    rfl
  case rr =>
    refine' (B1 hK hx).run' 8 1 [(.str (T c0), [.list (avs cs), .list (flatPs ps), .cell none])] ⟨[("word", .str (T w)), ("cores", .ref 0), ("pairs", .ref 1)], icO cs ps c0 []⟩ rfl ?f1 ?s1 rfl ?r1
    case s1 => walk_at "sub"
    case f1 =>
      walk_at "ob2"
      refine' Ev.idxL (i := 0) (j := 0) (xs := avs cs) ?d1 ?d2 rfl ?d4 (by decide) ?d3
      case d1 => exact (B1 hK hx).ev 5 [] rfl trivial rfl rfl
      case d2 => exact (B1 hK hx).ev 5 [] rfl trivial rfl rfl
      case d3 => exact fun _ _ => rfl
      case d4 => unfold avs; rw [List.getElem?_map, List.getElem?_map, hc0]; rfl
    case r1 =>
      refine Exs.ite false (σ₁ := ⟨[("word", .str (T w)), ("cores", .ref 0), ("pairs", .ref 1)], icO cs ps c0 (icJ3 cs c0)⟩) ?t1 ?t2
      case t1 =>
        have hs2 : sset (cs.map T) = sset ((trn0N c0).map T) := sset_same fun x => by
          rw [List.mem_map, List.mem_map]
          exact ⟨fun ⟨y, hy, e⟩ => ⟨y, (hsame y).mp hy, e⟩, fun ⟨y, hy, e⟩ => ⟨y, (hsame y).mpr hy, e⟩⟩
        have hne : Op2 c (n + 4) (compareOp .NotEq) (.ref 3) (.ref 6) (icO cs ps c0 (icJ3 cs c0)) (.bool false) (icO cs ps c0 (icJ3 cs c0)) := by
          have hok := sset_ok (avsOk h4)
          have := ne_ls (c := c) (n := n + 4) (i := 3) (j := 6) (os := icO cs ps c0 (icJ3 cs c0)) (xs := sset (cs.map T)) (ys := sset ((trn0N c0).map T)) rfl rfl hok (hs2 ▸ hok)
          rw [decide_eq_true hs2] at this
          exact this
        refine Tst.cmp (a := .ref 3) (b := .ref 6) (os := icO cs ps c0 (icJ3 cs c0)) (σ₁ := ⟨[("word", .str (T w)), ("cores", .ref 0), ("pairs", .ref 1)], icO cs ps c0 (icJ1 cs)⟩) (σ₂ := ⟨[("word", .str (T w)), ("cores", .ref 0), ("pairs", .ref 1)], icO cs ps c0 (icJ3 cs c0)⟩) ?u1 ?u2 hne rfl
        case u1 =>
          exact Ev.sortedSet (σ₁ := ⟨[("word", .str (T w)), ("cores", .ref 0), ("pairs", .ref 1)], icO cs ps c0 []⟩) (i := 0) (ss := cs.map T) ((B1 hK hx).ev 5 [] rfl trivial rfl rfl) ((B1 hK hx).ev 5 [] rfl trivial rfl rfl) ((B1 hK hx).ev 5 [] rfl trivial rfl rfl) rfl (by rw [List.length_map]; omega) (fun _ => rfl)
        case u2 =>
          refine Ev.sortedSet (σ₁ := ⟨[("word", .str (T w)), ("cores", .ref 0), ("pairs", .ref 1)], icO cs ps c0 (icJ2 cs c0)⟩) (i := 5) (ss := (trn0N c0).map T) ((B1 hK hx).ev 5 [] rfl trivial rfl rfl) ((B1 hK hx).ev 5 [] rfl trivial rfl rfl) ?v1 rfl (by unfold trn0N; rw [List.length_map, List.length_map, List.length_range]; omega) (fun _ => rfl)
          show Ev c (n + 4) _ _ _ (.ref (icO cs ps c0 (icJr cs c0)).length) ⟨[("word", .str (T w)), ("cores", .ref 0), ("pairs", .ref 1)], icO cs ps c0 (icJr cs c0) ++ [.list (avs (trn0N c0))]⟩
          refine' Ev.mapAs (acc := avs (trn0N c0)) (src := .rng 0 ((c0.length : Int) + 1)) (a := .ref 4) (vs := [("word", .str (T w)), ("cores", .ref 0), ("pairs", .ref 1)]) (c0.length + 1) (fun _ => icO cs ps c0 (icJr cs c0)) (fun k => .int k) (fun k => .str (T (rot k c0))) (by unfold avs trn0N; rw [List.map_map, List.map_map]; rfl) ?h1 (.rng rfl ?sm) ?it ?itE trivial rfl ?turn (by omega) (compOk_of rfl rfl rfl rfl) (fun _ _ => rfl)
          case h1 =>
            refine' (B1 hK hx).ev 8 [] rfl ?g1 rfl ?g2
            case g1 => walk_at "ob2"
            case g2 =>
              show (⟨_, [AO.list (avs cs), .list (flatPs ps), .cell (some (.str (T c0))), .list ((sset (cs.map T)).map .str), .rng 0 (((T c0).length : Nat) + 1)]⟩ : S) = _
              rw [T_len]; rfl
          case sm => exact small_rng (N := c0.length + 1) (by omega)
          case it => exact fun k hk => item_rng (N := c0.length + 1) hk
          case itE => exact item_rngE (N := c0.length + 1)
          case turn =>
            intro k hk
            have hcz : (cutS (T c0) (some (k : Int)) none).length + (cutS (T c0) none (some (k : Int))).length ≤ sizeLine := by
              rw [cutS_T, cutS_T, T_len, T_len, cut_from, cut_to, List.length_drop, List.length_take]; omega
            refine ⟨_, (B1 hK hx).ev 8 [] rfl ?g3 ?g4 rfl⟩
            case g3 => walk_at "ob2"
            case g4 =>
              show AV.str (cutS (T c0) (some (k : Int)) none ++ cutS (T c0) none (some (k : Int))) = _
              rw [cutS_T, cutS_T, cut_from, cut_to, T_app]; rfl
      case t2 =>
        have q1 : CallR c (n + 4) (.ref 101) [.str (T w ++ T w), .ref 1] (icO cs ps c0 (icJ3 cs c0)) (.str (T (cancL ps (w ++ w)))) (icO cs ps c0 (icJ3 cs c0)) := by
          rw [T_app]; exact cancAt hK hx (i := 1) rfl (by rw [List.length_append]; omega) hps hok1
        have q2 : CallR c (n + 4) (.ref 101) [.str (T w), .ref 1] (icO cs ps c0 (icJ3 cs c0)) (.str (T (cancL ps w))) (icO cs ps c0 (icJ3 cs c0)) := cancAt hK hx (i := 1) rfl (by omega) hps hok2
        have z1 : (T w).length + (T w).length ≤ sizeLine := by rw [T_len]; omega
        have z2 : (T (cancL ps (w ++ w))).length ≤ sizeLine := by rw [T_len]; omega
        have z3 : (T (cancL ps w)).length ≤ sizeLine := by rw [T_len]; omega
        refine' (B1 hK hx).ret 12 [(.str (T (cancL ps (w ++ w))), icO cs ps c0 (icJ3 cs c0)), (.str (T (cancL ps w)), icO cs ps c0 (icJ3 cs c0))] rfl ?m1 ?m2 rfl
        case m1 => walk_at "ob2"
        case m2 =>
          show AV.bool ((((T (cancL ps (w ++ w))).length : Int) - ((T (cancL ps w)).length : Int)) == ((T c0).length : Int)) = .bool true
          rw [T_len, T_len, T_len, hlen]
          congr 1
          rw [beq_iff_eq]; omega
end

noncomputable section
variable {c : Cx} {n : Nat} {P : Params} {cq : Option (Value × Str)}

noncomputable def fdL (P : Params) (cq : Option (Value × Str)) : FD := ⟨scopeK P 130, [("signs", 1), ("word", 2), ("mate", 3), ("pairs", 4), ("right", 5), ("moves", 6)], cq⟩
noncomputable def lO (ts : List Nat) (c1 c2 c3 c4 c5 c6 : Option AV) (js : List AO) : List AO := [.x (.tab ts), .cell c1, .cell c2, .cell c3, .cell c4, .cell c5, .cell c6] ++ js

noncomputable def compOf : Stmt → Expr
  | .Assign _ (.BinOp e _ _ _) _ => e
  | _ => .Constant .none 0 ⟨0, 0, 0, 0⟩
noncomputable def compElt (s : Stmt) : Expr := match compOf s with | .ListComp e _ _ _ => e | e => e
noncomputable def compSc (s : Stmt) : Scope := match compOf s with | .ListComp _ _ sc _ => sc | _ => { kind := .function, names := [], isGenerator := false, isCoroutine := false }
noncomputable def compPos (s : Stmt) : Pos := match compOf s with | .ListComp _ _ _ p => p | _ => ⟨0, 0, 0, 0⟩
noncomputable def compIter (s : Stmt) : Expr := match compOf s with | .ListComp _ [⟨_, i, _, _⟩] _ _ => i | e => e
noncomputable def compPx (s : Stmt) : Pos := match compOf s with | .ListComp _ [⟨.Name _ p, _, _, _⟩] _ _ => p | _ => ⟨0, 0, 0, 0⟩
noncomputable def numsL (sc : List Int) : List Int := (sc.take 9).map (fun x => x.fmod 840) ++ [2, 0, 2, 3, 0, 3, 8, 4, 1].drop (sc.take 9).length
theorem numsL_len (sc : List Int) : (numsL sc).length = 9 := by
  unfold numsL
  simp
  omega
theorem ints_VRs {vs : List Value} {sc : List Int} (h : IntsAre vs sc) : ∀ ρ, VRs ρ (sc.map .int) vs := fun ρ => VRs.ofInts h

theorem item_ints {os : List AO} {i : Nat} {xs : List Int} (ho : os[i]? = some (.list (xs.map .int))) {k : Nat} (hk : k < xs.length) : (Src.list i).item os k = some (.int (xs.getD k 0)) := by
  unfold Src.item
  simp only [ho]
  rw [List.getElem?_map, List.getElem?_eq_getElem hk, List.getD_eq_getElem?_getD, List.getElem?_eq_getElem hk]; rfl
theorem item_intsE {os : List AO} {i : Nat} {xs : List Int} (ho : os[i]? = some (.list (xs.map .int))) : (Src.list i).item os xs.length = none := by
  unfold Src.item
  simp only [ho]
  rw [List.getElem?_map, List.getElem?_eq_none (Nat.le_refl _)]; rfl
theorem cut_lit (ns : List Int) (a : Nat) : cut (ns.map AV.int) (some (a : Int)) none = (ns.drop a).map .int := by rw [cut_from, List.map_drop]

theorem map_two {α β γ : Type} (f : α → β) (g : β → γ) (xs : List α) : xs.map (fun x => g (f x)) = (xs.map f).map g := by rw [List.map_map]; rfl

set_option maxHeartbeats 1000000 in
theorem law0 (hK : c.K = KK P) (hx : c.XR = XRof LL1) {l : Addr} {vs : List Value} {sc : List Int} (hb : c.hb.IsList l vs.toArray) (hi : IntsAre vs sc) (hsc : sc.length ≤ 63) :
    Ex c (n + 1) (fdL P cq) (stK P 130 0) ⟨[("script", .lit (.ref l))], lO [] none none none none none none []⟩ .next ⟨[("numbers", .ref 7)], lO [] none none none none none none [.list ((numsL sc).map .int)]⟩ := by
  have hz : sizeLine = 2 ^ 24 := sizeLine_eq
  have hsl : ∀ (os : List AO), SlOp c (n + 1) (.lit (.ref l)) none (some 9) none os (.ref os.length) (os ++ [.list ((sc.take 9).map .int)]) := fun os => by
    have := slice_base (c := c) (n := n + 1) (os := os) (lo := none) (hi := some 9) hb (ints_VRs hi) (by rw [List.length_map]; omega)
    rw [show cut (sc.map AV.int) none (some 9) = (sc.take 9).map .int by rw [show ((9 : Int)) = ((9 : Nat) : Int) from rfl, cut_to, List.map_take]] at this
    exact this
  have hN : (sc.take 9).length ≤ 9 := by rw [List.length_take]; omega
  refine Exs.one (Exs.sel (os₁ := lO [] none none none none none none [.list ((sc.take 9).map .int), .list (((sc.take 9).map (fun x => x.fmod 840)).map .int), .list [.int 2, .int 0, .int 2, .int 3, .int 0, .int 3, .int 8, .int 4, .int 1], .list ((sc.take 9).map .int), .list (cut [.int 2, .int 0, .int 2, .int 3, .int 0, .int 3, .int 8, .int 4, .int 1] (some ((sc.take 9).length : Int)) none), .list ((numsL sc).map .int)]) (vs' := [("numbers", .ref 12)]) (f := .next) 7 [12] ?go rfl (by decide) ?held ?cl ⟨rfl, fun _ _ => trivial, trivial⟩ rfl)
  case held => exact ⟨rfl, rfl, rfl, rfl, rfl, rfl, rfl, by show some (AO.list ((numsL sc).map .int)) = some (AO.list (((numsL sc).map AV.int).map (AV.ren _))); rw [ren_ints], trivial⟩
  case cl => walk_at "clo"
  case go =>
    refine' (B1 hK hx).run 8 1 [(.ref 8, lO [] none none none none none none [.list ((sc.take 9).map .int), .list (((sc.take 9).map (fun x => x.fmod 840)).map .int)]), (.ref 10, lO [] none none none none none none [.list ((sc.take 9).map .int), .list (((sc.take 9).map (fun x => x.fmod 840)).map .int), .list [.int 2, .int 0, .int 2, .int 3, .int 0, .int 3, .int 8, .int 4, .int 1], .list ((sc.take 9).map .int)])] _ rfl ?f1 ?s1 ?o1 Exs.nil
    case f1 =>
      have hlen : ((sc.take 9).map AV.int).length ≤ sizeLine := by rw [List.length_map]; omega
      have hcz : (((sc.take 9).map (fun x => x.fmod 840)).map AV.int).length + (cut [AV.int 2, .int 0, .int 2, .int 3, .int 0, .int 3, .int 8, .int 4, .int 1] (some ((((sc.take 9).map AV.int).length : Nat) : Int)) none).length ≤ sizeLine := by
        rw [show [AV.int 2, .int 0, .int 2, .int 3, .int 0, .int 3, .int 8, .int 4, .int 1] = [2, 0, 2, 3, 0, 3, 8, 4, 1].map AV.int from rfl, cut_lit]
        simp; omega
      walk_at "ob2"
      · have e := Ev.map (c := c) (n := n + 1) (fd := fdL P cq) (elt := compElt (stK P 130 0)) (scope := compSc (stK P 130 0)) (x := "x") (px := compPx (stK P 130 0)) (pos := compPos (stK P 130 0)) (iter := compIter (stK P 130 0)) (σ := ⟨[("script", .lit (.ref l))], lO [] none none none none none none []⟩) (vs := [("script", .lit (.ref l))]) (a := .ref 7) (src := .list 7) (sc.take 9).length (fun _ => lO [] none none none none none none [.list ((sc.take 9).map .int)]) (fun k => .int ((sc.take 9).getD k 0)) (fun k => .int (((sc.take 9).getD k 0).fmod 840))
          (Ev.sliceB (σ₁ := ⟨[("script", .lit (.ref l))], lO [] none none none none none none []⟩) (σ₂ := ⟨[("script", .lit (.ref l))], lO [] none none none none none none []⟩) (σ₃ := ⟨[("script", .lit (.ref l))], lO [] none none none none none none []⟩) (σ₄ := ⟨[("script", .lit (.ref l))], lO [] none none none none none none []⟩) ((B1 hK hx).ev 5 [] rfl trivial rfl rfl) EvP.none (EvP.some ((B1 hK hx).ev 5 [] rfl trivial rfl rfl)) EvP.none hb (hsl _)) (.list rfl) (fun k hk => item_ints rfl hk) (item_intsE rfl) ⟨_, rfl⟩ rfl (fun k hk => ⟨_, (B1 hK hx).ev 5 [] rfl (by walk_at "ob2") rfl rfl⟩) (by omega) (compOk_of rfl rfl rfl rfl) (fun _ _ => rfl)
        rw [range_map (sc.take 9) 0 (fun x => AV.int (x.fmod 840)), map_two (fun x : Int => x.fmod 840) AV.int] at e
        exact e
      · exact Ev.sliceB (σ₁ := ⟨[("script", .lit (.ref l))], _⟩) (σ₂ := ⟨[("script", .lit (.ref l))], _⟩) (σ₃ := ⟨[("script", .lit (.ref l))], _⟩) (σ₄ := ⟨[("script", .lit (.ref l))], _⟩) ((B1 hK hx).ev 5 [] rfl trivial rfl rfl) EvP.none (EvP.some ((B1 hK hx).ev 5 [] rfl trivial rfl rfl)) EvP.none hb (hsl _)
    case s1 => walk_at "sub"
    case o1 =>
      refine Eq.trans (b := lO [] none none none none none none [.list ((sc.take 9).map .int), .list (((sc.take 9).map (fun x => x.fmod 840)).map .int), .list [.int 2, .int 0, .int 2, .int 3, .int 0, .int 3, .int 8, .int 4, .int 1], .list ((sc.take 9).map .int), .list (cut [.int 2, .int 0, .int 2, .int 3, .int 0, .int 3, .int 8, .int 4, .int 1] (some ((((sc.take 9).map AV.int).length : Nat) : Int)) none), .list (((sc.take 9).map (fun x => x.fmod 840)).map AV.int ++ cut [.int 2, .int 0, .int 2, .int 3, .int 0, .int 3, .int 8, .int 4, .int 1] (some ((((sc.take 9).map AV.int).length : Nat) : Int)) none)]) rfl ?_
      rw [List.length_map, show ((sc.take 9).map (fun x => x.fmod 840)).map AV.int ++ cut [.int 2, .int 0, .int 2, .int 3, .int 0, .int 3, .int 8, .int 4, .int 1] (some (((sc.take 9).length : Nat) : Int)) none = (numsL sc).map .int by
        rw [show [AV.int 2, .int 0, .int 2, .int 3, .int 0, .int 3, .int 8, .int 4, .int 1] = [2, 0, 2, 3, 0, 3, 8, 4, 1].map AV.int from rfl, cut_lit, ← List.map_append]; rfl]
end

noncomputable section
variable {c : Cx} {n : Nat} {P : Params} {cq : Option (Value × Str)}

/-! ### the words -/
noncomputable def sg4 : List Nat := [97, 34, 32, 92]
noncomputable def sg (j : Nat) : Nat := sg4.getD j 0
noncomputable def SG : Str := Str.ofString "a\" \\"
theorem T_SG : SG = T sg4 := by decide +kernel
noncomputable def nts (ms : List Nat) : List Int := ms.map fun k : Nat => (k : Int)
theorem nts_len (ms : List Nat) : (nts ms).length = ms.length := List.length_map _
theorem nts_getD (ms : List Nat) (k : Nat) : (nts ms).getD k 0 = ((ms.getD k 0 : Nat) : Int) := by
  unfold nts
  rw [List.getD_eq_getElem?_getD, List.getD_eq_getElem?_getD, List.getElem?_map]
  cases ms[k]? <;> rfl
theorem getD_some {l : List Nat} {j : Nat} (h : j < l.length) : l[j]? = some (l.getD j 0) := by rw [List.getD_eq_getElem?_getD, List.getElem?_eq_getElem h]; rfl
theorem fdiv_nat (a b : Nat) : Int.fdiv (a : Int) (b : Int) = ((a / b : Nat) : Int) := by
  rw [Int.fdiv_eq_ediv_of_nonneg _ (by omega)]; omega
noncomputable def nL (ms : List Nat) : AO := .list ((nts ms).map .int)
noncomputable def lA (ms : List Nat) (c1 c2 c3 : Option AV) (js : List AO) : List AO := lO [] c1 c2 c3 none none none ([nL ms] ++ js)
theorem refs_nL {ms : List Nat} {m : Nat} : RefsLt m (nL ms).refs := refsLt_ints
noncomputable def wdN (ms : List Nat) : List Nat := (ms.take 6).map fun x => sg (x % 4)
noncomputable def ahN (ms : List Nat) : List Nat := (((ms.drop 6).take 2).filter fun x => decide (x % 5 < 4)).map fun x => sg (x % 5)
noncomputable def tuN (ms : List Nat) (tt : Nat) : List Nat := rot (tt % 6) (wdN ms)
noncomputable def m2N (ms : List Nat) (tt : Nat) : List Nat := [(tuN ms tt).getD 1 0, (tuN ms tt).getD 0 0] ++ (tuN ms tt).drop 2
noncomputable def m3N (ms : List Nat) (tt : Nat) : List Nat := sg (ms.getD 8 0 % 4) :: (tuN ms tt).drop 1
noncomputable def miN (ms : List Nat) (tt : Nat) : List (List Nat) := [tuN ms tt, m2N ms tt, m3N ms tt]
noncomputable def mtN (ms : List Nat) (tt : Nat) : List Nat := ahN ms ++ (miN ms tt).getD (tt / 6 % 3) [] ++ undL (ahN ms)

theorem law12 (hK : c.K = KK P) (hx : c.XR = XRof LL1) {ms : List Nat} {tt : Nat} (ht : (nts ms).sum = (tt : Int)) :
    Exs c (n + 1) (fdL P cq) [stK P 130 1, stK P 130 2] ⟨[("numbers", .ref 7)], lA ms none none none []⟩ .next ⟨[("numbers", .ref 7), ("total", .int tt)], lA ms (some (.str SG)) none none []⟩ := by
  have hsum : CallR c (n + 1) (.builtin "sum") [.ref 7] (lA ms none none none []) (.int tt) (lA ms none none none []) := by rw [← ht]; exact sum_l rfl
  refine' (B1 hK hx).run' 8 2 [(.int tt, lA ms none none none [])] ⟨[("numbers", .ref 7), ("total", .int tt)], lA ms (some (.str SG)) none none []⟩ rfl ?f1 ?s1 rfl Exs.nil
  case s1 => walk_at "sub"
  case f1 => walk_at "ob2"

/-- signs[x % m] -/
theorem sgAt {σ : S} {value slice : Expr} {pos : Pos} {fd : FD} {j : Nat} (h1 : Ev c n fd value σ (.str SG) σ) (h2 : Ev c n fd slice σ (.int (j : Int)) σ) (hj : j < 4) (h3 : ∀ o i, subscripted slice false o i = operate [o, i] (getItem o i)) :
    Ev c n fd (.Subscript value slice pos) σ (.str (T [sg j])) σ := by
  rw [T_SG] at h1
  exact Ev.idxS h1 h2 (getD_some (l := sg4) hj) (by omega) h3

theorem cut_nts (ms : List Nat) (a b : Nat) : cut ((nts ms).map AV.int) (some (a : Int)) (some (b : Int)) = (nts ((ms.drop a).take (b - a))).map .int := by
  unfold cut cutLo cutHi
  simp only [Option.elim, clip_nat]
  unfold nts
  rw [List.map_take, List.map_drop, List.map_take, List.map_drop]
  simp only [List.length_map]
  by_cases ha : a ≤ ms.length
  · by_cases hb : b ≤ ms.length
    · rw [Nat.min_eq_left ha, Nat.min_eq_left hb]
    · rw [Nat.min_eq_left ha, Nat.min_eq_right (by omega)]
      rw [List.take_of_length_le (by simp), List.take_of_length_le (by simp; omega)]
  · rw [List.drop_eq_nil_of_le (by simp; omega), List.drop_eq_nil_of_le (by simp; omega)]; simp

theorem cut_nts0 (ms : List Nat) (b : Nat) : cut ((nts ms).map AV.int) none (some (b : Int)) = (nts (ms.take b)).map .int := by
  rw [cut_to]
  unfold nts
  rw [List.map_take, List.map_take]
theorem law3 (hK : c.K = KK P) (hx : c.XR = XRof LL1) {ms : List Nat} {tt : Nat} (hn : ms.length = 9) :
    Ex c (n + 1) (fdL P cq) (stK P 130 3) ⟨[("numbers", .ref 7), ("total", .int tt)], lA ms (some (.str SG)) none none []⟩ .next ⟨[("numbers", .ref 7), ("total", .int tt)], lA ms (some (.str SG)) (some (.str (T (wdN ms)))) none []⟩ := by
  have hz : sizeLine = 2 ^ 24 := sizeLine_eq
  have hzn : ((nts ms).map AV.int).length ≤ sizeLine := by rw [List.length_map, nts_len]; omega
  have hl6 : (ms.take 6).length = 6 := by rw [List.length_take]; omega
  have e0 := refs_nL (ms := ms) (m := 8)
  have hjo : CallR c (n + 1) (.builtin "str.join") [.str (Str.ofString ""), .ref 9] (lA ms (some (.str SG)) none none [nL (ms.take 6), .list ((sgs (wdN ms)).map .str)]) (.str (T (wdN ms))) (lA ms (some (.str SG)) none none [nL (ms.take 6), .list ((sgs (wdN ms)).map .str)]) := by
    rw [T_nil, ← join_sgs (wdN ms)]
    exact join_s rfl (sgs_joinOk _ (by unfold wdN; rw [List.length_map]; omega))
  refine Ex.cut (vs' := [("numbers", .ref 7), ("total", .int tt)]) (js := [nL (ms.take 6), .list ((sgs (wdN ms)).map .str)]) ?go rfl (by walk_at "clo") (vsLt_of rfl) (fun _ h => nomatch h)
  refine' (B1 hK hx).st 8 [(.ref 9, lA ms (some (.str SG)) none none [nL (ms.take 6), .list ((sgs (wdN ms)).map .str)]), (.str (T (wdN ms)), lA ms (some (.str SG)) none none [nL (ms.take 6), .list ((sgs (wdN ms)).map .str)])] ⟨[("numbers", .ref 7), ("total", .int tt)], lA ms (some (.str SG)) (some (.str (T (wdN ms)))) none [nL (ms.take 6), .list ((sgs (wdN ms)).map .str)]⟩ rfl ?f1 ?s1 rfl
  case s1 => walk_at "sub"
  case f1 =>
    walk_at "ob2"
    refine' Ev.mapAs (src := .list 8) (a := .ref 8) (vs := [("numbers", .ref 7), ("total", .int tt)]) (ms.take 6).length (fun _ => lA ms (some (.str SG)) none none [nL (ms.take 6)]) (fun k => .int ((nts (ms.take 6)).getD k 0)) (fun k => .str (T [sg ((ms.take 6).getD k 0 % 4)])) _ ?hacc ?h1 (.list rfl) (fun k hk => item_ints rfl (by rw [nts_len]; exact hk)) (by rw [← nts_len]; exact item_intsE rfl) ⟨_, rfl⟩ rfl ?turn (by omega) (compOk_of rfl rfl rfl rfl) (fun _ _ => rfl)
    case hacc =>
      rw [range_map (ms.take 6) 0 (fun x => AV.str (T [sg (x % 4)]))]
      unfold sgs wdN; rw [List.map_map, List.map_map]; rfl
    case h1 =>
      refine' (B1 hK hx).ev 8 [] rfl ?g1 rfl ?g2
      case g1 => walk_at "ob2"
      case g2 =>
        refine Eq.trans (b := ⟨[("numbers", .ref 7), ("total", .int tt)], lA ms (some (.str SG)) none none [.list (cut ((nts ms).map AV.int) none (some ((6 : Nat) : Int)))]⟩) rfl ?_
        rw [cut_nts0]; rfl
    case turn =>
      intro k hk
      refine ⟨_, sgAt ((B1 hK hx).ev 5 [] rfl trivial rfl rfl) ((B1 hK hx).ev 8 [] rfl ?_ ?_ rfl) (Nat.mod_lt _ (by decide)) (fun _ _ => rfl)⟩
      · walk_at "ob2"
      · show AV.int (Int.fmod ((nts (ms.take 6)).getD k 0) 4) = _
        rw [nts_getD]
        exact congrArg AV.int (fmod_nat _ 4)

theorem law4 (hK : c.K = KK P) (hx : c.XR = XRof LL1) {ms wd : List Nat} {tt : Nat} (hn : ms.length = 9) :
    Ex c (n + 1) (fdL P cq) (stK P 130 4) ⟨[("numbers", .ref 7), ("total", .int tt)], lA ms (some (.str SG)) (some (.str (T wd))) none []⟩ .next ⟨[("numbers", .ref 7), ("total", .int tt), ("ahead", .str (T (ahN ms)))], lA ms (some (.str SG)) (some (.str (T wd))) none []⟩ := by
  have hz : sizeLine = 2 ^ 24 := sizeLine_eq
  have hzn : ((nts ms).map AV.int).length ≤ sizeLine := by rw [List.length_map, nts_len]; omega
  have hl2 : ((ms.drop 6).take 2).length = 2 := by rw [List.length_take, List.length_drop]; omega
  have e0 := refs_nL (ms := ms) (m := 8)
  have hal : (ahN ms).length ≤ 2 := by
    unfold ahN
    rw [List.length_map]
    have := List.length_filter_le (fun x => decide (x % 5 < 4)) ((ms.drop 6).take 2)
    omega
  have hjo : CallR c (n + 1) (.builtin "str.join") [.str (Str.ofString ""), .ref 9] (lA ms (some (.str SG)) (some (.str (T wd))) none [nL ((ms.drop 6).take 2), .list ((sgs (ahN ms)).map .str)]) (.str (T (ahN ms))) (lA ms (some (.str SG)) (some (.str (T wd))) none [nL ((ms.drop 6).take 2), .list ((sgs (ahN ms)).map .str)]) := by
    rw [T_nil, ← join_sgs (ahN ms)]
    exact join_s rfl (sgs_joinOk _ (by omega))
  refine Ex.cut (vs' := [("numbers", .ref 7), ("total", .int tt), ("ahead", .str (T (ahN ms)))]) (js := [nL ((ms.drop 6).take 2), .list ((sgs (ahN ms)).map .str)]) ?go rfl (by walk_at "clo") (vsLt_of rfl) (fun _ h => nomatch h)
  refine' (B1 hK hx).st 8 [(.ref 9, lA ms (some (.str SG)) (some (.str (T wd))) none [nL ((ms.drop 6).take 2), .list ((sgs (ahN ms)).map .str)]), (.str (T (ahN ms)), lA ms (some (.str SG)) (some (.str (T wd))) none [nL ((ms.drop 6).take 2), .list ((sgs (ahN ms)).map .str)])] ⟨[("numbers", .ref 7), ("total", .int tt), ("ahead", .str (T (ahN ms)))], lA ms (some (.str SG)) (some (.str (T wd))) none [nL ((ms.drop 6).take 2), .list ((sgs (ahN ms)).map .str)]⟩ rfl ?f1 ?s1 rfl
  case s1 => walk_at "sub"
  case f1 =>
    walk_at "ob2"
    show Ev c (n + 1) _ _ _ (.ref (lA ms (some (.str SG)) (some (.str (T wd))) none [nL ((ms.drop 6).take 2)]).length) ⟨[("numbers", .ref 7), ("total", .int tt)], lA ms (some (.str SG)) (some (.str (T wd))) none [nL ((ms.drop 6).take 2)] ++ [.list ((sgs (ahN ms)).map .str)]⟩
    refine' Ev.mapIf (os := lA ms (some (.str SG)) (some (.str (T wd))) none [nL ((ms.drop 6).take 2)]) (src := .list 8) (a := .ref 8) (vs := [("numbers", .ref 7), ("total", .int tt)]) ((ms.drop 6).take 2).length (fun k => .int ((nts ((ms.drop 6).take 2)).getD k 0)) (fun k => .str (T [sg (((ms.drop 6).take 2).getD k 0 % 5)])) (fun k => decide (((ms.drop 6).take 2).getD k 0 % 5 < 4)) _ ?hacc ?h1 (.list rfl) (fun k hk => item_ints rfl (by rw [nts_len]; exact hk)) (by rw [← nts_len]; exact item_intsE rfl) ⟨_, rfl⟩ rfl ?turn (by omega) (compOk_of rfl rfl rfl rfl) (fun _ _ => rfl)
    case hacc =>
      rw [filter_map ((ms.drop 6).take 2) 0 (fun x => AV.str (T [sg (x % 5)])) (fun x => decide (x % 5 < 4))]
      unfold sgs ahN; rw [List.map_map, List.map_map]; rfl
    case h1 =>
      refine' (B1 hK hx).ev 8 [] rfl ?g1 rfl ?g2
      case g1 => walk_at "ob2"
      case g2 =>
        refine Eq.trans (b := ⟨[("numbers", .ref 7), ("total", .int tt)], lA ms (some (.str SG)) (some (.str (T wd))) none [.list (cut ((nts ms).map AV.int) (some ((6 : Nat) : Int)) (some ((8 : Nat) : Int)))]⟩) rfl ?_
        rw [cut_nts]; rfl
    case turn =>
      intro k hk
      have e5 : Int.fmod ((nts ((ms.drop 6).take 2)).getD k 0) 5 = ((((ms.drop 6).take 2).getD k 0 % 5 : Nat) : Int) := by rw [nts_getD]; exact fmod_nat _ 5
      refine ⟨[("x", .int ((nts ((ms.drop 6).take 2)).getD k 0))], (B1 hK hx).tst 8 [] rfl ?_ ?_ rfl, fun hb => ⟨[("x", .int ((nts ((ms.drop 6).take 2)).getD k 0))], sgAt ((B1 hK hx).ev 5 [] rfl trivial rfl rfl) ((B1 hK hx).ev 8 [] rfl ?_ ?_ rfl) (of_decide_eq_true hb) (fun _ _ => rfl)⟩⟩
      · walk_at "ob2"
      · show decide (Int.fmod ((nts ((ms.drop 6).take 2)).getD k 0) 5 < 4) = _
        rw [e5]
        exact decide_eq_decide.mpr (by omega)
      · walk_at "ob2"
      · exact congrArg AV.int e5
end

noncomputable section
variable {c : Cx} {n : Nat} {P : Params} {cq : Option (Value × Str)}

noncomputable def vsA (tt : Nat) (ah : List Nat) (vs : List (Str × AV)) : List (Str × AV) := ("numbers", .ref 7) :: ("total", .int tt) :: ("ahead", .str (T ah)) :: vs
noncomputable def lB (ms wd : List Nat) (c3 : Option AV) (js : List AO) : List AO := lA ms (some (.str SG)) (some (.str (T wd))) c3 js

theorem rot_cuts (l : List Nat) (k : Nat) : cutS (T l) (some (k : Int)) none ++ cutS (T l) none (some (k : Int)) = T (rot k l) := by
  rw [cutS_T, cutS_T, cut_from, cut_to, T_app]; rfl

theorem law5 (hK : c.K = KK P) (hx : c.XR = XRof LL1) {ms ah wd : List Nat} {tt : Nat} (hw : wd.length ≤ 30) :
    Ex c (n + 1) (fdL P cq) (stK P 130 5) ⟨vsA tt ah [], lB ms wd none []⟩ .next ⟨vsA tt ah [("turned", .str (T (rot (tt % 6) wd)))], lB ms wd none []⟩ := by
  have hz : sizeLine = 2 ^ 24 := sizeLine_eq
  have hzw : (T wd).length ≤ sizeLine := by rw [T_len]; omega
  have e6 : Int.fmod (tt : Int) 6 = ((tt % 6 : Nat) : Int) := fmod_nat tt 6
  have hcz : (cutS (T wd) (some (Int.fmod (tt : Int) 6)) none).length + (cutS (T wd) none (some (Int.fmod (tt : Int) 6))).length ≤ sizeLine := by
    rw [e6, cutS_T, cutS_T, T_len, T_len, cut_from, cut_to, List.length_drop, List.length_take]; omega
  refine Ex.less (Ex.assign' (v := .str (T (rot (tt % 6) wd))) (σ₁ := ⟨vsA tt ah [], lB ms wd none []⟩) ?v (sto_ok rfl) (fun _ => rfl)) (by walk_at "sub") rfl
  refine (B1 hK hx).ev 12 [] rfl ?f1 ?f2 rfl
  case f1 => walk_at "ob2"
  case f2 =>
    show AV.str (cutS (T wd) (some (Int.fmod (tt : Int) 6)) none ++ cutS (T wd) none (some (Int.fmod (tt : Int) 6))) = _
    rw [e6, rot_cuts]

noncomputable def midO (u v w : List Nat) : AO := .list [.str (T u), .str (T v), .str (T w)]

theorem law6 (hK : c.K = KK P) (hx : c.XR = XRof LL1) {ms ah wd u : List Nat} {tt : Nat} (hn : ms.length = 9) (hu : u.length = 6) :
    Ex c (n + 1) (fdL P cq) (stK P 130 6) ⟨vsA tt ah [("turned", .str (T u))], lB ms wd none []⟩ .next ⟨vsA tt ah [("middles", .ref 8)], lB ms wd none [midO u ([u.getD 1 0, u.getD 0 0] ++ u.drop 2) (sg (ms.getD 8 0 % 4) :: u.drop 1)]⟩ := by
  have hz : sizeLine = 2 ^ 24 := sizeLine_eq
  have hzu : (T u).length ≤ sizeLine := by rw [T_len]; omega
  let σ : S := ⟨vsA tt ah [("turned", .str (T u))], lB ms wd none []⟩
  have z1 : (T [u.getD 1 0]).length + (T [u.getD 0 0]).length ≤ sizeLine := by rw [T_len, T_len, hz]; exact Nat.le_of_ble_eq_true rfl
  have z2 : (T [u.getD 1 0] ++ T [u.getD 0 0]).length + (cutS (T u) (some 2) none).length ≤ sizeLine := by
    rw [T_app, cutS_T, show (2 : Int) = ((2 : Nat) : Int) from rfl, cut_from, T_len, T_len, List.length_drop]; simp; omega
  have z3 : (T [sg (ms.getD 8 0 % 4)]).length + (cutS (T u) (some 1) none).length ≤ sizeLine := by
    rw [cutS_T, show (1 : Int) = ((1 : Nat) : Int) from rfl, cut_from, T_len, T_len, List.length_drop]; simp; omega
  refine Ex.less (Ex.assign' (v := .ref 8) (σ₁ := ⟨vsA tt ah [("turned", .str (T u))], lB ms wd none [midO u ([u.getD 1 0, u.getD 0 0] ++ u.drop 2) (sg (ms.getD 8 0 % 4) :: u.drop 1)]⟩) ?v (sto_ok rfl) (fun _ => rfl)) (by walk_at "sub") rfl
  refine Ev.list (σ₁ := σ) (vs := [.str (T u), .str (T ([u.getD 1 0, u.getD 0 0] ++ u.drop 2)), .str (T (sg (ms.getD 8 0 % 4) :: u.drop 1))]) (Evs.cons (σ₁ := σ) ?e1 (Evs.cons (σ₁ := σ) ?e2 (Evs.cons (σ₁ := σ) ?e3 Evs.nil ?q3) ?q2) ?q1) (Nat.le_trans (show 3 ≤ 1000 by decide) sz1000)
  case q1 => exact fun _ => rfl
  case q2 => exact fun _ => rfl
  case q3 => exact fun _ => rfl
  case e1 => exact (B1 hK hx).ev 5 [] rfl trivial rfl rfl
  case e2 =>
    refine' (B1 hK hx).ev' 8 [(.str (T [u.getD 1 0]), σ.os), (.str (T [u.getD 0 0]), σ.os)] rfl ?f1 ?f2 rfl
    case f1 =>
      walk_at "ob2"
      · exact Ev.idxS (j := 1) ((B1 hK hx).ev 5 [] rfl trivial rfl rfl) ((B1 hK hx).ev 5 [] rfl trivial rfl rfl) (getD_some (by omega)) (by decide) (fun _ _ => rfl)
      · exact Ev.idxS (j := 0) ((B1 hK hx).ev 5 [] rfl trivial rfl rfl) ((B1 hK hx).ev 5 [] rfl trivial rfl rfl) (getD_some (by omega)) (by decide) (fun _ _ => rfl)
    case f2 =>
      show AV.str (T [u.getD 1 0] ++ T [u.getD 0 0] ++ cutS (T u) (some ((2 : Nat) : Int)) none) = _
      rw [cutS_T, cut_from, T_app, T_app]; rfl
  case e3 =>
    refine' (B1 hK hx).ev' 8 [(.str (T [sg (ms.getD 8 0 % 4)]), σ.os)] rfl ?g1 ?g2 rfl
    case g1 =>
      walk_at "ob2"
      refine sgAt ((B1 hK hx).ev 5 [] rfl trivial rfl rfl) ?h1 (Nat.mod_lt _ (by decide)) (fun _ _ => rfl)
      refine' (B1 hK hx).ev' 8 [(.int ((ms.getD 8 0 : Nat) : Int), σ.os)] rfl ?h2 ?h3 rfl
      case h2 =>
        walk_at "ob2"
        refine Ev.idxL (i := 7) (j := 8) (xs := (nts ms).map .int) ((B1 hK hx).ev 5 [] rfl trivial rfl rfl) ((B1 hK hx).ev 5 [] rfl trivial rfl rfl) rfl ?h4 (by decide) (fun _ _ => rfl)
        rw [List.getElem?_map]
        unfold nts
        rw [List.getElem?_map, getD_some (by omega)]; rfl
      case h3 => exact congrArg AV.int (fmod_nat _ 4)
    case g2 =>
      show AV.str (T [sg (ms.getD 8 0 % 4)] ++ cutS (T u) (some ((1 : Nat) : Int)) none) = _
      rw [cutS_T, cut_from, T_app]; rfl

theorem law7 (hK : c.K = KK P) (hx : c.XR = XRof LL1) {ms ah wd u v w : List Nat} {tt : Nat} (ha : ah.length ≤ 10) (h4 : Four ah) (hu : u.length ≤ 20) (hv : v.length ≤ 20) (hw : w.length ≤ 20) :
    Ex c (n + 4) (fdL P cq) (stK P 130 7) ⟨vsA tt ah [("middles", .ref 8)], lB ms wd none [midO u v w]⟩ .next ⟨[("numbers", .ref 7), ("total", .int tt)], lB ms wd (some (.str (T (ah ++ [u, v, w].getD (tt / 6 % 3) [] ++ undL ah)))) [midO u v w]⟩ := by
  have hz : sizeLine = 2 ^ 24 := sizeLine_eq
  have e0 := refs_nL (ms := ms) (m := 8)
  have h3 : tt / 6 % 3 < 3 := Nat.mod_lt _ (by decide)
  have hgl : ([u, v, w].getD (tt / 6 % 3) []).length ≤ 20 := by
    have key : ∀ j, j < 3 → ([u, v, w].getD j []).length ≤ 20 := fun j hj => by
      match j, hj with
      | 0, _ => exact hu
      | 1, _ => exact hv
      | 2, _ => exact hw
    exact key _ h3
  have hul : (undL ah).length = ah.length := by unfold undL; simp
  have z1 : (T ah).length + (T ([u, v, w].getD (tt / 6 % 3) [])).length ≤ sizeLine := by rw [T_len, T_len]; omega
  have z2 : (T ah ++ T ([u, v, w].getD (tt / 6 % 3) [])).length + (T (undL ah)).length ≤ sizeLine := by rw [T_app, T_len, T_len, List.length_append]; omega
  refine Ex.less (Ex.assign' (v := .str (T (ah ++ [u, v, w].getD (tt / 6 % 3) [] ++ undL ah))) (σ₁ := ⟨vsA tt ah [("middles", .ref 8)], lB ms wd none [midO u v w]⟩) ?v (sto_ok rfl) (fun _ => rfl)) (by walk_at "sub") rfl
  refine' (B1 hK hx).ev' 8 [(.str (T ([u, v, w].getD (tt / 6 % 3) [])), lB ms wd none [midO u v w]), (.str (T (undL ah)), lB ms wd none [midO u v w])] rfl ?f1 ?f2 rfl
  case f2 =>
    show AV.str (T ah ++ T ([u, v, w].getD (tt / 6 % 3) []) ++ T (undL ah)) = _
    rw [T_app, T_app]
  case f1 =>
    have hund : CallR c (n + 4) (.ref 94) [.str (T ah)] (lB ms wd none [midO u v w]) (.str (T (undL ah))) (lB ms wd none [midO u v w]) := Op.bare (undoingD hK hx (by omega) h4) (fun _ => rfl) fun _ => rfl
    walk_at "ob2"
    refine Ev.idxL (i := 8) (j := tt / 6 % 3) (xs := [.str (T u), .str (T v), .str (T w)]) ((B1 hK hx).ev 5 [] rfl trivial rfl rfl) ?g1 rfl ?g2 (by omega) (fun _ _ => rfl)
    case g1 =>
      refine' (B1 hK hx).ev 8 [] rfl ?g3 ?g4 rfl
      case g3 => walk_at "ob2"
      case g4 =>
        show AV.int (Int.fmod (Int.fdiv (tt : Int) ((6 : Nat) : Int)) ((3 : Nat) : Int)) = _
        rw [fdiv_nat, fmod_nat]
    case g2 =>
      have key : ∀ j, j < 3 → [AV.str (T u), AV.str (T v), AV.str (T w)][j]? = some (AV.str (T ([u, v, w].getD j []))) := fun j hj => by
        match j, hj with
        | 0, _ => rfl
        | 1, _ => rfl
        | 2, _ => rfl
      exact key _ h3

theorem Ex.up {m : Nat} {fd : FD} {st : Stmt} {σ σ₁ : S} {f : AF} (h : n ≤ m) (g : Ex c n fd st σ f σ₁) : Ex c m fd st σ f σ₁ := fun env A ρ s rm => g env A ρ s (rm.down h)
theorem Exs.up {m : Nat} {fd : FD} {st : List Stmt} {σ σ₁ : S} {f : AF} (h : n ≤ m) (g : Exs c n fd st σ f σ₁) : Exs c m fd st σ f σ₁ := fun env A ρ s rm => g env A ρ s (rm.down h)

theorem wdN_len {ms : List Nat} (hn : ms.length = 9) : (wdN ms).length = 6 := by unfold wdN; rw [List.length_map, List.length_take]; omega
theorem sg_four {j : Nat} (h : j < 4) : sg j = 97 ∨ sg j = 34 ∨ sg j = 32 ∨ sg j = 92 := by
  revert j; decide
theorem wd_four (ms : List Nat) : Four (wdN ms) := fun x hx => by
  unfold wdN at hx
  obtain ⟨y, _, rfl⟩ := List.mem_map.mp hx
  exact sg_four (Nat.mod_lt _ (by decide))
theorem ah_four (ms : List Nat) : Four (ahN ms) := fun x hx => by
  unfold ahN at hx
  obtain ⟨y, hy, rfl⟩ := List.mem_map.mp hx
  exact sg_four (of_decide_eq_true (List.mem_filter.mp hy).2)
theorem ah_len (ms : List Nat) : (ahN ms).length ≤ 2 := by
  unfold ahN
  rw [List.length_map]
  have := List.length_filter_le (fun x => decide (x % 5 < 4)) ((ms.drop 6).take 2)
  have h2 : ((ms.drop 6).take 2).length ≤ 2 := by rw [List.length_take]; omega
  omega

/-- from the numbers to the two words -/
theorem lawWords (hK : c.K = KK P) (hx : c.XR = XRof LL1) {ms : List Nat} {tt : Nat} (hn : ms.length = 9) (ht : (nts ms).sum = (tt : Int)) :
    Exs c (n + 4) (fdL P cq) [stK P 130 1, stK P 130 2, stK P 130 3, stK P 130 4, stK P 130 5, stK P 130 6, stK P 130 7] ⟨[("numbers", .ref 7)], lA ms none none none []⟩ .next ⟨[("numbers", .ref 7), ("total", .int tt)], lB ms (wdN ms) (some (.str (T (mtN ms tt)))) []⟩ := by
  have hw := wdN_len hn
  have hu : (tuN ms tt).length = 6 := by unfold tuN; rw [rot_len (by have := Nat.mod_lt tt (show 0 < 6 by decide); omega)]; exact hw
  have e0 := refs_nL (ms := ms) (m := 8)
  refine Exs.append (a := [stK P 130 1, stK P 130 2]) (Exs.up (Nat.le_add_left 1 _) (law12 (n := 0) hK hx ht)) ?_
  refine Exs.cons (Ex.up (by omega) (law3 (n := 0) hK hx hn)) ?_
  refine Exs.cons (Ex.up (by omega) (law4 (n := 0) hK hx hn)) ?_
  refine Exs.cons (σ₁ := ⟨vsA tt (ahN ms) [("turned", .str (T (tuN ms tt)))], lB ms (wdN ms) none []⟩) (Ex.up (by omega) (law5 (n := 0) hK hx (by omega))) ?_
  refine Exs.cut (vs' := [("numbers", .ref 7), ("total", .int tt)]) (js := [midO (tuN ms tt) (m2N ms tt) (m3N ms tt)]) ?go rfl (by walk_at "clo") (vsLt_of rfl) (fun _ h => nomatch h)
  refine Exs.cons (σ₁ := ⟨vsA tt (ahN ms) [("middles", .ref 8)], lB ms (wdN ms) none [midO (tuN ms tt) (m2N ms tt) (m3N ms tt)]⟩) (Ex.up (by omega) (law6 (n := 0) hK hx hn hu)) ?_
  refine Exs.cons (law7 (n := n) hK hx (by have := ah_len ms; omega) (ah_four ms) (by omega) ?v ?w) Exs.nil
  · unfold m2N; rw [List.length_append, List.length_drop]; simp; omega
  · unfold m3N; rw [List.length_cons, List.length_drop]; omega
end

noncomputable section
variable {c : Cx} {n : Nat} {P : Params} {cq : Option (Value × Str)}

/-! ### the pairs -/
noncomputable def inr (ws : List (List Nat)) : List AO := ws.map fun w => AO.list [.str (T w), .str (Str.ofString "")]
noncomputable def withN (ws : List (List Nat)) : List (List Nat × List Nat) := ws.map fun w => (w, [])
theorem inr_app (a b : List (List Nat)) : inr (a ++ b) = inr a ++ inr b := List.map_append
theorem withN_app (a b : List (List Nat)) : withN (a ++ b) = withN a ++ withN b := List.map_append

theorem nestAll {fd : FD} {gens : List Comprehension} {scope : Scope} {pos p1 p2 p3 p4 p5 pe : Pos} {iter : Expr} {i : Nat} {os : List AO} (ws : List (List Nat)) (hl : ws.length ≤ 100) (ho : os[i]? = some (.list (avs ws)))
    (hg : gens = [⟨.Name "two" p1, iter, [], 0⟩, ⟨.Name "half" p2, .List [.Name "two" p3, .Constant (.str (Str.ofString "")) 0 p4] p5, [], 0⟩])
    (n1 : fd.scope.names.lookup (Str.ofString "two") = some .local) (n2 : fd.scope.names.lookup (Str.ofString "half") = some .local) (hk : fd.scope.kind = .function) :
    Cp c n fd (.Name "half" pe) gens scope pos 0 (.list i) 0 ⟨[], os⟩ [] ⟨[], os ++ inr ws⟩ (flatPs (withN ws)) := by
  have ho' : ∀ js : List AO, (os ++ js)[i]? = some (.list (avs ws)) := fun js => getElem?_mono ho
  have key : ∀ m k, k + m = ws.length → Cp c n fd (.Name "half" pe) gens scope pos 0 (.list i) k ⟨[], os ++ inr (ws.take k)⟩ (flatPs (withN (ws.take k))) ⟨[], os ++ inr ws⟩ (flatPs (withN ws)) := by
    intro m
    induction m with
    | zero =>
      intro k hk0
      have e : ws.take k = ws := List.take_of_length_le (by omega)
      rw [e]
      exact Cp.done (x := "two") (px := p1) (iter := iter) (ifs := []) (by rw [hg]; rfl) (by rw [show k = ws.length by omega]; exact item_avsE (ho' _)) ⟨_, ho' _⟩
    | succ m ih =>
      intro k hkm
      have hk1 : k < ws.length := by omega
      have hts : ws.take (k + 1) = ws.take k ++ [ws.getD k []] := by rw [List.take_add_one, List.getElem?_eq_getElem hk1, List.getD_eq_getElem?_getD, List.getElem?_eq_getElem hk1]; rfl
      have hz := sz1000
      have hfl : (flatPs (withN (ws.take k))).length ≤ 1000 := by rw [flatPs_len]; unfold withN; rw [List.length_map, List.length_take]; omega
      have go := ih (k + 1) (by omega)
      rw [hts, inr_app, withN_app, flatPs_app, ← List.append_assoc] at go
      have hv : (Src.list i).item (os ++ inr (ws.take k)) k = some (.str (T (ws.getD k []))) := item_avs (ho' _) hk1
      refine Cp.nest (a := .ref (os ++ inr (ws.take k)).length) (src' := .list (os ++ inr (ws.take k)).length) (v := .str (T (ws.getD k []))) (x := "two") (px := p1) (iter := iter) (σ₁ := ⟨put "two" (.str (T (ws.getD k []))) [], os ++ inr (ws.take k)⟩) (σ₂ := ⟨put "two" (.str (T (ws.getD k []))) [], os ++ inr (ws.take k) ++ inr [ws.getD k []]⟩) (σ₃ := ⟨[], os ++ inr (ws.take k) ++ inr [ws.getD k []]⟩)
        (acc₁ := flatPs (withN (ws.take k)) ++ flatPs (withN [ws.getD k []])) hv (.loc n1) ?i1 (.list at_last) ?i2 go (by rw [hg]; rfl) (by rw [hg]; rfl) (fun _ _ => rfl) hk
      · refine Ev.list (vs := [.str (T (ws.getD k [])), .str (Str.ofString "")]) (Evs.cons (Ev.loc (by rw [lookup_put, if_pos rfl]) n1 hk (by decide)) (Evs.cons Ev.str Evs.nil (fun _ => rfl)) (fun _ => rfl)) (Nat.le_trans (show 2 ≤ 1000 by decide) hz)
      · have h2 := Cp.two (c := c) (n := n) (fd := fd) (y := "half") (pe := pe) (pos := pos) (gens := gens) (scope := scope) (d := 1) (i := (os ++ inr (ws.take k)).length) (px := p2) (iter := .List [.Name "two" p3, .Constant (.str (Str.ofString "")) 0 p4] p5) (a := .str (T (ws.getD k []))) (b := .str (Str.ofString "")) (acc := flatPs (withN (ws.take k))) (vs := put "two" (.str (T (ws.getD k []))) []) (os := os ++ inr (ws.take k) ++ inr [ws.getD k []]) at_last n2 (by rw [hg]; rfl) (by rw [hg]; rfl) hfl (by decide) hk
        rw [T_nil] at h2
        exact h2
  have := key ws.length 0 (by omega)
  simpa [inr, withN, flatPs] using this

noncomputable def tw4 : List (List Nat) := [[97, 34], [34, 97], [32, 92], [92, 32]]
noncomputable def rotW (k : Nat) (ws : List (List Nat)) : List (List Nat) := ws.drop k ++ ws.take k
theorem T_tw : [AV.str (Str.ofString "a\""), .str (Str.ofString "\"a"), .str (Str.ofString " \\"), .str (Str.ofString "\\ ")] = avs tw4 := by
  unfold avs tw4
  rw [show Str.ofString "a\"" = T [97, 34] by decide +kernel, show Str.ofString "\"a" = T [34, 97] by decide +kernel, show Str.ofString " \\" = T [32, 92] by decide +kernel, show Str.ofString "\\ " = T [92, 32] by decide +kernel]; rfl
theorem refs_avs {ws : List (List Nat)} {m : Nat} : RefsLt m (AO.list (avs ws)).refs := refsLt_strs
theorem avs_drop (ws : List (List Nat)) (k : Nat) : (avs ws).drop k = avs (ws.drop k) := by unfold avs; rw [List.map_drop, List.map_drop]
theorem avs_take (ws : List (List Nat)) (k : Nat) : (avs ws).take k = avs (ws.take k) := by unfold avs; rw [List.map_take, List.map_take]
theorem avs_app (a b : List (List Nat)) : avs a ++ avs b = avs (a ++ b) := by unfold avs; rw [List.map_append, List.map_append]
noncomputable def ordN (tt : Nat) : List (List Nat) := rotW (tt % 4) tw4
theorem ord_len (tt : Nat) : (ordN tt).length = 4 := by unfold ordN rotW tw4; simp; omega

noncomputable def vsN (tt : Nat) (vs : List (Str × AV)) : List (Str × AV) := ("numbers", .ref 7) :: ("total", .int tt) :: vs
noncomputable def lC (ms wd mt : List Nat) (c4 c5 c6 : Option AV) (js : List AO) : List AO := lO [] (some (.str SG)) (some (.str (T wd))) (some (.str (T mt))) c4 c5 c6 ([nL ms] ++ js)

theorem law89 (hK : c.K = KK P) (hx : c.XR = XRof LL1) {ms wd mt : List Nat} {tt : Nat} :
    Exs c (n + 1) (fdL P cq) [stK P 130 8, stK P 130 9] ⟨vsN tt [], lC ms wd mt none none none []⟩ .next ⟨vsN tt [("order", .ref 8)], lC ms wd mt none none none [.list (avs (ordN tt))]⟩ := by
  have hz : sizeLine = 2 ^ 24 := sizeLine_eq
  have e4 : Int.fmod (tt : Int) 4 = ((tt % 4 : Nat) : Int) := fmod_nat tt 4
  have e0 := refs_nL (ms := ms) (m := 9)
  have e1 := refs_avs (ws := ordN tt) (m := 9)
  have l4 : (avs tw4).length ≤ sizeLine := Nat.le_trans (show 4 ≤ 1000 by decide) sz1000
  have hcz : (cut (avs tw4) (some (Int.fmod (tt : Int) 4)) none).length + (cut (avs tw4) none (some (Int.fmod (tt : Int) 4))).length ≤ sizeLine := by
    rw [e4, cut_from, cut_to, List.length_drop, List.length_take]
    have : (avs tw4).length = 4 := rfl
    omega
  refine Exs.sel (os₁ := lC ms wd mt none none none [.list (avs tw4), .list (avs (tw4.drop (tt % 4))), .list (avs (tw4.take (tt % 4))), .list (avs (ordN tt))]) (vs' := vsN tt [("order", .ref 11)]) (f := .next) 8 [11] ?go rfl (by decide) ?held ?cl ?sub rfl
  case held => exact ⟨rfl, rfl, rfl, rfl, rfl, rfl, rfl, by show some (nL ms) = some (AO.list (((nts ms).map AV.int).map (AV.ren _))); rw [ren_ints]; rfl, by show some (AO.list (avs (ordN tt))) = some (AO.list ((avs (ordN tt)).map (AV.ren _))); rw [avs_ren], trivial⟩
  case cl => walk_at "clo"
  case sub => exact ⟨rfl, fun _ _ => trivial, rfl, fun _ _ => trivial, rfl, fun _ _ => trivial, trivial⟩
  case go =>
    refine Exs.cons (σ₁ := ⟨vsN tt [("twos", .ref 8)], lC ms wd mt none none none [.list (avs tw4)]⟩) ?s8 (Exs.cons (σ₁ := ⟨vsN tt [("order", .ref 11)], lC ms wd mt none none none [.list (avs tw4), .list (avs (tw4.drop (tt % 4))), .list (avs (tw4.take (tt % 4))), .list (avs (ordN tt))]⟩) ?s9 Exs.nil)
    case s8 =>
      refine' (B1 hK hx).st 8 [] ⟨vsN tt [("twos", .ref 8)], lC ms wd mt none none none [.list (avs tw4)]⟩ rfl ?f1 ?u1 ?o1
      case f1 => walk_at "ob2"
      case u1 => walk_at "sub"
      case o1 =>
        refine Eq.trans (b := lC ms wd mt none none none [.list [AV.str (Str.ofString "a\""), .str (Str.ofString "\"a"), .str (Str.ofString " \\"), .str (Str.ofString "\\ ")]]) rfl ?_
        rw [T_tw]
    case s9 =>
      refine' (B1 hK hx).st 8 [] ⟨vsN tt [("order", .ref 11)], lC ms wd mt none none none [.list (avs tw4), .list (avs (tw4.drop (tt % 4))), .list (avs (tw4.take (tt % 4))), .list (avs (ordN tt))]⟩ rfl ?f2 ?u2 ?o2
      case f2 => walk_at "ob2"
      case u2 => walk_at "sub"
      case o2 =>
        refine Eq.trans (b := lC ms wd mt none none none [.list (avs tw4), .list (cut (avs tw4) (some (Int.fmod (tt : Int) 4)) none), .list (cut (avs tw4) none (some (Int.fmod (tt : Int) 4))), .list (cut (avs tw4) (some (Int.fmod (tt : Int) 4)) none ++ cut (avs tw4) none (some (Int.fmod (tt : Int) 4)))]) rfl ?_
        rw [e4, cut_from, cut_to, avs_drop, avs_take, avs_app]; rfl

noncomputable def psN (tt : Nat) : List (List Nat × List Nat) := withN (ordN tt)
noncomputable def poN (tt : Nat) : List (List Nat × List Nat) := withN (ordN tt).reverse

theorem law10 (hK : c.K = KK P) (hx : c.XR = XRof LL1) {ms wd mt : List Nat} {tt : Nat} :
    Ex c (n + 1) (fdL P cq) (stK P 130 10) ⟨vsN tt [("order", .ref 8)], lC ms wd mt none none none [.list (avs (ordN tt))]⟩ .next ⟨vsN tt [("order", .ref 8)], lC ms wd mt (some (.ref (8 + 1 + 4))) none none ([.list (avs (ordN tt))] ++ inr (ordN tt) ++ [.list (flatPs (psN tt))])⟩ := by
  have h4 := ord_len tt
  refine Ex.less (Ex.assign (v := .ref (lC ms wd mt none none none ([.list (avs (ordN tt))] ++ inr (ordN tt))).length) (σ₁ := ⟨vsN tt [("order", .ref 8)], lC ms wd mt none none none ([.list (avs (ordN tt))] ++ inr (ordN tt)) ++ [.list (flatPs (psN tt))]⟩) ?v (sto_ok rfl) (fun env he => by cases env; dsimp only at he; subst he; rfl)) (by walk_at "sub") ?e
  case e =>
    show (lC ms wd mt (some (.ref (lC ms wd mt none none none ([.list (avs (ordN tt))] ++ inr (ordN tt))).length)) none none ([.list (avs (ordN tt))] ++ inr (ordN tt) ++ [.list (flatPs (psN tt))])) = _
    rw [show (lC ms wd mt none none none ([.list (avs (ordN tt))] ++ inr (ordN tt))).length = 8 + 1 + 4 by simp [lC, lO, inr, h4]]
  case v =>
    refine Ev.comp (σ₁ := ⟨vsN tt [("order", .ref 8)], lC ms wd mt none none none [.list (avs (ordN tt))]⟩) (σ₂ := ⟨[], lC ms wd mt none none none ([.list (avs (ordN tt))] ++ inr (ordN tt))⟩) (a := .ref 8) (src := .list 8) ?h1 ?hi ?h2 ⟨_, rfl⟩ ?hc ?h3
    case hi => exact .list rfl
    case hc => exact compOk_of rfl rfl rfl rfl
    case h3 => exact fun _ _ => rfl
    case h1 => exact (B1 hK hx).ev 5 [] rfl trivial rfl rfl
    case h2 => exact nestAll (os := lC ms wd mt none none none [.list (avs (ordN tt))]) (ordN tt) (by omega) rfl rfl rfl rfl rfl
end

noncomputable section
variable {c : Cx} {n : Nat} {P : Params} {cq : Option (Value × Str)}

noncomputable def prO (ps : List (List Nat × List Nat)) : AO := .list (flatPs ps)
theorem law11 (hK : c.K = KK P) (hx : c.XR = XRof LL1) {ms wd mt a b d e : List Nat} {tt : Nat} :
    Ex c (n + 1) (fdL P cq) (stK P 130 11) ⟨vsN tt [("order", .ref 8)], lC ms wd mt (some (.ref 13)) none none ([.list (avs [a, b, d, e])] ++ inr [a, b, d, e] ++ [prO (withN [a, b, d, e])])⟩ .next
      ⟨vsN tt [("other", .ref 19)], lC ms wd mt (some (.ref 13)) none none ([.list (avs [a, b, d, e])] ++ inr [a, b, d, e] ++ [prO (withN [a, b, d, e])] ++ [.list (avs [e, d, b, a])] ++ inr [e, d, b, a] ++ [prO (withN [e, d, b, a])])⟩ := by
  have hz : sizeLine = 2 ^ 24 := sizeLine_eq
  have hza : (avs [a, b, d, e]).length ≤ sizeLine := Nat.le_trans (show 4 ≤ 1000 by decide) sz1000
  refine Ex.less (Ex.assignComp (σ₁ := ⟨vsN tt [("order", .ref 8)], lC ms wd mt (some (.ref 13)) none none ([.list (avs [a, b, d, e])] ++ inr [a, b, d, e] ++ [prO (withN [a, b, d, e])] ++ [.list (avs [e, d, b, a])])⟩) (σ₂ := ⟨[], lC ms wd mt (some (.ref 13)) none none ([.list (avs [a, b, d, e])] ++ inr [a, b, d, e] ++ [prO (withN [a, b, d, e])] ++ [.list (avs [e, d, b, a])] ++ inr [e, d, b, a])⟩) (a := .ref 14) (src := .list 14) (acc := flatPs (withN [e, d, b, a])) ?h1 ?hi ?h2 (sto_ok rfl) ⟨_, rfl⟩ ?hc ?h4 rfl ?h3) (by walk_at "sub") rfl
  case hi => exact .list rfl
  case hc => exact compOk_of rfl rfl rfl rfl
  case h3 => exact fun _ _ => rfl
  case h4 => exact fun env he => by cases env; dsimp only at he; subst he; rfl
  case h1 =>
    refine' (B1 hK hx).ev 8 [(.ref 14, lC ms wd mt (some (.ref 13)) none none ([.list (avs [a, b, d, e])] ++ inr [a, b, d, e] ++ [prO (withN [a, b, d, e])] ++ [.list (avs [e, d, b, a])]))] rfl ?f1 rfl rfl
    walk_at "ob2"
    have := slice_lr (c := c) (n := n + 1) (i := 8) (xs := avs [a, b, d, e]) (os := lC ms wd mt (some (.ref 13)) none none ([.list (avs [a, b, d, e])] ++ inr [a, b, d, e] ++ [prO (withN [a, b, d, e])])) rfl hza
    exact this
  case h2 =>
    refine nestAll (os := lC ms wd mt (some (.ref 13)) none none ([.list (avs [a, b, d, e])] ++ inr [a, b, d, e] ++ [prO (withN [a, b, d, e])] ++ [.list (avs [e, d, b, a])])) [e, d, b, a] (by simp) ?x1 rfl ?x3 ?x4 ?x5
    all_goals rfl

theorem four_of {α : Type} {l : List α} (h : l.length = 4) : ∃ a b d e, l = [a, b, d, e] := by
  exact len4 h
noncomputable def lD (ms wd mt : List Nat) (tt : Nat) (c5 c6 : Option AV) (js : List AO) : List AO := lC ms wd mt (some (.ref 8)) c5 c6 ([prO (psN tt), prO (poN tt)] ++ js)
theorem prO_ren (ps : List (List Nat × List Nat)) (r : Nat → Nat) : (prO ps).ren r = prO ps := flatO_ren ps r
theorem refs_pr {m : Nat} {ps : List (List Nat × List Nat)} : RefsLt m (prO ps).refs := refs_flat'
theorem nL_ren (ms : List Nat) (r : Nat → Nat) : (nL ms).ren r = nL ms := by show AO.list (((nts ms).map AV.int).map (AV.ren r)) = _; rw [ren_ints]; rfl

theorem lawPairs (hK : c.K = KK P) (hx : c.XR = XRof LL1) {ms wd mt : List Nat} {tt : Nat} :
    Exs c (n + 1) (fdL P cq) [stK P 130 8, stK P 130 9, stK P 130 10, stK P 130 11] ⟨vsN tt [], lC ms wd mt none none none []⟩ .next ⟨vsN tt [("other", .ref 9)], lD ms wd mt tt none none []⟩ := by
  obtain ⟨a, b, d, e, hod⟩ := four_of (ord_len tt)
  have l89 := law89 (n := n) (P := P) (cq := cq) hK hx (ms := ms) (wd := wd) (mt := mt) (tt := tt)
  have l10 := law10 (n := n) (P := P) (cq := cq) hK hx (ms := ms) (wd := wd) (mt := mt) (tt := tt)
  have e0 := refs_nL (ms := ms) (m := 10)
  have e1 := refs_pr (m := 10) (ps := psN tt)
  have e2 := refs_pr (m := 10) (ps := poN tt)
  unfold lD
  unfold psN poN at *
  rw [hod] at l89 l10 e1 e2 ⊢
  refine Exs.sel (os₁ := lC ms wd mt (some (.ref 13)) none none ([.list (avs [a, b, d, e])] ++ inr [a, b, d, e] ++ [prO (withN [a, b, d, e])] ++ [.list (avs [e, d, b, a])] ++ inr [e, d, b, a] ++ [prO (withN [e, d, b, a])])) (vs' := vsN tt [("other", .ref 19)]) (f := .next) 8 [13, 19] ?go rfl (by decide) ?held ?cl ?sub rfl
  case held => exact ⟨rfl, rfl, rfl, rfl, rfl, rfl, rfl, congrArg some (nL_ren ms _).symm, congrArg some (prO_ren _ _).symm, congrArg some (prO_ren _ _).symm, trivial⟩
  case cl => walk_at "clo"
  case sub => exact ⟨rfl, fun _ _ => trivial, rfl, fun _ _ => trivial, rfl, fun _ _ => trivial, trivial⟩
  case go =>
    refine Exs.append (a := [stK P 130 8, stK P 130 9]) l89 ?_
    exact Exs.cons l10 (Exs.cons (law11 hK hx) Exs.nil)
end

noncomputable section
variable {c : Cx} {n : Nat} {P : Params} {cq : Option (Value × Str)}

noncomputable def Hc (tt : Nat) : Prop := ∀ x, Four x → x.length ≤ 20 → ReplOk (overP (psN tt) x) x ∧ ReplOk (overP (poN tt) x) x ∧ cancL (psN tt) x = pileN x ∧ cancL (poN tt) x = pileN x
theorem psN_len (tt : Nat) : (psN tt).length = 4 := by unfold psN withN; rw [List.length_map]; exact ord_len tt
theorem poN_len (tt : Nat) : (poN tt).length = 4 := by unfold poN withN; rw [List.length_map, List.length_reverse]; exact ord_len tt

theorem moveAt (hK : c.K = KK P) (hx : c.XR = XRof LL1) {l : List Nat} (hl : l.length ≤ 200) (h4 : Four l) (os : List AO) : CallR c (n + 3) (.ref 115) [.str (T l)] os (.ref os.length) (os ++ [.tup (moveN l).av]) := by
  have := Op.frame (c := c) (n := n + 3) (t := fun xs => call (.ref 115) xs) (args := [.str (T l)]) (v := .ref 0) (os₀ := []) (os₀' := []) (new := [.tup (moveN l).av]) (π := []) (os := os) (moveD hK hx hl h4) rfl List.nodup_nil trivial (fun _ h => nomatch h)
  exact Op.as this rfl (by show AV.ref (os.length + (0 - 0)) = _; simp) rfl
theorem pileAt (hK : c.K = KK P) (hx : c.XR = XRof LL1) {l : List Nat} (hl : l.length ≤ 200) (h4 : Four l) (os : List AO) : CallR c (n + 4) (.ref 108) [.str (T l)] os (.str (T (pileN l))) os := Op.bare (pileD hK hx hl h4) (fun _ => rfl) fun _ => rfl

noncomputable def Mv.ns (m : Mv) : List Int := [m.p, m.q, m.r, m.s]
theorem Mv.ns_inj {m m' : Mv} (h : m.ns = m'.ns) : m = m' := by
  obtain ⟨p, q, r, s⟩ := m
  obtain ⟨p', q', r', s'⟩ := m'
  simp only [Mv.ns, List.cons.injEq, and_true] at h
  obtain ⟨rfl, rfl, rfl, rfl⟩ := h
  rfl
theorem Mv.eqv (m m' : Mv) : PyData.eqv (.tuple (m.ns.map PyData.int)) (.tuple (m'.ns.map PyData.int)) = decide (m = m') := by
  show PyData.eqvAll (m.ns.map PyData.int) (m'.ns.map PyData.int) = _
  rw [eqvAll_ints]
  exact decide_eq_decide.mpr ⟨Mv.ns_inj, fun e => by rw [e]⟩
theorem Mv.rd {os : List AO} {i : Nat} {m : Mv} (ho : os[i]? = some (.tup m.av)) : RD os (.ref i) (.tuple (m.ns.map PyData.int)) := .tup ho (RDs.ints m.ns)
theorem Mv.sh (m : Mv) : shaped (.tuple (m.ns.map PyData.int)) = true := by
  simp [shaped, PyData.canLay0, PyData.canLayAll0, Mv.ns, PyData.depth, PyData.depthAll]
theorem eq_mv {os : List AO} {i j : Nat} {m m' : Mv} (h1 : os[i]? = some (.tup m.av)) (h2 : os[j]? = some (.tup m'.av)) : Op2 c n (compareOp .Eq) (.ref i) (.ref j) os (.bool (decide (m = m'))) os := by
  rw [← Mv.eqv]
  exact eq_d (Mv.rd h1) (Mv.rd h2) m.sh m'.sh

theorem law12f (hK : c.K = KK P) (hx : c.XR = XRof LL1) {ms wd mt : List Nat} {tt : Nat} (H : Hc tt) (hw4 : Four wd) (hm4 : Four mt) (hw : wd.length ≤ 10) (hm : mt.length ≤ 10) :
    Ex c (n + 5) (fdL P cq) (stK P 130 12) ⟨vsN tt [("other", .ref 9)], lD ms wd mt tt none none []⟩ .next ⟨vsN tt [], lD ms wd mt tt none none []⟩ := by
  have e0 := refs_nL (ms := ms) (m := 10)
  have e1 := refs_pr (m := 10) (ps := psN tt)
  have e2 := refs_pr (m := 10) (ps := poN tt)
  have turn : ∀ x, Four x → x.length ≤ 10 → Exs c (n + 5) (fdL P cq) (forBody (stK P 130 12)) ⟨("one", .str (T x)) :: vsN tt [("other", .ref 9)], lD ms wd mt tt none none [.list [.str (T wd), .str (T mt)]]⟩ .next ⟨vsN tt [("other", .ref 9)], lD ms wd mt tt none none [.list [.str (T wd), .str (T mt)]]⟩ := by
    intro x h4 hl
    obtain ⟨ok1, ok2, c1, c2⟩ := H x h4 (by omega)
    let os := lD ms wd mt tt none none [.list [.str (T wd), .str (T mt)]]
    have q1 : CallR c (n + 5) (.ref 101) [.str (T x), .ref 8] os (.str (T (pileN x))) os := c1 ▸ cancAt (n := n + 2) hK hx (i := 8) (ps := psN tt) rfl (by omega) (psN_len tt) ok1
    have q2 : CallR c (n + 5) (.ref 101) [.str (T x), .ref 9] os (.str (T (pileN x))) os := c2 ▸ cancAt (n := n + 2) hK hx (i := 9) (ps := poN tt) rfl (by omega) (poN_len tt) ok2
    have q3 : CallR c (n + 5) (.ref 108) [.str (T x)] os (.str (T (pileN x))) os := pileAt (n := n + 1) hK hx (by omega) h4 os
    have hb : (T (pileN x) != T (pileN x)) = false := by simp
    refine' (B1 hK hx).test 8 [(.str (T (pileN x)), os), (.str (T (pileN x)), os), (.str (T (pileN x)), os), (.str (T (pileN x)), os)] false rfl ?f1 hb (Exs.done ?d1 rfl)
    case f1 => walk_at "ob2"
    case d1 => walk_at "sub"
  refine Ex.cut (vs' := vsN tt []) (js := [.list [.str (T wd), .str (T mt)]]) ?go rfl (by walk_at "clo") (vsLt_of rfl) (fun _ h => nomatch h)
  refine Ex.less (Ex.for (σ₁ := ⟨vsN tt [("other", .ref 9)], lD ms wd mt tt none none [.list [.str (T wd), .str (T mt)]]⟩) (a := .ref 10) (src := .list 10) ?g1 (.list rfl) (Lp.loop 2 (fun _ => ⟨vsN tt [("other", .ref 9)], lD ms wd mt tt none none [.list [.str (T wd), .str (T mt)]]⟩) (fun k => [AV.str (T wd), .str (T mt)].getD k .none) ?g2 rfl ⟨_, rfl⟩ rfl rfl ?g3) ?g4) (by walk_at "sub") rfl
  case g1 =>
    refine' (B1 hK hx).ev 8 [] rfl ?f2 rfl rfl
    walk_at "ob2"
  case g2 =>
    intro k hk
    match k, hk with
    | 0, _ => rfl
    | 1, _ => rfl
  case g3 =>
    intro k hk
    match k, hk with
    | 0, _ => exact Exs.fewer (by walk_at "sub") rfl (turn wd hw4 hw)
    | 1, _ => exact Exs.fewer (by walk_at "sub") rfl (turn mt hm4 hm)
  case g4 => exact fun _ _ => rfl
end

noncomputable section
variable {c : Cx} {n : Nat} {P : Params} {cq : Option (Value × Str)}

theorem law13 (hK : c.K = KK P) (hx : c.XR = XRof LL1) {ms wd mt : List Nat} {tt : Nat} (H : Hc tt) (hw4 : Four wd) (hm4 : Four mt) (hw : wd.length ≤ 10) (hm : mt.length ≤ 10) (hmv : pileN wd = pileN mt ↔ moveN wd = moveN mt) :
    Ex c (n + 5) (fdL P cq) (stK P 130 13) ⟨vsN tt [], lD ms wd mt tt none none []⟩ .next ⟨vsN tt [], lD ms wd mt tt none none []⟩ := by
  have e0 := refs_nL (ms := ms) (m := 10)
  have e1 := refs_pr (m := 10) (ps := psN tt)
  have e2 := refs_pr (m := 10) (ps := poN tt)
  obtain ⟨ok1, _, c1, _⟩ := H wd hw4 (by omega)
  obtain ⟨ok2, _, c2, _⟩ := H mt hm4 (by omega)
  let os := lD ms wd mt tt none none []
  let os1 := lD ms wd mt tt none none [.tup (moveN wd).av]
  let os2 := lD ms wd mt tt none none [.tup (moveN wd).av, .tup (moveN mt).av]
  have q1 : CallR c (n + 5) (.ref 101) [.str (T wd), .ref 8] os (.str (T (pileN wd))) os := c1 ▸ cancAt (n := n + 2) hK hx (i := 8) (ps := psN tt) rfl (by omega) (psN_len tt) ok1
  have q2 : CallR c (n + 5) (.ref 101) [.str (T mt), .ref 8] os (.str (T (pileN mt))) os := c2 ▸ cancAt (n := n + 2) hK hx (i := 8) (ps := psN tt) rfl (by omega) (psN_len tt) ok2
  have q3 : CallR c (n + 5) (.ref 115) [.str (T wd)] os (.ref 10) os1 := moveAt (n := n + 2) hK hx (by omega) hw4 os
  have q4 : CallR c (n + 5) (.ref 115) [.str (T mt)] os1 (.ref 11) os2 := moveAt (n := n + 2) hK hx (by omega) hm4 os1
  have q5 : Op2 c (n + 5) (compareOp .Eq) (.ref 10) (.ref 11) os2 (.bool (decide (moveN wd = moveN mt))) os2 := eq_mv rfl rfl
  have q6 : Op2 c (n + 5) (compareOp .NotEq) (.bool (T (pileN wd) == T (pileN mt))) (.bool (decide (moveN wd = moveN mt))) os2 (.bool ((T (pileN wd) == T (pileN mt)) != decide (moveN wd = moveN mt))) os2 := ne_b
  have hb : ((T (pileN wd) == T (pileN mt)) != decide (moveN wd = moveN mt)) = false := by
    rw [T_beq, show (pileN wd == pileN mt) = decide (moveN wd = moveN mt) by rw [show (pileN wd == pileN mt) = decide (pileN wd = pileN mt) by (by_cases h : pileN wd = pileN mt) <;> simp [h]]; exact decide_eq_decide.mpr hmv]
    simp
  refine Ex.ifF (z := false) (σ₁ := ⟨vsN tt [], os⟩) ?t rfl Exs.nil
  refine Tst.cut (os' := os) (js := [.tup (moveN wd).av, .tup (moveN mt).av]) ?tt rfl (by walk_at "clo")
  refine' (B1 hK hx).tst 12 [(.str (T (pileN wd)), os), (.str (T (pileN mt)), os), (.ref 10, os1), (.ref 11, os2), (.bool (decide (moveN wd = moveN mt)), os2), (.bool ((T (pileN wd) == T (pileN mt)) != decide (moveN wd = moveN mt)), os2)] rfl ?f1 hb rfl
  walk_at "ob2"

noncomputable def trL (l : List Nat) : List (List Nat) := (List.range l.length).map fun k => rot (k + 1) l
theorem avs_trL (l : List Nat) : avs (trL l) = (trT l).map .str := by unfold avs trL trT; simp only [List.map_map]; rfl

/-- the turns listed; the range is of no more use -/
theorem law14 (hK : c.K = KK P) (hx : c.XR = XRof LL1) {ms wd mt : List Nat} {tt : Nat} (hw : wd.length ≤ 10) :
    Ex c (n + 1) (fdL P cq) (stK P 130 14) ⟨vsN tt [], lD ms wd mt tt none none []⟩ .next ⟨vsN tt [("ours", .ref 11)], lD ms wd mt tt none none [.rng 1 ((wd.length : Int) + 1), .list (avs (trL wd))]⟩ := by
  have hz : sizeLine = 2 ^ 24 := sizeLine_eq
  have hzw : (T wd).length ≤ sizeLine := by rw [T_len]; omega
  let os1 := lD ms wd mt tt none none [.rng 1 ((wd.length : Int) + 1)]
  refine' Ex.less (Ex.assignMap (vs := vsN tt []) (src := .rng 1 ((wd.length : Int) + 1)) (a := .ref 10) wd.length (fun _ => os1) (fun k => .int (1 + (k : Int))) (fun k => .str (T (rot (k + 1) wd))) ?c1 (.rng rfl ?sm) ?c2 ?c3 trivial rfl ?c6 (by omega) (compOk_of rfl rfl rfl rfl) (sto_ok rfl) ?c10 ?c11) ?d1 ?d2
  case c1 =>
    refine' (B1 hK hx).ev 8 [] rfl ?g1 rfl ?g2
    case g1 => walk_at "ob2"
    case g2 =>
      refine Eq.trans (b := ⟨vsN tt [], lD ms wd mt tt none none [.rng 1 (((T wd).length : Nat) + 1)]⟩) rfl ?_
      rw [T_len]
  case sm => exact small_rr (by omega) (by omega) (by omega) (by omega)
  case c2 => exact fun k hk => item_r (by omega)
  case c3 => exact item_rE (by omega)
  case c10 => exact fun env he => by cases env; dsimp only at he; subst he; rfl
  case c11 => exact fun _ _ => rfl
  case c6 =>
    intro k hk
    have e1 : (1 + (k : Int)) = ((k + 1 : Nat) : Int) := by omega
    have hcz : (cutS (T wd) (some (1 + (k : Int))) none).length + (cutS (T wd) none (some (1 + (k : Int)))).length ≤ sizeLine := by
      rw [e1, cutS_T, cutS_T, T_len, T_len, cut_from, cut_to, List.length_drop, List.length_take]; omega
    refine ⟨_, (B1 hK hx).ev 8 [] rfl ?_ ?_ rfl⟩
    · walk_at "ob2"
    · show AV.str (cutS (T wd) (some (1 + (k : Int))) none ++ cutS (T wd) none (some (1 + (k : Int)))) = _
      rw [e1, rot_cuts]
  case d1 => walk_at "sub"
  case d2 =>
    show lD ms wd mt tt none none [.rng 1 ((wd.length : Int) + 1), .list ((List.range wd.length).map fun k => AV.str (T (rot (k + 1) wd)))] = _
    unfold avs trL
    rw [List.map_map, List.map_map]; rfl
theorem law15 (hK : c.K = KK P) (hx : c.XR = XRof LL1) {ms wd mt : List Nat} {tt : Nat} {js : List AO} {j1 j2 : AO} (hm : mt.length ≤ 10) :
    Ex c (n + 1) (fdL P cq) (stK P 130 15) ⟨vsN tt [("ours", .ref 11)], lD ms wd mt tt none none [j1, j2]⟩ .next ⟨vsN tt [("ours", .ref 11), ("theirs", .ref 13)], lD ms wd mt tt none none [j1, j2, .rng 1 ((mt.length : Int) + 1), .list (avs (trL mt))]⟩ := by
  have hz : sizeLine = 2 ^ 24 := sizeLine_eq
  have hzw : (T mt).length ≤ sizeLine := by rw [T_len]; omega
  let os1 := lD ms wd mt tt none none [j1, j2, .rng 1 ((mt.length : Int) + 1)]
  refine' Ex.less (Ex.assignMap (vs := vsN tt [("ours", .ref 11)]) (src := .rng 1 ((mt.length : Int) + 1)) (a := .ref 12) mt.length (fun _ => os1) (fun k => .int (1 + (k : Int))) (fun k => .str (T (rot (k + 1) mt))) ?c1 (.rng rfl ?sm) ?c2 ?c3 trivial rfl ?c6 (by omega) (compOk_of rfl rfl rfl rfl) (sto_ok rfl) ?c10 ?c11) ?d1 ?d2
  case c1 =>
    refine' (B1 hK hx).ev 8 [] rfl ?g1 rfl ?g2
    case g1 => walk_at "ob2"
    case g2 =>
      refine Eq.trans (b := ⟨vsN tt [("ours", .ref 11)], lD ms wd mt tt none none [j1, j2, .rng 1 (((T mt).length : Nat) + 1)]⟩) rfl ?_
      rw [T_len]
  case sm => exact small_rr (by omega) (by omega) (by omega) (by omega)
  case c2 => exact fun k hk => item_r (by omega)
  case c3 => exact item_rE (by omega)
  case c10 => exact fun env he => by cases env; dsimp only at he; subst he; rfl
  case c11 => exact fun _ _ => rfl
  case c6 =>
    intro k hk
    have e1 : (1 + (k : Int)) = ((k + 1 : Nat) : Int) := by omega
    have hcz : (cutS (T mt) (some (1 + (k : Int))) none).length + (cutS (T mt) none (some (1 + (k : Int)))).length ≤ sizeLine := by
      rw [e1, cutS_T, cutS_T, T_len, T_len, cut_from, cut_to, List.length_drop, List.length_take]; omega
    refine ⟨_, (B1 hK hx).ev 8 [] rfl ?_ ?_ rfl⟩
    · walk_at "ob2"
    · show AV.str (cutS (T mt) (some (1 + (k : Int))) none ++ cutS (T mt) none (some (1 + (k : Int)))) = _
      rw [e1, rot_cuts]
  case d1 => walk_at "sub"
  case d2 =>
    show lD ms wd mt tt none none [j1, j2, .rng 1 ((mt.length : Int) + 1), .list ((List.range mt.length).map fun k => AV.str (T (rot (k + 1) mt)))] = _
    unfold avs trL
    rw [List.map_map, List.map_map]; rfl
noncomputable def vsO (tt : Nat) (vs : List (Str × AV)) : List (Str × AV) := vsN tt (("ours", .ref 10) :: ("theirs", .ref 11) :: vs)
noncomputable def trO (wd : List Nat) : AO := .list (avs (trL wd))
theorem trO_ren (wd : List Nat) (r : Nat → Nat) : (trO wd).ren r = trO wd := congrArg AO.list (avs_ren r _)
theorem refs_tr {m : Nat} {wd : List Nat} : RefsLt m (trO wd).refs := refs_avs
theorem lawTurns (hK : c.K = KK P) (hx : c.XR = XRof LL1) {ms wd mt : List Nat} {tt : Nat} (hw : wd.length ≤ 10) (hm : mt.length ≤ 10) :
    Exs c (n + 1) (fdL P cq) [stK P 130 14, stK P 130 15] ⟨vsN tt [], lD ms wd mt tt none none []⟩ .next ⟨vsO tt [], lD ms wd mt tt none none [trO wd, trO mt]⟩ := by
  have e0 := refs_nL (ms := ms) (m := 12)
  have e1 := refs_pr (m := 12) (ps := psN tt)
  have e2 := refs_pr (m := 12) (ps := poN tt)
  have e3 := refs_tr (m := 12) (wd := wd)
  have e4 := refs_tr (m := 12) (wd := mt)
  refine Exs.sel (os₁ := lD ms wd mt tt none none [.rng 1 ((wd.length : Int) + 1), trO wd, .rng 1 ((mt.length : Int) + 1), trO mt]) (vs' := vsN tt [("ours", .ref 11), ("theirs", .ref 13)]) (f := .next) 10 [11, 13] ?go rfl (by decide) ?held ?cl ?sub rfl
  case held => exact ⟨rfl, rfl, rfl, rfl, rfl, rfl, rfl, congrArg some (nL_ren ms _).symm, congrArg some (prO_ren _ _).symm, congrArg some (prO_ren _ _).symm, congrArg some (trO_ren _ _).symm, congrArg some (trO_ren _ _).symm, trivial⟩
  case cl => walk_at "clo"
  case sub => exact ⟨rfl, fun _ _ => trivial, rfl, fun _ _ => trivial, rfl, fun _ _ => trivial, rfl, fun _ _ => trivial, trivial⟩
  case go => exact Exs.cons (law14 hK hx hw) (Exs.cons (law15 (js := []) hK hx hm) Exs.nil)
end

noncomputable section
variable {c : Cx} {n : Nat} {P : Params} {cq : Option (Value × Str)}

/-- after the first reading -/
noncomputable def lF (ms wd mt : List Nat) (tt : Nat) (js : List AO) : List AO := lO [12, 13] (some (.str SG)) (some (.str (T wd))) (some (.str (T mt))) (some (.ref 8)) none none ([nL ms, prO (psN tt), prO (poN tt), trO wd, trO mt, .x (.code 0), .x (.code 1)] ++ js)
/-- after both -/
noncomputable def lE (ms wd mt : List Nat) (tt : Nat) (c5 c6 : Option AV) (js : List AO) : List AO := lO [12, 13] (some (.str SG)) (some (.str (T wd))) (some (.str (T mt))) (some (.ref 8)) c5 c6 ([nL ms, prO (psN tt), prO (poN tt), trO wd, trO mt, .x (.code 0), .x (.code 1), trO wd, trO mt] ++ js)

theorem four_ch {l : List Nat} (h : Four l) : (∀ x ∈ l, x < 1000) ∧ ∀ x ∈ l, x ≠ 10 := by
  refine ⟨fun x hx => ?_, fun x hx => ?_⟩ <;> rcases h x hx with rfl | rfl | rfl | rfl <;> decide
theorem trT_ren (l : List Nat) (r : Nat → Nat) : (AO.list ((trT l).map .str)).ren r = trO l := by
  rw [← avs_trL]; exact trO_ren l r

theorem turns1 (hK : c.K = KK P) (hx : c.XR = XRof LL1) (M : Lm c LL1 76) {ms wd mt : List Nat} {tt : Nat} (hn : ms.length = 9) (hw : wd.length ≤ 10) (h4 : Four wd) :
    CallR c (n + 10) (.ref 89) [.str (T wd), .ref 7] (lD ms wd mt tt none none [trO wd, trO mt]) (.ref 14) (lF ms wd mt tt [trO wd]) := by
  have := Op.frame (new := [.x (.code 0), .x (.code 1), .list ((trT wd).map .str)]) (os₀ := [nL ms, .x (.tab [])]) (os₀' := [nL ms, .x (.tab [2, 3])]) (os := lD ms wd mt tt none none [trO wd, trO mt]) (π := [7, 0]) (turnsD (n := n) hK hx M (l := wd) (ns := nts ms) (by omega) (by rw [nts_len]; omega) (by rw [nts_len]; omega) (four_ch h4).1 (four_ch h4).2) rfl (by decide) ⟨congrArg some (nL_ren ms _).symm, rfl, trivial⟩ (by walk_at "clo")
  refine Op.as this rfl rfl ?_
  show lO [12, 13] (some (.str SG)) (some (.str (T wd))) (some (.str (T mt))) (some (.ref 8)) none none ([(nL ms).ren (Mine.out [7, 0] 12), prO (psN tt), prO (poN tt), trO wd, trO mt, .x (.code 0), .x (.code 1), (AO.list ((trT wd).map .str)).ren (Mine.out [7, 0] 12)]) = _
  rw [nL_ren, trT_ren]; rfl
theorem turns2 (hK : c.K = KK P) (hx : c.XR = XRof LL1) (M : Lm c LL1 76) {ms wd mt : List Nat} {tt : Nat} (hn : ms.length = 9) (hw : mt.length ≤ 10) (h4 : Four mt) :
    CallR c (n + 10) (.ref 89) [.str (T mt), .ref 7] (lF ms wd mt tt [trO wd]) (.ref 15) (lE ms wd mt tt none none []) := by
  have := Op.frame (new := [.list ((trT mt).map .str)]) (os₀ := [nL ms, .x (.tab [2, 3]), .x (.code 0), .x (.code 1)]) (os₀' := [nL ms, .x (.tab [2, 3]), .x (.code 0), .x (.code 1)]) (os := lF ms wd mt tt [trO wd]) (π := [7, 0, 12, 13]) (turnsDB (n := n) hK hx M (l := mt) (ns := nts ms) (by omega) (by rw [nts_len]; omega) (by rw [nts_len]; omega) (four_ch h4).1 (four_ch h4).2) rfl (by decide) ⟨congrArg some (nL_ren ms _).symm, rfl, rfl, rfl, trivial⟩ (by walk_at "clo")
  refine Op.as this rfl rfl ?_
  show lO [12, 13] (some (.str SG)) (some (.str (T wd))) (some (.str (T mt))) (some (.ref 8)) none none ([(nL ms).ren (Mine.out [7, 0, 12, 13] 15), prO (psN tt), prO (poN tt), trO wd, trO mt, .x (.code 0), .x (.code 1), trO wd, (AO.list ((trT mt).map .str)).ren (Mine.out [7, 0, 12, 13] 15)]) = _
  rw [nL_ren, trT_ren]; rfl

theorem trL_four {l : List Nat} (h : Four l) : ∀ w ∈ trL l, Four w := fun w hw => by
  obtain ⟨k, _, rfl⟩ := List.mem_map.mp hw; exact four_rot h _
theorem trL_mlen {l : List Nat} : ∀ w ∈ trL l, w.length = l.length := fun w hw => by
  obtain ⟨k, hk, rfl⟩ := List.mem_map.mp hw; exact rot_len (by have := List.mem_range.mp hk; omega)
theorem trL_len (l : List Nat) : (trL l).length = l.length := by unfold trL; rw [List.length_map, List.length_range]

theorem lawRead (hK : c.K = KK P) (hx : c.XR = XRof LL1) (M : Lm c LL1 76) {ms wd mt : List Nat} {tt : Nat} (hn : ms.length = 9) (hw : wd.length ≤ 10) (hm : mt.length ≤ 10) (hw4 : Four wd) (hm4 : Four mt) :
    Exs c (n + 10) (fdL P cq) [stK P 130 16, stK P 130 17, stK P 130 18] ⟨vsO tt [], lD ms wd mt tt none none [trO wd, trO mt]⟩ .next ⟨vsO tt [("word_turns", .ref 14), ("mate_turns", .ref 15)], lE ms wd mt tt none none []⟩ := by
  have q1 := turns1 (n := n) hK hx M (ms := ms) (mt := mt) (tt := tt) hn hw hw4
  have q2 := turns2 (n := n) hK hx M (ms := ms) (wd := wd) (tt := tt) hn hm hm4
  refine Exs.cons (σ₁ := ⟨vsO tt [("word_turns", .ref 14)], lF ms wd mt tt [trO wd]⟩) ?a1 (Exs.cons (σ₁ := ⟨vsO tt [("word_turns", .ref 14), ("mate_turns", .ref 15)], lE ms wd mt tt none none []⟩) ?a2 (Exs.cons ?a3 Exs.nil))
  case a1 =>
    refine' (B1 hK hx).st 8 [(.ref 14, lF ms wd mt tt [trO wd])] ⟨vsO tt [("word_turns", .ref 14)], lF ms wd mt tt [trO wd]⟩ rfl ?f1 ?s1 rfl
    case s1 => walk_at "sub"
    case f1 => walk_at "ob2"
  case a2 =>
    refine' (B1 hK hx).st 8 [(.ref 15, lE ms wd mt tt none none [])] ⟨vsO tt [("word_turns", .ref 14), ("mate_turns", .ref 15)], lE ms wd mt tt none none []⟩ rfl ?f2 ?s2 rfl
    case s2 => walk_at "sub"
    case f2 => walk_at "ob2"
  case a3 =>
    have ne : ∀ {i j : Nat} {l : List Nat}, Four l → (lE ms wd mt tt none none [])[i]? = some (trO l) → (lE ms wd mt tt none none [])[j]? = some (trO l) → Op2 c (n + 10) (compareOp .NotEq) (.ref i) (.ref j) (lE ms wd mt tt none none []) (.bool false) (lE ms wd mt tt none none []) := by
      intro i j l h4 h1 h2
      have := ne_ls (c := c) (n := n + 10) (i := i) (j := j) (os := lE ms wd mt tt none none []) (xs := (trL l).map T) (ys := (trL l).map T) h1 h2 (avsOk (trL_four h4)) (avsOk (trL_four h4))
      rwa [decide_eq_true rfl] at this
    have n1 := ne (i := 14) (j := 10) hw4 rfl rfl
    have n2 := ne (i := 15) (j := 11) hm4 rfl rfl
    refine Ex.ifF (z := false) (σ₁ := ⟨vsO tt [("word_turns", .ref 14), ("mate_turns", .ref 15)], lE ms wd mt tt none none []⟩) ?t rfl Exs.nil
    refine' (B1 hK hx).tst 12 [(.bool false, lE ms wd mt tt none none []), (.bool false, lE ms wd mt tt none none [])] rfl ?f3 rfl rfl
    walk_at "ob2"
end

noncomputable section
variable {c : Cx} {n : Nat} {P : Params} {cq : Option (Value × Str)}

noncomputable def lfN (w : List Nat) : List (List Nat) := (trL w).map pileN
noncomputable def lfO (w : List Nat) : AO := .list (avs (lfN w))
theorem lfN_len (w : List Nat) : (lfN w).length = w.length := by unfold lfN; rw [List.length_map, trL_len]

/-- what the plain law must say of one word -/
structure Half (tt : Nat) (w : List Nat) (m : Nat) (d : List Nat) : Prop where
  min : MinLen (lfN w) m
  hc0 : (shortN (lfN w) m)[0]? = some d
  same : ∀ x, x ∈ shortN (lfN w) m ↔ x ∈ trn0N d
  twice : (pileN (w ++ w)).length = (pileN w).length + d.length
  four : ∀ x ∈ lfN w, Four x
  len : ∀ x ∈ lfN w, x.length ≤ 10
  len2 : (pileN (w ++ w)).length ≤ 20
  len1 : (pileN w).length ≤ 10
theorem Half.dmem {tt : Nat} {w : List Nat} {m : Nat} {d : List Nat} (h : Half tt w m d) : d ∈ lfN w := (List.mem_filter.mp (List.mem_of_getElem? h.hc0)).1

theorem getD_trL {w : List Nat} (h4 : Four w) {k : Nat} (hk : k < w.length) : Four ((trL w).getD k []) ∧ ((trL w).getD k []).length = w.length := by
  have hm := getD_mem' (ws := trL w) (k := k) (by rw [trL_len]; exact hk)
  exact ⟨trL_four h4 _ hm, trL_mlen _ hm⟩

theorem law19 (hK : c.K = KK P) (hx : c.XR = XRof LL1) {ms wd mt : List Nat} {tt : Nat} (H : Hc tt) (hw : wd.length ≤ 10) (hw4 : Four wd) :
    Ex c (n + 5) (fdL P cq) (stK P 130 19) ⟨vsO tt [("word_turns", .ref 14), ("mate_turns", .ref 15)], lE ms wd mt tt none none []⟩ .next ⟨vsO tt [("mate_turns", .ref 15), ("left", .ref 16)], lE ms wd mt tt none none [lfO wd]⟩ := by
  have hz : sizeLine = 2 ^ 24 := sizeLine_eq
  refine' Ex.less (Ex.assignMap (vs := vsO tt [("word_turns", .ref 14), ("mate_turns", .ref 15)]) (src := .list 14) (a := .ref 14) wd.length (fun _ => lE ms wd mt tt none none []) (fun k => .str (T ((trL wd).getD k []))) (fun k => .str (T (pileN ((trL wd).getD k [])))) ?c1 (.list rfl) ?c2 ?c3 ⟨_, rfl⟩ rfl ?c6 (by omega) (compOk_of rfl rfl rfl rfl) (sto_ok rfl) ?c10 ?c11) ?d1 ?d2
  case c1 => exact (B1 hK hx).ev 5 [] rfl trivial rfl rfl
  case c2 => exact fun k hk => item_avs (ws := trL wd) rfl (by rw [trL_len]; exact hk)
  case c3 => rw [← trL_len wd]; exact item_avsE (ws := trL wd) rfl
  case c10 => exact fun env he => by cases env; dsimp only at he; subst he; rfl
  case c11 => exact fun _ _ => rfl
  case c6 =>
    intro k hk
    obtain ⟨g4, gl⟩ := getD_trL hw4 hk
    obtain ⟨ok, _, cc, _⟩ := H _ g4 (by omega)
    have q : CallR c (n + 5) (.ref 101) [.str (T ((trL wd).getD k [])), .ref 8] (lE ms wd mt tt none none []) (.str (T (pileN ((trL wd).getD k [])))) (lE ms wd mt tt none none []) := cc ▸ cancAt (n := n + 2) hK hx (i := 8) (ps := psN tt) rfl (by omega) (psN_len tt) ok
    refine ⟨_, (B1 hK hx).ev 8 [(.str (T (pileN ((trL wd).getD k []))), lE ms wd mt tt none none [])] rfl ?_ rfl rfl⟩
    walk_at "ob2"
  case d1 => walk_at "sub"
  case d2 =>
    show lE ms wd mt tt none none [.list ((List.range wd.length).map fun k => AV.str (T (pileN ((trL wd).getD k []))))] = _
    rw [← trL_len wd, range_map (trL wd) [] (fun w => AV.str (T (pileN w)))]
    unfold lfO avs lfN
    rw [List.map_map, List.map_map]; rfl

theorem law20 (hK : c.K = KK P) (hx : c.XR = XRof LL1) {ms wd mt : List Nat} {tt : Nat} (H : Hc tt) (hm : mt.length ≤ 10) (hm4 : Four mt) :
    Ex c (n + 5) (fdL P cq) (stK P 130 20) ⟨vsO tt [("mate_turns", .ref 15), ("left", .ref 16)], lE ms wd mt tt none none [lfO wd]⟩ .next ⟨vsO tt [("left", .ref 16)], lE ms wd mt tt (some (.ref 17)) none [lfO wd, lfO mt]⟩ := by
  have hz : sizeLine = 2 ^ 24 := sizeLine_eq
  refine Ex.less (Ex.assign (v := .ref (lE ms wd mt tt none none [lfO wd]).length) (σ₁ := ⟨vsO tt [("mate_turns", .ref 15), ("left", .ref 16)], lE ms wd mt tt none none [lfO wd] ++ [lfO mt]⟩) ?v (sto_ok rfl) (fun env he => by cases env; dsimp only at he; subst he; rfl)) (by walk_at "sub") rfl
  refine' Ev.mapAs (src := .list 15) (a := .ref 15) (vs := vsO tt [("mate_turns", .ref 15), ("left", .ref 16)]) mt.length (fun _ => lE ms wd mt tt none none [lfO wd]) (fun k => .str (T ((trL mt).getD k []))) (fun k => .str (T (pileN ((trL mt).getD k [])))) (avs (lfN mt)) ?acc ?h1 (.list rfl) ?it ?itE ⟨_, rfl⟩ rfl ?turn (by omega) (compOk_of rfl rfl rfl rfl) (fun _ _ => rfl)
  case acc =>
    rw [← trL_len mt, range_map (trL mt) [] (fun w => AV.str (T (pileN w)))]
    unfold avs lfN
    rw [List.map_map, List.map_map]; rfl
  case h1 => exact (B1 hK hx).ev 5 [] rfl trivial rfl rfl
  case it => exact fun k hk => item_avs (ws := trL mt) rfl (by rw [trL_len]; exact hk)
  case itE => rw [← trL_len mt]; exact item_avsE (ws := trL mt) rfl
  case turn =>
    intro k hk
    obtain ⟨g4, gl⟩ := getD_trL hm4 hk
    obtain ⟨ok, _, cc, _⟩ := H _ g4 (by omega)
    have q : CallR c (n + 5) (.ref 101) [.str (T ((trL mt).getD k [])), .ref 8] (lE ms wd mt tt none none [lfO wd]) (.str (T (pileN ((trL mt).getD k [])))) (lE ms wd mt tt none none [lfO wd]) := cc ▸ cancAt (n := n + 2) hK hx (i := 8) (ps := psN tt) rfl (by omega) (psN_len tt) ok
    refine ⟨_, (B1 hK hx).ev 8 [(.str (T (pileN ((trL mt).getD k []))), lE ms wd mt tt none none [lfO wd])] rfl ?_ rfl rfl⟩
    walk_at "ob2"

/-- a function of one list that makes one -/
theorem shortAt (hK : c.K = KK P) (hx : c.XR = XRof LL1) {ws : List (List Nat)} {m : Nat} {os : List AO} {i : Nat} (ho : os[i]? = some (.list (avs ws))) (hm : MinLen ws m) (hl : ws.length ≤ 200) (hw : ∀ w ∈ ws, w.length ≤ 200) :
    CallR c (n + 2) (.ref 120) [.ref i] os (.ref os.length) (os ++ [.list (avs (shortN ws m))]) := by
  have := Op.frame (c := c) (n := n + 2) (t := fun xs => call (.ref 120) xs) (args := [.ref 0]) (v := .ref 1) (os₀ := [.list (avs ws)]) (os₀' := [.list (avs ws)]) (new := [.list (avs (shortN ws m))]) (π := [i]) (os := os) (shortestD hK hx hm hl hw) rfl (by simp) ⟨ho.trans (congrArg some (congrArg AO.list (avs_ren _ _)).symm), trivial⟩ (fun o' ho' j hj => by
    rw [List.mem_singleton] at ho'; subst ho'; rw [show (AO.list (avs ws)).refs = [] from AVs.refs_strs _] at hj; cases hj)
  refine Op.as this rfl ?_ ?_
  · show AV.ref (os.length + (1 - 1)) = _; simp
  · show os.set i ((AO.list (avs ws)).ren _) ++ [(AO.list (avs (shortN ws m))).ren _] = _
    rw [show ∀ r, (AO.list (avs ws)).ren r = .list (avs ws) from fun r => congrArg AO.list (avs_ren _ _), show ∀ r, (AO.list (avs (shortN ws m))).ren r = .list (avs (shortN ws m)) from fun r => congrArg AO.list (avs_ren _ _), set_same ho]
/-- of two that lie apart -/
theorem Op.at2 {f : Value} {args : List AV} {o o' : AO} {v : AV} {os : List AO} {i j : Nat} (h : CallR c n f args [o, o'] v [o, o']) (hij : i ≠ j) (ho : os[i]? = some o) (ho' : os[j]? = some o') (hr : ∀ r, o.ren r = o) (hr' : ∀ r, o'.ren r = o') (hrf : o.refs = []) (hrf' : o'.refs = []) (hv : ∀ r, v.ren r = v) : CallR c n f (args.map (AV.ren (Mine.out [i, j] os.length))) os v os := by
  have := Op.frame (c := c) (n := n) (t := fun xs => call f xs) (args := args) (v := v) (os₀ := [o, o']) (os₀' := [o, o']) (new := []) (π := [i, j]) (os := os) (by rw [List.append_nil]; exact h) rfl (by simp [hij]) ⟨by rw [hr]; exact ho, by rw [hr']; exact ho', trivial⟩ (fun o'' ho'' k hk => by
    rcases List.mem_cons.mp ho'' with rfl | h2
    · rw [hrf] at hk; cases hk
    · rw [List.mem_singleton] at h2; subst h2; rw [hrf'] at hk; cases hk)
  refine Op.as this rfl (hv _) ?_
  show (os.set i (o.ren _)).set j (o'.ren _) ++ [] = os
  rw [hr, hr', List.append_nil, set_same ho, set_same ho']

noncomputable def csO (w : List Nat) (m : Nat) : AO := .list (avs (shortN (lfN w) m))
theorem law2122 (hK : c.K = KK P) (hx : c.XR = XRof LL1) {ms wd mt : List Nat} {tt m m' : Nat} (hw : wd.length ≤ 10) (hm : mt.length ≤ 10) (h1 : MinLen (lfN wd) m) (h2 : MinLen (lfN mt) m') (l1 : ∀ x ∈ lfN wd, x.length ≤ 10) (l2 : ∀ x ∈ lfN mt, x.length ≤ 10) :
    Exs c (n + 2) (fdL P cq) [stK P 130 21, stK P 130 22] ⟨vsO tt [("left", .ref 16)], lE ms wd mt tt (some (.ref 17)) none [lfO wd, lfO mt]⟩ .next ⟨vsO tt [("left", .ref 16), ("cores", .ref 18), ("mates", .ref 19)], lE ms wd mt tt (some (.ref 17)) none [lfO wd, lfO mt, csO wd m, csO mt m']⟩ := by
  have q1 : CallR c (n + 2) (.ref 120) [.ref 16] (lE ms wd mt tt (some (.ref 17)) none [lfO wd, lfO mt]) (.ref 18) (lE ms wd mt tt (some (.ref 17)) none [lfO wd, lfO mt, csO wd m]) := shortAt hK hx rfl h1 (by rw [lfN_len]; omega) (fun x hx => by have := l1 x hx; omega)
  have q2 : CallR c (n + 2) (.ref 120) [.ref 17] (lE ms wd mt tt (some (.ref 17)) none [lfO wd, lfO mt, csO wd m]) (.ref 19) (lE ms wd mt tt (some (.ref 17)) none [lfO wd, lfO mt, csO wd m, csO mt m']) := shortAt hK hx rfl h2 (by rw [lfN_len]; omega) (fun x hx => by have := l2 x hx; omega)
  refine Exs.cons (σ₁ := ⟨vsO tt [("left", .ref 16), ("cores", .ref 18)], lE ms wd mt tt (some (.ref 17)) none [lfO wd, lfO mt, csO wd m]⟩) ?a1 (Exs.cons ?a2 Exs.nil)
  case a1 =>
    refine' (B1 hK hx).st 8 [(.ref 18, lE ms wd mt tt (some (.ref 17)) none [lfO wd, lfO mt, csO wd m])] ⟨vsO tt [("left", .ref 16), ("cores", .ref 18)], lE ms wd mt tt (some (.ref 17)) none [lfO wd, lfO mt, csO wd m]⟩ rfl ?f1 ?s1 rfl
    case s1 => walk_at "sub"
    case f1 => walk_at "ob2"
  case a2 =>
    refine' (B1 hK hx).st 8 [(.ref 19, lE ms wd mt tt (some (.ref 17)) none [lfO wd, lfO mt, csO wd m, csO mt m'])] ⟨vsO tt [("left", .ref 16), ("cores", .ref 18), ("mates", .ref 19)], lE ms wd mt tt (some (.ref 17)) none [lfO wd, lfO mt, csO wd m, csO mt m']⟩ rfl ?f2 ?s2 rfl
    case s2 => walk_at "sub"
    case f2 => walk_at "ob2"

theorem coreAt (hK : c.K = KK P) (hx : c.XR = XRof LL1) {w : List Nat} {tt m : Nat} {d : List Nat} (H : Hc tt) (h : Half tt w m d) (hw : w.length ≤ 10) (h4 : Four w) {os : List AO} {i j : Nat} (hij : i ≠ j) (ho : os[i]? = some (csO w m)) (ho' : os[j]? = some (prO (psN tt))) :
    CallR c (n + 5) (.ref 125) [.str (T w), .ref i, .ref j] os (.bool true) os := by
  have h44 : Four (w ++ w) := fun x hx => (List.mem_append.mp hx).elim (h4 x) (h4 x)
  obtain ⟨ok1, _, c1, _⟩ := H (w ++ w) h44 (by rw [List.length_append]; omega)
  obtain ⟨ok2, _, c2, _⟩ := H w h4 (by omega)
  have hl2 := h.len2
  have hl1 := h.len1
  have hdl := h.len d h.dmem
  have hsl : (shortN (lfN w) m).length ≤ 10 := by
    have := List.length_filter_le (fun x : List Nat => decide (x.length = m)) (lfN w)
    rw [lfN_len] at this
    exact Nat.le_trans this hw
  exact Op.at2 (args := [.str (T w), .ref 0, .ref 1]) (isCoreD (n := n) hK hx (c0 := d) (cs := shortN (lfN w) m) (ps := psN tt) (by omega) (psN_len tt) ok1 ok2 h.hc0 (by omega) (by omega) (fun x hx => h.four x (List.mem_filter.mp hx).1) h.same (by rw [c1]; omega) (by rw [c2]; omega) (by rw [c1, c2]; exact h.twice)) hij ho ho' (fun r => congrArg AO.list (avs_ren _ _)) (fun r => flatO_ren _ r) (show (csO w m).refs = [] from AVs.refs_strs _) (flatPs_refs' _) fun _ => rfl

theorem law23 (hK : c.K = KK P) (hx : c.XR = XRof LL1) {ms wd mt : List Nat} {tt m m' : Nat} {d d' : List Nat} (H : Hc tt) (h1 : Half tt wd m d) (h2 : Half tt mt m' d') (hw : wd.length ≤ 10) (hm : mt.length ≤ 10) (hw4 : Four wd) (hm4 : Four mt) {vs : List (Str × AV)} :
    Ex c (n + 5) (fdL P cq) (stK P 130 23) ⟨vsO tt [("left", .ref 16), ("cores", .ref 18), ("mates", .ref 19)], lE ms wd mt tt (some (.ref 17)) none [lfO wd, lfO mt, csO wd m, csO mt m']⟩ .next ⟨vsO tt [("left", .ref 16), ("cores", .ref 18), ("mates", .ref 19)], lE ms wd mt tt (some (.ref 17)) none [lfO wd, lfO mt, csO wd m, csO mt m']⟩ := by
  have q1 := coreAt (n := n) hK hx H h1 hw hw4 (os := lE ms wd mt tt (some (.ref 17)) none [lfO wd, lfO mt, csO wd m, csO mt m']) (i := 18) (j := 8) (by decide) rfl rfl
  have q2 := coreAt (n := n) hK hx H h2 hm hm4 (os := lE ms wd mt tt (some (.ref 17)) none [lfO wd, lfO mt, csO wd m, csO mt m']) (i := 19) (j := 8) (by decide) rfl rfl
  refine Ex.ifF (z := false) (σ₁ := ⟨vsO tt [("left", .ref 16), ("cores", .ref 18), ("mates", .ref 19)], lE ms wd mt tt (some (.ref 17)) none [lfO wd, lfO mt, csO wd m, csO mt m']⟩) ?t rfl Exs.nil
  refine' (B1 hK hx).tst 12 [(.bool true, lE ms wd mt tt (some (.ref 17)) none [lfO wd, lfO mt, csO wd m, csO mt m']), (.bool true, lE ms wd mt tt (some (.ref 17)) none [lfO wd, lfO mt, csO wd m, csO mt m'])] rfl ?f3 rfl rfl
  walk_at "ob2"
end

noncomputable section
variable {c : Cx} {n : Nat} {P : Params} {cq : Option (Value × Str)}

/-- p stands in l -/
noncomputable def infx (p l : List Nat) : Bool := (fnd p l 0).isSome

theorem ellT (hK : c.K = KK P) (hx : c.XR = XRof LL1) {p l : List Nat} (hp : 46 ∉ p) (hpl : p.length ≤ 900) (hl : l.length ≤ 1000) : CallR c (n + 1) (.ref 21) [.str (T (dots p)), .str (T l)] [] (.bool (infx p l)) [] := by
  have hf : ∀ k : Nat, find4 (T l) (T p) 0 (T l).length = k → fnd p l 0 = some k := fun k h => by
    rw [find4_T l p 0 (Nat.zero_le _), List.drop_zero] at h
    cases e : fnd p l 0 with
    | none => rw [e] at h; simp at h
    | some j => rw [e] at h; simp at h; rw [show j = k by omega]
  have := ell_call (c := c) (n := n) hK hx (want := T (dots p)) (got := T l) (p := T p) (dots_in p hp) (dots_split p hp) (by rw [T_len]; simp [dots]; omega) (by rw [T_len]; exact hl) (by rw [T_len]; omega) (by rw [dots_parts p hp]; exact Nat.le_trans (by decide) sz1000)
    (by rw [T_nil, find4_T l [] 0 (Nat.zero_le _), fnd_nil])
    (fun k h => by
      have := fnd_le p l 0 k (hf k h)
      rw [T_nil, T_len p, find4_T l [] (k + p.length) (by omega), fnd_nil])
    (by
      rw [find4_T l p 0 (Nat.zero_le _), List.drop_zero]
      cases fnd p l 0 with
      | none => exact .inl rfl
      | some j => exact .inr ⟨j, rfl⟩)
  have e : decide (find4 (T l) (T p) 0 (T l).length ≠ -1) = infx p l := by
    rw [find4_T l p 0 (Nat.zero_le _), List.drop_zero]
    unfold infx
    cases fnd p l 0 with
    | none => rfl
    | some j => exact decide_eq_true (by show (j : Int) ≠ -1; omega)
  rw [e] at this
  exact this
theorem dotsT1 (p : List Nat) : Str.ofString "..." ++ T p ++ Str.ofString "..." = T (dots p) := by
  rw [T_dot3, T_app, T_app]; rfl

noncomputable def lG (ms wd mt : List Nat) (tt m m' : Nat) (c6 : Option AV) (js : List AO) : List AO := lE ms wd mt tt (some (.ref 17)) c6 ([lfO wd, lfO mt, csO wd m, csO mt m'] ++ js)
noncomputable def mvO (wd : List Nat) (k : Nat) : AO := .tup (moveN ((trL wd).getD k [])).av
noncomputable def six : List AV := [.ref 20, .ref 21, .ref 22, .ref 23, .ref 24, .ref 25]
noncomputable def mv6 (wd : List Nat) : List AO := [mvO wd 0, mvO wd 1, mvO wd 2, mvO wd 3, mvO wd 4, mvO wd 5, .list six]
noncomputable def vsQ (tt : Nat) (vs : List (Str × AV)) : List (Str × AV) := vsO tt (("left", .ref 16) :: ("cores", .ref 18) :: ("mates", .ref 19) :: vs)
theorem lG_len (ms wd mt : List Nat) (tt m m' k : Nat) (c6 : Option AV) : (lG ms wd mt tt m m' c6 ((List.range k).map (mvO wd))).length = 20 + k := by
  simp [lG, lE, lO]; omega

theorem law24 (hK : c.K = KK P) (hx : c.XR = XRof LL1) {ms wd mt : List Nat} {tt m m' : Nat} (hw : wd.length = 6) (hw4 : Four wd) :
    Ex c (n + 3) (fdL P cq) (stK P 130 24) ⟨vsQ tt [], lG ms wd mt tt m m' none []⟩ .next ⟨vsQ tt [], lG ms wd mt tt m m' (some (.ref 26)) (mv6 wd)⟩ := by
  have hz : sizeLine = 2 ^ 24 := sizeLine_eq
  refine Ex.less (Ex.assign (v := .ref (lG ms wd mt tt m m' none ((List.range 6).map (mvO wd))).length) (σ₁ := ⟨vsQ tt [], lG ms wd mt tt m m' none ((List.range 6).map (mvO wd)) ++ [.list six]⟩) ?v (sto_ok rfl) (fun env he => by cases env; dsimp only at he; subst he; rfl)) (by walk_at "sub") rfl
  refine' Ev.mapAs (src := .list 10) (a := .ref 10) (vs := vsQ tt []) 6 (fun k => lG ms wd mt tt m m' none ((List.range k).map (mvO wd))) (fun k => .str (T ((trL wd).getD k []))) (fun k => .ref (20 + k)) six rfl ?h1 (.list rfl) ?it ?itE ⟨_, rfl⟩ rfl ?turn (by omega) (compOk_of rfl rfl rfl rfl) (fun _ _ => rfl)
  case h1 => exact (B1 hK hx).ev 5 [] rfl trivial rfl rfl
  case it => exact fun k hk => item_avs (ws := trL wd) rfl (by rw [trL_len, hw]; exact hk)
  case itE => rw [← hw, ← trL_len wd]; exact item_avsE (ws := trL wd) rfl
  case turn =>
    intro k hk
    obtain ⟨g4, gl⟩ := getD_trL hw4 (k := k) (by omega)
    have q : CallR c (n + 3) (.ref 115) [.str (T ((trL wd).getD k []))] (lG ms wd mt tt m m' none ((List.range k).map (mvO wd))) (.ref (20 + k)) (lG ms wd mt tt m m' none ((List.range (k + 1)).map (mvO wd))) := by
      have := moveAt (n := n) hK hx (l := (trL wd).getD k []) (by omega) g4 (lG ms wd mt tt m m' none ((List.range k).map (mvO wd)))
      rw [lG_len] at this
      rw [List.range_succ, List.map_append]
      exact this
    refine ⟨_, (B1 hK hx).ev 8 [(.ref (20 + k), lG ms wd mt tt m m' none ((List.range (k + 1)).map (mvO wd)))] rfl ?_ rfl rfl⟩
    walk_at "ob2"

theorem idx0 {os : List AO} {i : Nat} {ws : List (List Nat)} {d : List Nat} {fd : FD} {vs : List (Str × AV)} {value slice : Expr} {pos : Pos} (h0 : ws[0]? = some d) (ho : os[i]? = some (.list (avs ws))) (h1 : Ev c n fd value ⟨vs, os⟩ (.ref i) ⟨vs, os⟩) (h2 : Ev c n fd slice ⟨vs, os⟩ (.int ((0 : Nat) : Int)) ⟨vs, os⟩)
    (hsub : ∀ o i, subscripted slice false o i = operate [o, i] (getItem o i)) : Ev c n fd (.Subscript value slice pos) ⟨vs, os⟩ (.str (T d)) ⟨vs, os⟩ :=
  Ev.idxL (xs := avs ws) h1 h2 ho (by unfold avs; rw [List.getElem?_map, List.getElem?_map, h0]; rfl) (by decide) hsub

noncomputable def fndB (d d' : List Nat) : Bool := ((d.length : Int) == (d'.length : Int)) && infx d' (d ++ d)
theorem law25 (hK : c.K = KK P) (hx : c.XR = XRof LL1) {ms wd mt : List Nat} {tt m m' : Nat} {d d' : List Nat} {c6 : Option AV} {js : List AO} (h1 : (shortN (lfN wd) m)[0]? = some d) (h2 : (shortN (lfN mt) m')[0]? = some d') (hd : d.length ≤ 10) (hd' : d'.length ≤ 10) (h46 : 46 ∉ d') :
    Ex c (n + 3) (fdL P cq) (stK P 130 25) ⟨vsQ tt [], lG ms wd mt tt m m' c6 js⟩ .next ⟨vsO tt [("left", .ref 16), ("found", .bool (fndB d d'))], lG ms wd mt tt m m' c6 js⟩ := by
  have hz : sizeLine = 2 ^ 24 := sizeLine_eq
  have hd3 : (Str.ofString "...").length = 3 := rfl
  have z0 : (T d).length ≤ sizeLine := by rw [T_len]; omega
  have z0' : (T d').length ≤ sizeLine := by rw [T_len]; omega
  have z1 : (Str.ofString "...").length + (T d').length ≤ sizeLine := by rw [T_len, hd3]; omega
  have z2 : (Str.ofString "..." ++ T d').length + (Str.ofString "...").length ≤ sizeLine := by rw [Str.length_append, T_len, hd3]; omega
  have z3 : (T d).length + (T d).length ≤ sizeLine := by rw [T_len]; omega
  have hell : CallR c (n + 3) (.ref 21) [.str (Str.ofString "..." ++ T d' ++ Str.ofString "..."), .str (T d ++ T d)] (lG ms wd mt tt m m' c6 js) (.bool (infx d' (d ++ d))) (lG ms wd mt tt m m' c6 js) := by
    rw [dotsT1, T_app]
    exact Op.bare (ellT (n := n + 2) hK hx h46 (by omega) (by simp; omega)) (fun _ => rfl) (fun _ => rfl)
  let os := lG ms wd mt tt m m' c6 js
  refine' (B1 hK hx).st' 12 [(.str (T d), os), (.str (T d'), os), (.str (T d'), os), (.str (T d), os), (.str (T d), os), (.bool (infx d' (d ++ d)), os)] ⟨vsO tt [("left", .ref 16), ("found", .bool (fndB d d'))], os⟩ rfl ?f1 ?s1 ?s2
  case s1 => walk_at "sub"
  case s2 => rfl
  case f1 =>
    walk_at "ob2"
    all_goals first
      | exact idx0 h1 rfl ((B1 hK hx).ev 5 [] rfl trivial rfl rfl) ((B1 hK hx).ev 5 [] rfl trivial rfl rfl) (fun _ _ => rfl)
      | exact idx0 h2 rfl ((B1 hK hx).ev 5 [] rfl trivial rfl rfl) ((B1 hK hx).ev 5 [] rfl trivial rfl rfl) (fun _ _ => rfl)
end

noncomputable section
variable {c : Cx} {n : Nat} {P : Params} {cq : Option (Value × Str)}

theorem mem_T {x : List Nat} {ws : List (List Nat)} : T x ∈ ws.map T ↔ x ∈ ws := by
  rw [List.mem_map]
  exact ⟨fun ⟨y, hy, e⟩ => T_inj e ▸ hy, fun h => ⟨x, h, rfl⟩⟩
noncomputable def metF (wd mt : List Nat) : List (List Nat) := (lfN wd).filter fun x => decide (x ∈ lfN mt)
noncomputable def metB (wd mt : List Nat) : Bool := !decide (metF wd mt = [])
noncomputable def lH (ms wd mt : List Nat) (tt m m' : Nat) (js : List AO) : List AO := lG ms wd mt tt m m' (some (.ref 26)) (mv6 wd ++ js)
theorem refs_six : RefsLt 27 (AO.list six).refs := refsLt_of rfl
theorem refs_mv {m : Nat} {wd : List Nat} {k : Nat} : RefsLt m (mvO wd k).refs := fun i hi => by
  rw [show (mvO wd k).refs = [] from AVs.refs_ints (moveN ((trL wd).getD k [])).ns] at hi; cases hi

theorem law26 (hK : c.K = KK P) (hx : c.XR = XRof LL1) {ms wd mt : List Nat} {tt m m' : Nat} {fb : Bool} (hw : wd.length ≤ 10) (h1 : ∀ x ∈ lfN wd, Four x) (h2 : ∀ x ∈ lfN mt, Four x) :
    Ex c (n + 3) (fdL P cq) (stK P 130 26) ⟨vsO tt [("left", .ref 16), ("found", .bool fb)], lH ms wd mt tt m m' []⟩ .next ⟨vsO tt [("found", .bool fb), ("met", .bool (metB wd mt))], lH ms wd mt tt m m' []⟩ := by
  have hz : sizeLine = 2 ^ 24 := sizeLine_eq
  have e0 := refs_nL (ms := ms) (m := 27)
  have e1 := refs_pr (m := 27) (ps := psN tt)
  have e2 := refs_pr (m := 27) (ps := poN tt)
  have e3 := refs_tr (m := 27) (wd := wd)
  have e4 := refs_tr (m := 27) (wd := mt)
  have e5 : RefsLt 27 (lfO wd).refs := refs_avs
  have e6 : RefsLt 27 (lfO mt).refs := refs_avs
  have e7 : RefsLt 27 (csO wd m).refs := refs_avs
  have e8 : RefsLt 27 (csO mt m').refs := refs_avs
  have e9 := fun k => refs_mv (m := 27) (wd := wd) (k := k)
  have f0 := e9 0
  have f1 := e9 1
  have f2 := e9 2
  have f3 := e9 3
  have f4 := e9 4
  have f5 := e9 5
  have e10 := refs_six
  have hne : Op2 c (n + 3) (compareOp .NotEq) (.ref 27) (.ref 28) (lH ms wd mt tt m m' [.list (avs (metF wd mt)), .list []]) (.bool (metB wd mt)) (lH ms wd mt tt m m' [.list (avs (metF wd mt)), .list []]) := by
    have := ne_ls (c := c) (n := n + 3) (i := 27) (j := 28) (os := lH ms wd mt tt m m' [.list (avs (metF wd mt)), .list []]) (xs := (metF wd mt).map T) (ys := []) rfl rfl (avsOk fun x hx => h1 x (List.mem_filter.mp hx).1) rfl
    rwa [show decide ((metF wd mt).map T = []) = decide (metF wd mt = []) from decide_eq_decide.mpr List.map_eq_nil_iff] at this
  refine Ex.cut (vs' := vsO tt [("found", .bool fb), ("met", .bool (metB wd mt))]) (js := [.list (avs (metF wd mt)), .list []]) ?go rfl (by walk_at "clo") (vsLt_of rfl) (fun _ h => nomatch h)
  refine' (B1 hK hx).st 8 [(.ref 27, lH ms wd mt tt m m' [.list (avs (metF wd mt))]), (.bool (metB wd mt), lH ms wd mt tt m m' [.list (avs (metF wd mt)), .list []])] ⟨vsO tt [("found", .bool fb), ("met", .bool (metB wd mt))], lH ms wd mt tt m m' [.list (avs (metF wd mt)), .list []]⟩ rfl ?f1 ?s1 rfl
  case s1 => walk_at "sub"
  case f1 =>
    walk_at "ob2"
    show Ev c (n + 3) _ _ _ (.ref (lH ms wd mt tt m m' []).length) ⟨vsO tt [("left", .ref 16), ("found", .bool fb)], lH ms wd mt tt m m' [] ++ [.list (avs (metF wd mt))]⟩
    refine' Ev.mapIf (os := lH ms wd mt tt m m' []) (src := .list 16) (a := .ref 16) (vs := vsO tt [("left", .ref 16), ("found", .bool fb)]) (lfN wd).length (fun k => .str (T ((lfN wd).getD k []))) (fun k => .str (T ((lfN wd).getD k []))) (fun k => decide ((lfN wd).getD k [] ∈ lfN mt)) _ ((filter_map (lfN wd) [] (fun w => AV.str (T w)) (fun w => decide (w ∈ lfN mt))).trans (by unfold avs metF; rw [List.map_map]; rfl)) ?h1 (.list rfl) (fun k hk => item_avs rfl hk) (item_avsE rfl) ⟨_, rfl⟩ rfl ?turn (by rw [lfN_len]; omega) (compOk_of rfl rfl rfl rfl) (fun _ _ => rfl)
    case h1 => exact (B1 hK hx).ev 5 [] rfl trivial rfl rfl
    case turn =>
      intro k hk
      have q : Op2 c (n + 3) (compareOp .In) (.str (T ((lfN wd).getD k []))) (.ref 17) (lH ms wd mt tt m m' []) (.bool (decide ((lfN wd).getD k [] ∈ lfN mt))) (lH ms wd mt tt m m' []) := by
        have := in_ls (c := c) (n := n + 3) (i := 17) (os := lH ms wd mt tt m m' []) (ss := (lfN mt).map T) (x := T ((lfN wd).getD k [])) rfl (avsOk h2) (strOk_T (h1 _ (getD_mem' hk)))
        rwa [show decide (T ((lfN wd).getD k []) ∈ (lfN mt).map T) = decide ((lfN wd).getD k [] ∈ lfN mt) from decide_eq_decide.mpr mem_T] at this
      refine ⟨[("turn", .str (T ((lfN wd).getD k [])))], ?_, fun _ => ⟨_, (B1 hK hx).ev 5 [] rfl trivial rfl rfl⟩⟩
      refine' (B1 hK hx).tst 8 [(.bool (decide ((lfN wd).getD k [] ∈ lfN mt)), lH ms wd mt tt m m' [])] rfl ?o1 rfl rfl
      walk_at "ob2"

/-! ### the moves -/
noncomputable def sixB (wd t : List Nat) : Bool := (List.range 6).any fun k => decide (moveN ((trL wd).getD k []) = moveN t)
noncomputable def movF (wd mt : List Nat) : List (List Nat) := (trL mt).filter fun t => sixB wd t
noncomputable def movB (wd mt : List Nat) : Bool := !decide (movF wd mt = [])
noncomputable def mvD (wd : List Nat) (k : Nat) : PyData := .tuple ((moveN ((trL wd).getD k [])).ns.map PyData.int)
theorem six_rd {os : List AO} {wd : List Nat} (h : os[26]? = some (.list six)) (h0 : os[20]? = some (mvO wd 0)) (h1 : os[21]? = some (mvO wd 1)) (h2 : os[22]? = some (mvO wd 2)) (h3 : os[23]? = some (mvO wd 3)) (h4 : os[24]? = some (mvO wd 4)) (h5 : os[25]? = some (mvO wd 5)) :
    RD os (.ref 26) (.list [mvD wd 0, mvD wd 1, mvD wd 2, mvD wd 3, mvD wd 4, mvD wd 5]) :=
  .list h (.cons (Mv.rd h0) (.cons (Mv.rd h1) (.cons (Mv.rd h2) (.cons (Mv.rd h3) (.cons (Mv.rd h4) (.cons (Mv.rd h5) .nil))))))
theorem six_sh (wd : List Nat) : shaped (.list [mvD wd 0, mvD wd 1, mvD wd 2, mvD wd 3, mvD wd 4, mvD wd 5]) = true := by
  simp [shaped, PyData.canLay0, PyData.canLayAll0, mvD, Mv.ns, PyData.depth, PyData.depthAll]

theorem law27 (hK : c.K = KK P) (hx : c.XR = XRof LL1) {ms wd mt : List Nat} {tt m m' : Nat} {fb mb : Bool} (hm : mt.length ≤ 10) (h4 : Four mt) :
    Ex c (n + 3) (fdL P cq) (stK P 130 27) ⟨vsO tt [("found", .bool fb), ("met", .bool mb)], lH ms wd mt tt m m' []⟩ .next ⟨vsO tt [("found", .bool fb), ("met", .bool mb), ("moved", .bool (movB wd mt))], lH ms wd mt tt m m' []⟩ := by
  have hz : sizeLine = 2 ^ 24 := sizeLine_eq
  have e0 := refs_nL (ms := ms) (m := 27)
  have e1 := refs_pr (m := 27) (ps := psN tt)
  have e2 := refs_pr (m := 27) (ps := poN tt)
  have e3 := refs_tr (m := 27) (wd := wd)
  have e4 := refs_tr (m := 27) (wd := mt)
  have e5 : RefsLt 27 (lfO wd).refs := refs_avs
  have e6 : RefsLt 27 (lfO mt).refs := refs_avs
  have e7 : RefsLt 27 (csO wd m).refs := refs_avs
  have e8 : RefsLt 27 (csO mt m').refs := refs_avs
  have e9 := fun k => refs_mv (m := 27) (wd := wd) (k := k)
  have f0 := e9 0
  have f1 := e9 1
  have f2 := e9 2
  have f3 := e9 3
  have f4 := e9 4
  have f5 := e9 5
  have e10 := refs_six
  have hne : Op2 c (n + 3) (compareOp .NotEq) (.ref 27) (.ref 28) (lH ms wd mt tt m m' [.list (avs (movF wd mt)), .list []]) (.bool (movB wd mt)) (lH ms wd mt tt m m' [.list (avs (movF wd mt)), .list []]) := by
    have := ne_ls (c := c) (n := n + 3) (i := 27) (j := 28) (os := lH ms wd mt tt m m' [.list (avs (movF wd mt)), .list []]) (xs := (movF wd mt).map T) (ys := []) rfl rfl (avsOk fun x hx => trL_four h4 x (List.mem_filter.mp hx).1) rfl
    rwa [show decide ((movF wd mt).map T = []) = decide (movF wd mt = []) from decide_eq_decide.mpr List.map_eq_nil_iff] at this
  refine Ex.cut (vs' := vsO tt [("found", .bool fb), ("met", .bool mb), ("moved", .bool (movB wd mt))]) (js := [.list (avs (movF wd mt)), .list []]) ?go rfl (by walk_at "clo") (vsLt_of rfl) (fun _ h => nomatch h)
  refine' (B1 hK hx).st 8 [(.ref 27, lH ms wd mt tt m m' [.list (avs (movF wd mt))]), (.bool (movB wd mt), lH ms wd mt tt m m' [.list (avs (movF wd mt)), .list []])] ⟨vsO tt [("found", .bool fb), ("met", .bool mb), ("moved", .bool (movB wd mt))], lH ms wd mt tt m m' [.list (avs (movF wd mt)), .list []]⟩ rfl ?f1 ?s1 rfl
  case s1 => walk_at "sub"
  case f1 =>
    walk_at "ob2"
    show Ev c (n + 3) _ _ _ (.ref (lH ms wd mt tt m m' []).length) ⟨vsO tt [("found", .bool fb), ("met", .bool mb)], lH ms wd mt tt m m' [] ++ [.list (avs (movF wd mt))]⟩
    refine' Ev.mapIf (os := lH ms wd mt tt m m' []) (src := .list 11) (a := .ref 11) (vs := vsO tt [("found", .bool fb), ("met", .bool mb)]) (trL mt).length (fun k => .str (T ((trL mt).getD k []))) (fun k => .str (T ((trL mt).getD k []))) (fun k => sixB wd ((trL mt).getD k [])) _ ((filter_map (trL mt) [] (fun w => AV.str (T w)) (fun w => sixB wd w)).trans (by unfold avs movF; rw [List.map_map]; rfl)) ?h1 (.list rfl) (fun k hk => item_avs rfl hk) (item_avsE rfl) ⟨_, rfl⟩ rfl ?turn (by rw [trL_len]; omega) (compOk_of rfl rfl rfl rfl) (fun _ _ => rfl)
    case h1 => exact (B1 hK hx).ev 5 [] rfl trivial rfl rfl
    case turn =>
      intro k hk
      have g4 : Four ((trL mt).getD k []) := trL_four h4 _ (getD_mem' hk)
      have gl : ((trL mt).getD k []).length = mt.length := trL_mlen _ (getD_mem' hk)
      have q1 : CallR c (n + 3) (.ref 115) [.str (T ((trL mt).getD k []))] (lH ms wd mt tt m m' []) (.ref 27) (lH ms wd mt tt m m' [.tup (moveN ((trL mt).getD k [])).av]) := moveAt (n := n) hK hx (by omega) g4 (lH ms wd mt tt m m' [])
      have q : Op2 c (n + 3) (compareOp .In) (.ref 27) (.ref 26) (lH ms wd mt tt m m' [.tup (moveN ((trL mt).getD k [])).av]) (.bool (sixB wd ((trL mt).getD k []))) (lH ms wd mt tt m m' [.tup (moveN ((trL mt).getD k [])).av]) := by
        have := in_d (c := c) (n := n + 3) (a := .ref 27) (b := .ref 26) (os := lH ms wd mt tt m m' [.tup (moveN ((trL mt).getD k [])).av]) (six_rd (wd := wd) rfl rfl rfl rfl rfl rfl rfl) (Mv.rd (m := moveN ((trL mt).getD k [])) rfl) (six_sh wd) (Mv.sh _)
        have e : ([mvD wd 0, mvD wd 1, mvD wd 2, mvD wd 3, mvD wd 4, mvD wd 5].any fun y => PyData.eqv y (.tuple ((moveN ((trL mt).getD k [])).ns.map PyData.int))) = sixB wd ((trL mt).getD k []) := by
          show ((List.range 6).map (mvD wd)).any _ = _
          rw [List.any_map]
          unfold sixB
          congr 1
          funext j
          exact Mv.eqv _ _
        rwa [e] at this
      refine ⟨[("turn", .str (T ((trL mt).getD k [])))], ?_, fun _ => ⟨_, (B1 hK hx).ev 5 [] rfl trivial rfl rfl⟩⟩
      refine Tst.cut (σ := ⟨[("turn", .str (T ((trL mt).getD k [])))], lH ms wd mt tt m m' []⟩) (os' := lH ms wd mt tt m m' []) (js := [.tup (moveN ((trL mt).getD k [])).av]) ?tt rfl (by walk_at "clo")
      refine' (B1 hK hx).tst 8 [(.ref 27, lH ms wd mt tt m m' [.tup (moveN ((trL mt).getD k [])).av]), (.bool (sixB wd ((trL mt).getD k [])), lH ms wd mt tt m m' [.tup (moveN ((trL mt).getD k [])).av])] rfl ?o1 rfl rfl
      walk_at "ob2"

theorem law28 (hK : c.K = KK P) (hx : c.XR = XRof LL1) {tt : Nat} {fb mb vb : Bool} {os : List AO} (h : ((fb == mb) && (mb == vb)) = true) :
    Exs c (n + 3) (fdL P cq) [stK P 130 28] ⟨vsO tt [("found", .bool fb), ("met", .bool mb), ("moved", .bool vb)], os⟩ (.ret (.bool true)) ⟨[], os⟩ := by
  refine' (B1 hK hx).ret 12 [] rfl ?f1 (congrArg AV.bool h) rfl
  walk_at "ob2"
end

noncomputable section
variable {c : Cx} {n : Nat} {P : Params} {cq : Option (Value × Str)}

/-- what the plain law must say -/
structure Pure2 (ms : List Nat) (tt : Nat) : Prop where
  hc : Hc tt
  mt4 : Four (mtN ms tt)
  mtl : (mtN ms tt).length ≤ 10
  hmv : pileN (wdN ms) = pileN (mtN ms tt) ↔ moveN (wdN ms) = moveN (mtN ms tt)
  main : ∃ m m' d d', Half tt (wdN ms) m d ∧ Half tt (mtN ms tt) m' d' ∧ ((fndB d d' == metB (wdN ms) (mtN ms tt)) && (metB (wdN ms) (mtN ms tt) == movB (wdN ms) (mtN ms tt))) = true

theorem four46 {l : List Nat} (h : Four l) : 46 ∉ l := fun hx => by rcases h 46 hx with e | e | e | e <;> cases e

set_option maxHeartbeats 1000000 in
theorem lawBody (hK : c.K = KK P) (hx : c.XR = XRof LL1) (M : Lm c LL1 76) {l : Addr} {vs : List Value} {sc : List Int} (hb : c.hb.IsList l vs.toArray) (hi0 : IntsAre vs sc) (hsc : sc.length ≤ 63) {ms : List Nat} {tt : Nat} (hms : numsL sc = nts ms) (hn : ms.length = 9) (htt : (nts ms).sum = (tt : Int)) (Q : Pure2 ms tt) {m m' : Nat} {d d' : List Nat} (H1 : Half tt (wdN ms) m d) (H2 : Half tt (mtN ms tt) m' d') (fin : ((fndB d d' == metB (wdN ms) (mtN ms tt)) && (metB (wdN ms) (mtN ms tt) == movB (wdN ms) (mtN ms tt))) = true) :
    Exs c (n + 10) (fdL P cq) (bodyK P 130) ⟨[("script", .lit (.ref l))], lO [] none none none none none none []⟩ (.ret (.bool true)) ⟨[], lH ms (wdN ms) (mtN ms tt) tt m m' []⟩ := by
  have hw6 := wdN_len hn
  have hw4 := wd_four ms
  have hd := H1.len d H1.dmem
  have hd' := H2.len d' H2.dmem
  have l0 := law0 (n := 0) (P := P) (cq := cq) hK hx hb hi0 hsc
  rw [hms] at l0
  refine Exs.cons (Ex.up (Nat.le_add_left 1 _) l0) ?_
  refine Exs.append (a := [stK P 130 1, stK P 130 2, stK P 130 3, stK P 130 4, stK P 130 5, stK P 130 6, stK P 130 7]) (Exs.up (by omega) (lawWords (n := 0) hK hx hn htt)) ?_
  refine Exs.append (a := [stK P 130 8, stK P 130 9, stK P 130 10, stK P 130 11]) (Exs.up (by omega) (lawPairs (n := 0) hK hx)) ?_
  refine Exs.cons (Ex.up (by omega) (law12f (n := 0) hK hx Q.hc hw4 Q.mt4 (by omega) Q.mtl)) ?_
  refine Exs.cons (Ex.up (by omega) (law13 (n := 0) hK hx Q.hc hw4 Q.mt4 (by omega) Q.mtl Q.hmv)) ?_
  refine Exs.append (a := [stK P 130 14, stK P 130 15]) (Exs.up (by omega) (lawTurns (n := 0) hK hx (by omega) Q.mtl)) ?_
  refine Exs.append (a := [stK P 130 16, stK P 130 17, stK P 130 18]) (lawRead (n := n) hK hx M hn (by omega) Q.mtl hw4 Q.mt4) ?_
  refine Exs.cons (Ex.up (by omega) (law19 (n := 0) hK hx Q.hc (by omega) hw4)) ?_
  refine Exs.cons (Ex.up (by omega) (law20 (n := 0) hK hx Q.hc Q.mtl Q.mt4)) ?_
  refine Exs.append (a := [stK P 130 21, stK P 130 22]) (Exs.up (by omega) (law2122 (n := 0) hK hx (by omega) Q.mtl H1.min H2.min H1.len H2.len)) ?_
  refine Exs.cons (Ex.up (by omega) (law23 (n := 0) (vs := []) hK hx Q.hc H1 H2 (by omega) Q.mtl hw4 Q.mt4)) ?_
  refine Exs.cons (Ex.up (by omega) (law24 (n := 0) hK hx hw6 hw4)) ?_
  refine Exs.cons (Ex.up (by omega) (law25 (n := 0) hK hx H1.hc0 H2.hc0 hd hd' (four46 (H2.four _ H2.dmem)))) ?_
  refine Exs.cons (Ex.up (by omega) (law26 (n := 0) hK hx (by omega) H1.four H2.four)) ?_
  refine Exs.cons (Ex.up (by omega) (law27 (n := 0) hK hx Q.mtl Q.mt4)) ?_
  exact Exs.up (by omega) (law28 (n := 0) hK hx fin)

theorem lawD (hK : c.K = KK P) (hx : c.XR = XRof LL1) (M : Lm c LL1 76) {l : Addr} {vs : List Value} {sc : List Int} (hb : c.hb.IsList l vs.toArray) (hi0 : IntsAre vs sc) (hsc : sc.length ≤ 63) {ms : List Nat} {tt : Nat} (hms : numsL sc = nts ms) (hn : ms.length = 9) (htt : (nts ms).sum = (tt : Int)) (Q : Pure2 ms tt) :
    ∃ js, CodeR c (n + 11) (.ref 130) [.lit (.ref l)] [.x (.tab [])] (.bool true) (.x (.tab [12, 13]) :: js) := by
  obtain ⟨m, m', d, d', H1, H2, fin⟩ := Q.main
  have W := fun cq => lawBody (n := n) (cq := cq) hK hx M hb hi0 hsc hms hn htt Q H1 H2 fin
  refine ⟨(lH ms (wdN ms) (mtN ms tt) tt m m' []).tail, ?_⟩
  refine' CodeR.of_cells (ps := [Str.ofString "script"]) (cn := [Str.ofString "signs", Str.ofString "word", Str.ofString "mate", Str.ofString "pairs", Str.ofString "right", Str.ofString "moves"]) (σ' := ⟨[], lH ms (wdN ms) (mtN ms tt) tt m m' []⟩) (DefAt.of hK rfl rfl rfl rfl rfl rfl rfl rfl) rfl ?hcs ?nd ?bind ?hps ?hcn ?rr (Back.all)
  case hcs => exact fun _ => rfl
  case nd => decide
  case bind =>
    intro xs h
    obtain ⟨a, rfl⟩ := len1 h
    rfl
  case hps => decide
  case hcn => decide
  case rr => exact W _
end

section
open Sg

/-! ### from signs written to signs -/
theorem four_cds : ∀ {l : List Nat}, Four l → ∃ w : List Sg, l = cds w
  | [], _ => ⟨[], rfl⟩
  | x :: t, h => by
    obtain ⟨w, rfl⟩ := four_cds (l := t) fun y hy => h y (List.mem_cons_of_mem _ hy)
    rcases h x (List.mem_cons_self ..) with rfl | rfl | rfl | rfl
    · exact ⟨.a :: w, rfl⟩
    · exact ⟨.u :: w, rfl⟩
    · exact ⟨.b :: w, rfl⟩
    · exact ⟨.v :: w, rfl⟩
theorem cds_four (w : List Sg) : Four (cds w) := fun x hx => by
  obtain ⟨y, _, rfl⟩ := List.mem_map.mp hx
  cases y with
  | a => exact .inl rfl
  | u => exact .inr (.inl rfl)
  | b => exact .inr (.inr (.inl rfl))
  | v => exact .inr (.inr (.inr rfl))
theorem cds_inj {w w' : List Sg} (h : cds w = cds w') : w = w' := by
  induction w generalizing w' with
  | nil => cases w' with
    | nil => rfl
    | cons => cases h
  | cons x t ih => cases w' with
    | nil => cases h
    | cons y t' =>
      have e := List.cons.inj h
      rw [cd_inj e.1, ih e.2]
theorem cds_len (w : List Sg) : (cds w).length = w.length := List.length_map _
theorem cds_app (w w' : List Sg) : cds (w ++ w') = cds w ++ cds w' := List.map_append
theorem undo_cd (x : Sg) : undo x.cd = x.inv.cd := by cases x <;> rfl
theorem pput_cds (p : List Sg) (x : Sg) : pputN (cds p) x.cd = cds (pput p x) := by
  unfold pputN pput
  have hl : (cds p).getLast? = p.getLast?.map cd := List.getLast?_map
  by_cases h : p.getLast? = some x.inv
  · rw [if_pos h, if_pos (by rw [hl, h, undo_cd]; rfl)]
    exact List.map_dropLast.symm
  · rw [if_neg h, if_neg]
    · exact (cds_app p [x]).symm
    · intro e
      rw [hl, undo_cd] at e
      cases g : p.getLast? with
      | none => rw [g] at e; cases e
      | some y =>
        rw [g] at e h
        exact h (congrArg some (cd_inj (Option.some.inj e)))
theorem pile_fold : ∀ (w p : List Sg), (cds w).foldl pputN (cds p) = cds (w.foldl pput p)
  | [], p => rfl
  | x :: t, p => by
    show (cds t).foldl pputN (pputN (cds p) x.cd) = _
    rw [pput_cds]; exact pile_fold t _
theorem pile_cds (w : List Sg) : pileN (cds w) = cds (rd w) := by
  rw [← pile_rd]; exact pile_fold w []

/-! ### cancelling -/
noncomputable def two (x : Sg) : List Nat × List Nat := ([x.cd, x.inv.cd], [])
theorem replAll_two : ∀ (o w : List Sg), replAll (o.map two) (cds w) = cds (rms o w)
  | [], w => rfl
  | x :: o, w => by
    show replAll (o.map two) (repl [x.cd, x.inv.cd] [] (cds w) 0) = _
    rw [repl_rm]; exact replAll_two o _
theorem replOk_two : ∀ (o w : List Sg), w.length ≤ 1000 → ReplOk (o.map two) (cds w)
  | [], w, h => by show (cds w).length ≤ 1000; rw [cds_len]; exact h
  | x :: o, w, h => by
    refine ⟨(by rw [cds_len]; exact h), (by intro e; cases e), Nat.zero_le _, ?_⟩
    show ReplOk (o.map two) (repl [x.cd, x.inv.cd] [] (cds w) 0)
    rw [repl_rm]
    exact replOk_two o _ (Nat.le_trans (rm_len x w).1 h)
noncomputable def rot4 (k : Nat) : List Sg := [a, u, b, v].drop k ++ [a, u, b, v].take k
theorem ord_two (tt : Nat) : psN tt = (rot4 (tt % 4)).map two := by
  have : ∀ k, k < 4 → withN (rotW k tw4) = (rot4 k).map two := by
    intro k hk
    match k, hk with
    | 0, _ => rfl
    | 1, _ => rfl
    | 2, _ => rfl
    | 3, _ => rfl
  exact this _ (Nat.mod_lt _ (by decide))
theorem oth_two (tt : Nat) : poN tt = (rot4 (tt % 4)).reverse.map two := by
  have : ∀ k, k < 4 → withN (rotW k tw4).reverse = (rot4 k).reverse.map two := by
    intro k hk
    match k, hk with
    | 0, _ => rfl
    | 1, _ => rfl
    | 2, _ => rfl
    | 3, _ => rfl
  exact this _ (Nat.mod_lt _ (by decide))
theorem rot4_all (k : Nat) (x : Sg) : x ∈ rot4 k := by
  have : x ∈ [a, u, b, v] := by cases x <;> simp
  rw [← List.take_append_drop k [a, u, b, v]] at this
  exact List.mem_append.mpr ((List.mem_append.mp this).symm)
theorem over_two (o w : List Sg) : overP (o.map two) (cds w) = ((List.replicate (w.length / 2 + 1) o).flatten).map two := by
  unfold overP
  rw [cds_len, List.map_flatten, List.map_replicate]
theorem canc_two {o : List Sg} (ho : ∀ x, x ∈ o) (w : List Sg) : cancL (o.map two) (cds w) = cds (rd w) := by
  unfold cancL
  rw [over_two, replAll_two, rounds_rep, rounds_ok ho _ _ (by omega)]
theorem hc_all (tt : Nat) : Hc tt := fun x h4 hl => by
  obtain ⟨w, rfl⟩ := four_cds h4
  have hw : w.length ≤ 1000 := by rw [cds_len] at hl; omega
  rw [ord_two, oth_two, pile_cds, over_two, over_two]
  exact ⟨replOk_two _ _ hw, replOk_two _ _ hw, canc_two (rot4_all _) w, canc_two (fun x => List.mem_reverse.mpr (rot4_all _ x)) w⟩

/-! ### moves -/
noncomputable def toMv (m : M4) : Mv := ⟨m.p, m.q, m.r, m.s⟩
theorem toMv_inj {m m' : M4} (h : toMv m = toMv m') : m = m' := by
  obtain ⟨p, q, r, s⟩ := m
  obtain ⟨p', q', r', s'⟩ := m'
  simp only [toMv, Mv.mk.injEq] at h
  obtain ⟨rfl, rfl, rfl, rfl⟩ := h
  rfl
theorem mst_cd (m : M4) (x : Sg) : mstN (toMv m) x.cd = toMv (mst m x) := by
  cases x <;> rfl
theorem move_fold : ∀ (w : List Sg) (m : M4), (cds w).foldl mstN (toMv m) = toMv (w.foldl mst m)
  | [], m => rfl
  | x :: t, m => by
    show (cds t).foldl mstN (mstN (toMv m) x.cd) = _
    rw [mst_cd]; exact move_fold t _
theorem move_cds (w : List Sg) : moveN (cds w) = toMv (move w) := move_fold w .one
theorem hmv_all (w w' : List Sg) : pileN (cds w) = pileN (cds w') ↔ moveN (cds w) = moveN (cds w') := by
  rw [pile_cds, pile_cds, move_cds, move_cds]
  exact ⟨fun h => congrArg toMv (move_iff.mpr (cds_inj h)), fun h => congrArg cds (move_iff.mp (toMv_inj h))⟩

/-! ### turns -/
theorem rot_cds (k : Nat) (w : List Sg) : rot k (cds w) = cds (w.drop k ++ w.take k) := by
  unfold rot cds
  rw [List.map_append, List.map_drop, List.map_take]
theorem trL_cds (w : List Sg) : trL (cds w) = (trn w).map cds := by
  unfold trL trn
  rw [cds_len, List.map_map]
  exact List.map_congr_left fun k _ => rot_cds _ _
theorem trn0_cds (w : List Sg) : trn0N (cds w) = (trn0 w).map cds := by
  unfold trn0N trn0
  rw [cds_len, List.map_map]
  exact List.map_congr_left fun k _ => rot_cds _ _
theorem lfN_cds (w : List Sg) : lfN (cds w) = (lft w).map cds := by
  unfold lfN lft
  rw [trL_cds, List.map_map, List.map_map]
  exact List.map_congr_left fun t _ => pile_cds t
theorem short_cds (l : List (List Sg)) (m : Nat) : shortN (l.map cds) m = (shorts l m).map cds := by
  unfold shortN shorts
  rw [List.filter_map]
  congr 1
  refine List.filter_congr fun x _ => ?_
  show decide ((cds x).length = m) = _
  rw [cds_len]
theorem mem_cds {x : List Sg} {l : List (List Sg)} : cds x ∈ l.map cds ↔ x ∈ l := by
  rw [List.mem_map]
  exact ⟨fun ⟨y, hy, e⟩ => cds_inj e ▸ hy, fun h => ⟨x, h, rfl⟩⟩
theorem least_ex : ∀ {l : List (List Sg)}, l ≠ [] → ∃ m, Least l m
  | [], h => absurd rfl h
  | [x], _ => ⟨x.length, ⟨x, by simp, rfl⟩, fun y hy => by rw [List.mem_singleton.mp hy]; exact Nat.le_refl _⟩
  | x :: y :: t, _ => by
    obtain ⟨m, ⟨z, hz, e⟩, ha⟩ := least_ex (l := y :: t) (by simp)
    by_cases hx : x.length ≤ m
    · refine ⟨x.length, ⟨x, by simp, rfl⟩, fun q hq => ?_⟩
      rcases List.mem_cons.mp hq with rfl | hq
      · exact Nat.le_refl _
      · exact Nat.le_trans hx (ha q hq)
    · refine ⟨m, ⟨z, List.mem_cons_of_mem _ hz, e⟩, fun q hq => ?_⟩
      rcases List.mem_cons.mp hq with rfl | hq
      · omega
      · exact ha q hq
theorem lft_ne {w : List Sg} (hw : w ≠ []) : lft w ≠ [] := by
  intro e
  have := congrArg List.length e
  unfold lft trn at this
  rw [List.length_map, List.length_map, List.length_range] at this
  exact hw (List.length_eq_zero_iff.mp this)
theorem lft_len {w x : List Sg} (h : x ∈ lft w) : x.length ≤ w.length := by
  obtain ⟨t, ht, rfl⟩ := List.mem_map.mp h
  obtain ⟨k, hk, rfl⟩ := List.mem_map.mp ht
  refine Nat.le_trans (rd_len _) ?_
  rw [List.length_append, List.length_drop, List.length_take]
  have := List.mem_range.mp hk
  omega

theorem half_all (tt : Nat) {w : List Sg} (hw : w ≠ []) (hl : w.length ≤ 10) : ∃ (m : Nat) (d : List Sg), Least (lft w) m ∧ d ∈ shorts (lft w) m ∧ Half tt (cds w) m (cds d) := by
  obtain ⟨c, C⟩ := core_of w
  obtain ⟨m, L⟩ := least_ex (lft_ne hw)
  obtain ⟨z, hz, e⟩ := L.some
  have hz' : z ∈ shorts (lft w) m := List.mem_filter.mpr ⟨hz, by rw [e]; exact decide_eq_true rfl⟩
  have hpos : 0 < (shorts (lft w) m).length := List.length_pos_of_mem hz'
  refine ⟨m, (shorts (lft w) m)[0], L, List.getElem_mem _, ?_⟩
  refine { min := ?_, hc0 := ?_, same := ?_, twice := ?_, four := ?_, len := ?_, len2 := ?_, len1 := ?_ }
  · rw [lfN_cds]
    refine ⟨⟨cds z, List.mem_map.mpr ⟨z, hz, rfl⟩, by rw [cds_len]; exact e⟩, fun x hx => ?_⟩
    obtain ⟨y, hy, rfl⟩ := List.mem_map.mp hx
    rw [cds_len]; exact L.all y hy
  · rw [lfN_cds, short_cds, List.getElem?_map, List.getElem?_eq_getElem hpos]; rfl
  · intro x
    rw [lfN_cds, short_cds, trn0_cds]
    constructor
    · intro h
      obtain ⟨y, hy, rfl⟩ := List.mem_map.mp h
      exact mem_cds.mpr ((C.same hw L (List.getElem_mem hpos)).mp hy)
    · intro h
      obtain ⟨y, hy, rfl⟩ := List.mem_map.mp h
      exact mem_cds.mpr ((C.same hw L (List.getElem_mem hpos)).mpr hy)
  · rw [← cds_app, pile_cds, pile_cds, cds_len, cds_len, cds_len]
    exact C.twice hw L (List.getElem_mem hpos)
  · rw [lfN_cds]
    intro x hx
    obtain ⟨y, _, rfl⟩ := List.mem_map.mp hx
    exact cds_four y
  · rw [lfN_cds]
    intro x hx
    obtain ⟨y, hy, rfl⟩ := List.mem_map.mp hx
    rw [cds_len]; exact Nat.le_trans (lft_len hy) hl
  · rw [← cds_app, pile_cds, cds_len]
    have := rd_len (w ++ w)
    rw [List.length_append] at this
    omega
  · rw [pile_cds, cds_len]
    exact Nat.le_trans (rd_len w) hl
end

section
open Sg

theorem infx_any (p : List Nat) : ∀ (l : List Nat) (pos : Nat), (fnd p l pos).isSome = true ↔ ∃ u v, l = u ++ p ++ v
  | [], pos => by
    unfold fnd
    constructor
    · intro h
      by_cases hp : p = []
      · subst hp; exact ⟨[], [], rfl⟩
      · rw [if_neg hp] at h; cases h
    · rintro ⟨u, v, e⟩
      have : p = [] := by
        have := congrArg List.length e
        simp at this
        exact List.length_eq_zero_iff.mp (by omega)
      rw [if_pos this]; rfl
  | x :: t, pos => by
    unfold fnd
    by_cases hp : p.isPrefixOf (x :: t) = true
    · rw [if_pos hp]
      obtain ⟨v, e⟩ := List.isPrefixOf_iff_prefix.mp hp
      exact ⟨fun _ => ⟨[], v, by simpa using e.symm⟩, fun _ => rfl⟩
    · rw [if_neg hp, infx_any p t (pos + 1)]
      constructor
      · rintro ⟨u, v, rfl⟩; exact ⟨x :: u, v, by simp⟩
      · rintro ⟨u, v, e⟩
        cases u with
        | nil => exact absurd (List.isPrefixOf_iff_prefix.mpr ⟨v, by simpa using e.symm⟩) hp
        | cons y u =>
          simp only [List.cons_append, List.cons.injEq] at e
          exact ⟨u, v, e.2⟩
theorem infx_cds (p l : List Sg) : infx (cds p) (cds l) = true ↔ ∃ x y, l = x ++ p ++ y := by
  unfold infx
  rw [infx_any]
  constructor
  · rintro ⟨x, y, e⟩
    unfold cds at e
    obtain ⟨l1, l2, rfl, e1, e2⟩ := List.map_eq_append_iff.mp e
    obtain ⟨l3, l4, rfl, e3, e4⟩ := List.map_eq_append_iff.mp e1
    exact ⟨l3, l2, by rw [cds_inj (w := l4) (w' := p) e4]⟩
  · rintro ⟨x, y, rfl⟩
    exact ⟨cds x, cds y, by rw [cds_app, cds_app]⟩

theorem not_empty_iff {α : Type} {l : List α} {q : α → Bool} : (!decide (l.filter q = [])) = true ↔ ∃ x ∈ l, q x = true := by
  rw [Bool.not_eq_true', decide_eq_false_iff_not, List.filter_eq_nil_iff]
  constructor
  · intro h
    refine Classical.byContradiction fun g => h fun x hx hq => g ⟨x, hx, hq⟩
  · rintro ⟨x, hx, hq⟩ h
    exact h x hx hq
theorem met_iff (w w' : List Sg) : metB (cds w) (cds w') = true ↔ ∃ x ∈ lft w, x ∈ lft w' := by
  unfold metB metF
  rw [not_empty_iff, lfN_cds, lfN_cds]
  constructor
  · rintro ⟨x, hx, hq⟩
    obtain ⟨y, hy, rfl⟩ := List.mem_map.mp hx
    exact ⟨y, hy, mem_cds.mp (of_decide_eq_true hq)⟩
  · rintro ⟨y, hy, hq⟩
    exact ⟨cds y, mem_cds.mpr hy, decide_eq_true (mem_cds.mpr hq)⟩
theorem six_iff {w : List Sg} (hw : w.length = 6) (t : List Sg) : sixB (cds w) (cds t) = true ↔ ∃ t' ∈ trn w, move t' = move t := by
  unfold sixB
  rw [List.any_eq_true, trL_cds]
  have hl : ((trn w).map cds).length = 6 := by unfold trn; rw [List.length_map, List.length_map, List.length_range]; exact hw
  constructor
  · rintro ⟨k, hk, e⟩
    have hk6 := List.mem_range.mp hk
    have e := of_decide_eq_true e
    have hm := getD_mem' (ws := (trn w).map cds) (k := k) (by omega)
    obtain ⟨t', ht', h⟩ := List.mem_map.mp hm
    rw [← h, move_cds, move_cds] at e
    exact ⟨t', ht', toMv_inj e⟩
  · rintro ⟨t', ht', e⟩
    obtain ⟨k, hk, g⟩ := List.getElem_of_mem ht'
    have hk6 : k < 6 := by rw [List.length_map] at hl; omega
    refine ⟨k, List.mem_range.mpr hk6, decide_eq_true ?_⟩
    rw [List.getD_eq_getElem?_getD, List.getElem?_map, List.getElem?_eq_getElem hk, g]
    show moveN (cds t') = _
    rw [move_cds, move_cds, e]
theorem mov_iff {w : List Sg} (hw : w.length = 6) (w' : List Sg) : movB (cds w) (cds w') = true ↔ ∃ t ∈ trn w', ∃ t' ∈ trn w, move t' = move t := by
  unfold movB movF
  rw [not_empty_iff, trL_cds]
  constructor
  · rintro ⟨x, hx, hq⟩
    obtain ⟨y, hy, rfl⟩ := List.mem_map.mp hx
    exact ⟨y, hy, (six_iff hw y).mp hq⟩
  · rintro ⟨y, hy, hq⟩
    exact ⟨cds y, mem_cds.mpr hy, (six_iff hw y).mpr hq⟩
theorem fnd_iff (d d' : List Sg) : fndB (cds d) (cds d') = true ↔ d.length = d'.length ∧ ∃ p q, d ++ d = p ++ d' ++ q := by
  unfold fndB
  rw [Bool.and_eq_true, ← cds_app, infx_cds, cds_len, cds_len, beq_iff_eq]
  exact and_congr_left fun _ => ⟨fun h => by omega, fun h => by omega⟩

/-! ### the words -/
theorem four_app {x y : List Nat} (h : Four x) (g : Four y) : Four (x ++ y) := fun z hz => (List.mem_append.mp hz).elim (h z) (g z)
theorem four_drop {x : List Nat} (h : Four x) (k : Nat) : Four (x.drop k) := fun z hz => h z (List.mem_of_mem_drop hz)
theorem four_getD {x : List Nat} (h : Four x) {k : Nat} (hk : k < x.length) : x.getD k 0 = 97 ∨ x.getD k 0 = 34 ∨ x.getD k 0 = 32 ∨ x.getD k 0 = 92 := h _ (by
  rw [List.getD_eq_getElem?_getD, List.getElem?_eq_getElem hk]; exact List.getElem_mem hk)
theorem und_four {x : List Nat} (h : Four x) : Four (undL x) := fun z hz => by
  obtain ⟨y, hy, rfl⟩ := List.mem_map.mp hz
  rcases h y (List.mem_reverse.mp hy) with rfl | rfl | rfl | rfl <;> decide
theorem tu_four (ms : List Nat) (tt : Nat) : Four (tuN ms tt) := four_rot (wd_four ms) _
theorem tu_len {ms : List Nat} (hn : ms.length = 9) (tt : Nat) : (tuN ms tt).length = 6 := by
  unfold tuN; rw [rot_len (by have := wdN_len hn; have := Nat.mod_lt tt (show 0 < 6 by decide); omega)]; exact wdN_len hn
theorem mi_ok {ms : List Nat} (hn : ms.length = 9) (tt : Nat) {j : Nat} (hj : j < 3) : Four ((miN ms tt).getD j []) ∧ ((miN ms tt).getD j []).length = 6 := by
  have h4 := tu_four ms tt
  have hl := tu_len hn tt
  match j, hj with
  | 0, _ => exact ⟨h4, hl⟩
  | 1, _ =>
    refine ⟨four_app (fun z hz => ?_) (four_drop h4 2), ?_⟩
    · rcases List.mem_cons.mp hz with rfl | hz
      · exact four_getD h4 (by omega)
      · rw [List.mem_singleton] at hz; subst hz; exact four_getD h4 (by omega)
    · show ([(tuN ms tt).getD 1 0, (tuN ms tt).getD 0 0] ++ (tuN ms tt).drop 2).length = 6
      rw [List.length_append, List.length_drop, hl]; rfl
  | 2, _ =>
    refine ⟨fun z hz => ?_, ?_⟩
    · rcases List.mem_cons.mp (show z ∈ sg (ms.getD 8 0 % 4) :: (tuN ms tt).drop 1 from hz) with rfl | hz
      · exact sg_four (Nat.mod_lt _ (by decide))
      · exact four_drop h4 1 z hz
    · show (sg (ms.getD 8 0 % 4) :: (tuN ms tt).drop 1).length = 6
      rw [List.length_cons, List.length_drop, hl]
theorem mt_ok {ms : List Nat} (hn : ms.length = 9) (tt : Nat) : Four (mtN ms tt) ∧ (mtN ms tt).length ≤ 10 ∧ 6 ≤ (mtN ms tt).length := by
  obtain ⟨h4, hl⟩ := mi_ok hn tt (j := tt / 6 % 3) (Nat.mod_lt _ (by decide))
  have ha := ah_len ms
  refine ⟨four_app (four_app (ah_four ms) h4) (und_four (ah_four ms)), ?_, ?_⟩
  all_goals
    unfold mtN undL
    rw [List.length_append, List.length_append, hl, List.length_map, List.length_reverse]
    omega

/-- the plain law -/
theorem pure2 {ms : List Nat} (hn : ms.length = 9) (tt : Nat) : Pure2 ms tt := by
  obtain ⟨h4, hl, hl6⟩ := mt_ok hn tt
  obtain ⟨w, hw⟩ := four_cds (wd_four ms)
  obtain ⟨w', hw'⟩ := four_cds h4
  have hw6 : w.length = 6 := by rw [← cds_len w, ← hw]; exact wdN_len hn
  have hl' : w'.length ≤ 10 := by rw [← cds_len w', ← hw']; exact hl
  have hl6' : 6 ≤ w'.length := by rw [← cds_len w', ← hw']; exact hl6
  have hne : w ≠ [] := by intro e; rw [e] at hw6; cases hw6
  have hne' : w' ≠ [] := by intro e; rw [e] at hl6'; exact absurd hl6' (by decide)
  refine ⟨hc_all tt, h4, hl, ?_, ?_⟩
  · rw [hw, hw']; exact hmv_all w w'
  · obtain ⟨m, d, L, hd, H⟩ := half_all tt hne (by omega)
    obtain ⟨m', d', L', hd', H'⟩ := half_all tt hne' hl'
    refine ⟨m, m', cds d, cds d', hw ▸ H, hw' ▸ H', ?_⟩
    obtain ⟨c, C⟩ := core_of w
    obtain ⟨c', C'⟩ := core_of w'
    have e1 : fndB (cds d) (cds d') = metB (cds w) (cds w') := by
      rw [Bool.eq_iff_iff, fnd_iff, met_iff]
      exact found_met hne hne' C C' L L' hd hd'
    have e2 : metB (cds w) (cds w') = movB (cds w) (cds w') := by
      rw [Bool.eq_iff_iff, met_iff, mov_iff hw6]
      exact met_moved
    rw [hw, hw', e1, e2]
    simp

/-! ### the numbers -/
theorem nums_nat (sc : List Int) : ∃ ms : List Nat, numsL sc = nts ms ∧ ms.length = 9 ∧ ∃ tt : Nat, (nts ms).sum = (tt : Int) := by
  have h0 : ∀ x ∈ numsL sc, 0 ≤ x := by
    intro x hx
    rcases List.mem_append.mp hx with hx | hx
    · obtain ⟨y, _, rfl⟩ := List.mem_map.mp hx
      exact Int.fmod_nonneg_of_pos _ (by decide)
    · have := List.mem_of_mem_drop hx
      simp at this
      omega
  have e : numsL sc = nts ((numsL sc).map Int.toNat) := by
    unfold nts
    rw [List.map_map]
    conv => lhs; rw [← List.map_id (numsL sc)]
    exact List.map_congr_left fun x hx => (Int.toNat_of_nonneg (h0 x hx)).symm
  refine ⟨(numsL sc).map Int.toNat, e, by rw [List.length_map]; exact numsL_len sc, ((numsL sc).map Int.toNat).sum, ?_⟩
  generalize (numsL sc).map Int.toNat = ms
  unfold nts
  induction ms with
  | nil => rfl
  | cons x t ih => rw [List.map_cons, List.sum_cons, List.sum_cons, ih]; omega
end

noncomputable section
theorem joinLaw (lawD : ∀ (c : Cx) (P : Params), c.K = KK P → c.XR = XRof LL1 → Lm c LL1 76 → ∀ (l : Addr) (vs : List Value) (sc : List Int), c.hb.IsList l vs.toArray → IntsAre vs sc → sc.length ≤ 63 →
    ∃ as os', CodeR c 30 (.ref 130) [.lit (.ref l)] [.x (.tab [])] (.bool true) (.x (.tab as) :: os')) : PySem.Challenge.rw_pe0095_02.Holds := by
  refine hd ?_
  k_fill
  intro w s₀ s₁ mg mb G Y fa o pm cd doc dV kV ho hd hcd hD hmg hg args vals as hpre hlay hrd hwl hlo
  have KX := km_in_of Y
  km_tabs Y
  have X := (Ground.X G).1
  have V := (Ground.X G).2
  refine Ground.open G ?_
  intro T B D TE TW
  try (refine guard_noD D (by decide +kernel) ?_; clear D)
  km_lay T hmg ho hd cd
  wrow_args hpre hlay hrd hwl hlo
  all_goals (first | refine callC_kw (enter_call ?_) | refine enter_call ?_)
  all_goals kn_posts
  rename Heap.IsList _ _ _ => hL
  rename IntsAre _ _ => hI
  rename_i sc hsh hlay0 hLay hrs hl2 w4 w3 l vs w0 ra w1 r0 hr hcond htrue
  have hfa : fa = 130 := by
    have hq : nsIn (KK w.params) mainGlobals (Str.ofString "law") = some (some (.ref 130)) := rfl
    have e := mg_of KX T.g hq
    rw [show mg (Str.ofString "law") = _ from hmg] at e
    cases e; rfl
  subst hfa
  have hK0 := ghost_K hT9 KX (by kernel_rfl)
  have hfr : (ghostOf s₁.heap [(76, 72)]).get? 72 = none := hideAll_none _ (by simp)
  have hnl : (ghostOf s₁.heap [(76, 72)]).NoLimit := by
    obtain ⟨mc, a, r⟩ := T.nolimit
    exact ⟨mc, ghost_ns hT9 a, r⟩
  let c : Cx := Cx.mk PySem.Challenge.rw_pe0095_02.row.prog w (ghostOf s₁.heap [(76, 72)]) (KK w.params) hK0 mg mb (ghost_ns hT9 T.g) (ghost_ns hT9 T.b) T.builtins hnl (XRof LL1) (fun f x e => XRof.map f x e) (fun x => XRof.lt x) (fun x _ l => XRof.loc x l)
  have hbase : c.hb.IsList l vs.toArray := ghost_list hT9 hL
  have hM : Lm c LL1 76 := by
    refine ⟨(ghost_code hT9).1, ?_, by decide⟩
    obtain ⟨bm, ob, b1, b2, b3, b4, b5, b6⟩ := T.bmain
    have hb3 : (ghostOf s₁.heap [(76, 72)]).get? bm = some ob := ghost_get hT9 b3 (fun q => by rw [q] at b4; cases b4)
    refine ⟨bm, ob, b1, b2, ?_, ?_, hb3, b4, b5, b6⟩
    · intro q
      obtain ⟨o', es, ep, e, hd', _⟩ := T.g
      rw [q, e] at b3; cases b3; rw [hd'] at b6; cases b6
    · intro q
      rw [q] at hb3
      exact absurd (hb3.symm.trans hfr) (by intro e; cases e)
  obtain ⟨as0, os', W⟩ := lawD c w.params rfl rfl hM l vs sc hbase hI (by omega)
  have hrm : Room callerA 30 := ⟨rfl, by decide, by decide⟩
  have hr0 : Rel c [] [.x (.tab [])] [⟨72, []⟩] s₁.heap := by
    refine ⟨⟨?_, trivial⟩, by decide, fun a o e => of_hideAll _ e, fun a ha => ?_, fun a ha => ?_⟩
    · exact ⟨[], rfl, rfl, trivial, hT8 72 (by simp)⟩
    · simp [foot] at ha; subst ha; exact hfr
    · simp [foot] at ha; subst ha; exact Heap.lt_size (hT8 72 (by simp))
  refine W callerA [⟨72, []⟩] s₁ [.ref l] _ hrm hr0 ⟨rfl, trivial⟩ fun y h' tk' ρ' q r hv => ?_
  intro dr
  have hy : y = .bool true := hv
  subst hy
  obtain ⟨p', hp', hx'⟩ := r.objs.get (i := 0) (o := .x (.tab as0)) rfl
  obtain ⟨as, g1, g2, g3, g4⟩ := (show XRof LL1 (.tab as0) ρ' p' h' from hx')
  refine ⟨⟨.inl ⟨.bool true, .bool true, [], rfl, fun _ => rfl, .bool true, ?_, fun _ => ⟨List.nodup_nil, fun _ h => nomatch h⟩⟩, fun b o e => r.keep b o e, rfl, hg⟩, ⟨_, g4⟩, trivial⟩
  first | kernel_rfl | (with_unfolding_all rfl) | (simp; done)
end

theorem holds02 : PySem.Challenge.rw_pe0095_02.Holds := joinLaw fun c P hK hx M l vs sc hb hi hsc => by
  obtain ⟨ms, e, hn, tt, ht⟩ := nums_nat sc
  obtain ⟨js, W⟩ := lawD (n := 19) hK hx M hb hi hsc e hn ht (pure2 hn tt)
  exact ⟨[12, 13], js, W⟩
end Mine
end

theorem PySem.Challenge.cw_pe0095_02_holds : PySem.Challenge.rw_pe0095_02.Holds :=
  Mine.holds02
