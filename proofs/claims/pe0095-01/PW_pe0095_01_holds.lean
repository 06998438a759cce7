import PyProof.Rows.All
import Wide.All
import OpenK.AllK
import Wide.FinOn
import Lean
import PySem.Challenge.RW_pe0095_01
open PySem PySem.W PyProof.Rows
set_option Elab.async false

section
open PySem PySem.W PyProof.Rows
namespace Mine

/-! ## The abstract state -/

inductive AV where
  | int (i : Int)
  | str (x : Str)
  | bool (b : Bool)
  | none
  | lit (v : Value)
  | ref (i : Nat)

inductive XO where
  /-- a code table with its entries -/
  | tab (cs : List Nat)
  /-- the code of the j-th function made in a call -/
  | code (j : Nat)
  /-- a function made in a call: which one, its cells, its code, its attribute -/
  | fn (j : Nat) (cl : List (Str × Nat)) (t : Nat) (rd : Option Nat)
  /-- an instance with its attributes -/
  | inst (m : List (Str × AV))
  /-- iter(x, ''), x a bound method -/
  | citer (x : Nat)
  /-- the bound method fR of x -/
  | meth (x : Nat)
  /-- of no more use -/
  | junk
  /-- a function's attributes: read alone -/
  | rdict (q : Nat)

inductive AO where
  | list (xs : List AV)
  | tup (xs : List AV)
  | cell (v : Option AV)
  | rng (lo hi : Int)
  | x (k : XO)

noncomputable def AV.refs : AV → List Nat
  | .ref i => [i]
  | _ => []
noncomputable def AVs.refs : List AV → List Nat
  | [] => []
  | x :: r => x.refs ++ AVs.refs r
noncomputable def XO.refs : XO → List Nat
  | .tab cs => cs
  | .code _ => []
  | .fn _ cl t rd => rd.toList ++ t :: cl.map (·.2)
  | .inst m => AVs.refs (m.map (·.2))
  | .citer x => [x]
  | .meth x => [x]
  | .junk => []
  | .rdict q => [q]
noncomputable def AO.refs : AO → List Nat
  | .list xs => AVs.refs xs
  | .tup xs => AVs.refs xs
  | .cell (some v) => v.refs
  | .cell .none => []
  | .rng _ _ => []
  | .x k => k.refs

noncomputable def AV.ren (f : Nat → Nat) : AV → AV
  | .ref i => .ref (f i)
  | v => v
noncomputable def XO.ren (f : Nat → Nat) : XO → XO
  | .tab cs => .tab (cs.map f)
  | .code j => .code j
  | .fn j cl t rd => .fn j (cl.map fun q => (q.1, f q.2)) (f t) (rd.map f)
  | .inst m => .inst (m.map fun q => (q.1, q.2.ren f))
  | .citer x => .citer (f x)
  | .meth x => .meth (f x)
  | .junk => .junk
  | .rdict q => .rdict (f q)
noncomputable def AO.ren (f : Nat → Nat) : AO → AO
  | .list xs => .list (xs.map (AV.ren f))
  | .tup xs => .tup (xs.map (AV.ren f))
  | .cell v => .cell (v.map (AV.ren f))
  | .rng a b => .rng a b
  | .x k => .x (k.ren f)
theorem AV.ren_id (v : AV) : v.ren (fun i => i) = v := by cases v <;> rfl
theorem XO.ren_id (k : XO) : k.ren (fun i => i) = k := by
  cases k with
  | fn j cl t rd => cases rd <;> simp [XO.ren]
  | tab cs => simp [XO.ren]
  | inst m => simp [XO.ren, AV.ren_id]
  | _ => rfl

/-- where an abstract object lies: its own address and what else is its own -/
structure Pl where
  a : Addr
  more : List Addr

noncomputable def foot : List Pl → List Addr
  | [] => []
  | p :: r => (p.a :: p.more) ++ foot r

theorem foot_append (a b : List Pl) : foot (a ++ b) = foot a ++ foot b := by
  induction a with
  | nil => rfl
  | cons p r ih => simp only [List.cons_append, foot, ih, List.append_assoc]

theorem foot_mem_of_get {ρ : List Pl} {i : Nat} {p : Pl} (h : ρ[i]? = some p) : ∀ a ∈ p.a :: p.more, a ∈ foot ρ := by
  induction ρ generalizing i with
  | nil => simp at h
  | cons q r ih =>
    intro a ha
    cases i with
    | zero =>
      simp at h; subst h
      exact List.mem_append_left _ ha
    | succ i =>
      simp at h
      exact List.mem_append_right _ (ih h a ha)

noncomputable def VR (ρ : List Pl) : AV → Value → Prop
  | .int i, v => ∃ t, v = .int i t
  | .str x, v => ∃ t, v = .str x t
  | .bool b, v => v = .bool b
  | .none, v => v = .none
  | .lit u, v => v = u
  | .ref i, v => ∃ p, ρ[i]? = some p ∧ v = .ref p.a

theorem getElem?_mono {α : Type} {ρ new : List α} {i : Nat} {p : α} (h : ρ[i]? = some p) : (ρ ++ new)[i]? = some p := by
  rw [List.getElem?_append_left (List.getElem?_eq_some_iff.mp h).1]; exact h

theorem VR.mono {ρ : List Pl} {x : AV} {v : Value} (new : List Pl) (h : VR ρ x v) : VR (ρ ++ new) x v := by
  cases x with
  | ref i =>
    obtain ⟨p, hp, rfl⟩ := h
    exact ⟨p, getElem?_mono hp, rfl⟩
  | _ => exact h

theorem VR.ext {ρ ρ' : List Pl} {x : AV} {v : Value} (h : VR ρ x v) (e : ∀ i ∈ x.refs, ∀ p, ρ[i]? = some p → ρ'[i]? = some p) : VR ρ' x v := by
  cases x with
  | ref i =>
    obtain ⟨p, hp, rfl⟩ := h
    exact ⟨p, e i List.mem_cons_self p hp, rfl⟩
  | _ => exact h
theorem VR.lt {ρ : List Pl} {x : AV} {v : Value} (h : VR ρ x v) : ∀ i ∈ x.refs, i < ρ.length := by
  cases x with
  | ref i =>
    obtain ⟨p, hp, rfl⟩ := h
    intro j hj; simp [AV.refs] at hj; subst hj
    exact (List.getElem?_eq_some_iff.mp hp).1
  | _ => intro j hj; cases hj

noncomputable def VRs (ρ : List Pl) : List AV → List Value → Prop
  | [], [] => True
  | x :: xs, v :: vs => VR ρ x v ∧ VRs ρ xs vs
  | _, _ => False

theorem VRs.mono {ρ : List Pl} (new : List Pl) : ∀ {xs : List AV} {vs : List Value}, VRs ρ xs vs → VRs (ρ ++ new) xs vs
  | [], [], _ => trivial
  | _ :: _, _ :: _, h => ⟨h.1.mono new, VRs.mono new h.2⟩

theorem VRs.ext {ρ ρ' : List Pl} : ∀ {xs : List AV} {vs : List Value}, VRs ρ xs vs → (∀ i ∈ AVs.refs xs, ∀ p, ρ[i]? = some p → ρ'[i]? = some p) → VRs ρ' xs vs
  | [], [], _, _ => trivial
  | _ :: _, _ :: _, h, e => ⟨h.1.ext fun i hi => e i (List.mem_append_left _ hi), VRs.ext h.2 fun i hi => e i (List.mem_append_right _ hi)⟩
theorem VRs.length {ρ : List Pl} : ∀ {xs : List AV} {vs : List Value}, VRs ρ xs vs → xs.length = vs.length
  | [], [], _ => rfl
  | _ :: _, _ :: _, h => congrArg (· + 1) (VRs.length h.2)

theorem VRs.append {ρ : List Pl} : ∀ {xs : List AV} {vs : List Value} {ys : List AV} {ws : List Value}, VRs ρ xs vs → VRs ρ ys ws → VRs ρ (xs ++ ys) (vs ++ ws)
  | [], [], _, _, _, h => h
  | _ :: _, _ :: _, _, _, h, h' => ⟨h.1, VRs.append h.2 h'⟩

theorem VRs.get {ρ : List Pl} : ∀ {xs : List AV} {vs : List Value} {i : Nat} {x : AV}, VRs ρ xs vs → xs[i]? = some x → ∃ v, vs[i]? = some v ∧ VR ρ x v
  | _ :: _, v :: _, 0, _, h, e => by simp at e; subst e; exact ⟨v, rfl, h.1⟩
  | _ :: _, _ :: _, i + 1, _, h, e => by simp at e; simpa using VRs.get h.2 e

noncomputable def VRo (ρ : List Pl) : Option AV → Option Value → Prop
  | .none, .none => True
  | some x, some v => VR ρ x v
  | _, _ => False
theorem VRo.mono {ρ : List Pl} {x : Option AV} {v : Option Value} (new : List Pl) (h : VRo ρ x v) : VRo (ρ ++ new) x v := by
  cases x <;> cases v <;> first | exact h | exact VR.mono new h

/-! ## The context: what the top has left -/

abbrev Keeps (h h' : Heap) : Prop := ∀ b o, h.get? b = some o → h'.get? b = some o

structure Cx where
  prog : Program
  w : World
  hb : Heap
  K : Frag
  inK : K.In hb
  mg : Str → Option Value
  mb : Str → Option Value
  g : hb.Ns mainGlobals mg
  b : hb.Ns builtinsNs mb
  bs : ∀ x : Str, x ≠ "__name__" → mb x = bootBuiltins x
  nolimit : hb.NoLimit
  XR : XO → List Pl → Pl → Heap → Prop
  XR_map : ∀ {k ρ ρ' p h} (f : Nat → Nat), XR k ρ p h → (∀ i ∈ k.refs, ∀ p, ρ[i]? = some p → ρ'[f i]? = some p) → XR (k.ren f) ρ' p h
  XR_lt : ∀ {k ρ p h}, XR k ρ p h → ∀ i ∈ k.refs, i < ρ.length
  XR_loc : ∀ {k ρ p} {h h' : Heap}, XR k ρ p h → Keeps hb h' → (∀ a ∈ p.a :: p.more, ∀ o, h.get? a = some o → h'.get? a = some o) → XR k ρ p h'

theorem Cx.XR_ext (c : Cx) {k ρ ρ' p h} (x : c.XR k ρ p h) (e : ∀ i ∈ k.refs, ∀ p, ρ[i]? = some p → ρ'[i]? = some p) : c.XR k ρ' p h := by
  have := c.XR_map (fun i => i) x e
  rwa [XO.ren_id] at this

abbrev Cx.M (c : Cx) : Model := model c.prog c.w

noncomputable def LL (h : Heap) (a : Addr) (its : Array Value) : Prop := ∃ n, h.get? a = some { cls := .type "list", dict := none, data := .seq its n, slots := #[] }
noncomputable def TT (h : Heap) (a : Addr) (its : Array Value) : Prop := ∃ n, h.get? a = some { cls := .type "tuple", dict := none, data := .seq its n, slots := #[] }
theorem LL.isList {h : Heap} {a : Addr} {its : Array Value} (x : LL h a its) : h.IsList a its := let ⟨n, e⟩ := x; ⟨_, e, rfl, n, rfl⟩
theorem LL.lt {h : Heap} {a : Addr} {its : Array Value} (x : LL h a its) : a < h.objs.size := let ⟨_, e⟩ := x; Heap.lt_size e
theorem TT.isTup {h : Heap} {a : Addr} {its : Array Value} (x : TT h a its) : IsTup h a its := let ⟨n, e⟩ := x; ⟨_, e, rfl, n, rfl⟩
theorem LL.of {h h' : Heap} {a : Addr} {its : Array Value} (x : LL h a its) (k : ∀ o, h.get? a = some o → h'.get? a = some o) : LL h' a its := let ⟨n, e⟩ := x; ⟨n, k _ e⟩
theorem TT.of {h h' : Heap} {a : Addr} {its : Array Value} (x : TT h a its) (k : ∀ o, h.get? a = some o → h'.get? a = some o) : TT h' a its := let ⟨n, e⟩ := x; ⟨n, k _ e⟩

noncomputable def OR (c : Cx) (ρ : List Pl) : AO → Pl → Heap → Prop
  | .list xs, p, h => p.more = [] ∧ ∃ vs, VRs ρ xs vs ∧ LL h p.a vs.toArray
  | .tup xs, p, h => p.more = [] ∧ ∃ vs, VRs ρ xs vs ∧ TT h p.a vs.toArray
  | .cell v, p, h => p.more = [] ∧ ∃ v', VRo ρ v v' ∧ h.IsCell p.a v'
  | .rng lo hi, p, h => p.more = [] ∧ ∃ t u v, IsRange h p.a lo hi 1 t u v
  | .x k, p, h => c.XR k ρ p h

theorem OR.ext {c : Cx} {ρ ρ' : List Pl} {o : AO} {p : Pl} {h : Heap} (x : OR c ρ o p h) (e : ∀ i ∈ o.refs, ∀ p, ρ[i]? = some p → ρ'[i]? = some p) : OR c ρ' o p h := by
  cases o with
  | list xs => obtain ⟨e', vs, h1, h2⟩ := x; exact ⟨e', vs, h1.ext e, h2⟩
  | tup xs => obtain ⟨e', vs, h1, h2⟩ := x; exact ⟨e', vs, h1.ext e, h2⟩
  | cell v =>
    obtain ⟨e', v', h1, h2⟩ := x
    refine ⟨e', v', ?_, h2⟩
    cases v <;> cases v' <;> first | exact h1 | exact VR.ext h1 e
  | rng lo hi => exact x
  | x k => exact c.XR_ext x e
theorem OR.mono {c : Cx} {ρ : List Pl} {o : AO} {p : Pl} {h : Heap} (new : List Pl) (x : OR c ρ o p h) : OR c (ρ ++ new) o p h := x.ext fun _ _ _ hp => getElem?_mono hp

theorem OR.loc {c : Cx} {ρ : List Pl} {o : AO} {p : Pl} {h h' : Heap} (x : OR c ρ o p h) (k : Keeps c.hb h') (l : ∀ a ∈ p.a :: p.more, ∀ o, h.get? a = some o → h'.get? a = some o) : OR c ρ o p h' := by
  have l0 := l p.a List.mem_cons_self
  cases o with
  | list xs => obtain ⟨e, vs, h1, r⟩ := x; exact ⟨e, vs, h1, r.of l0⟩
  | tup xs => obtain ⟨e, vs, h1, r⟩ := x; exact ⟨e, vs, h1, r.of l0⟩
  | cell v => obtain ⟨e, v', h1, o, ho, r⟩ := x; exact ⟨e, v', h1, o, l0 _ ho, r⟩
  | rng lo hi => obtain ⟨e, t, u, v, r⟩ := x; exact ⟨e, t, u, v, l0 _ r⟩
  | x k' => exact c.XR_loc x k l

/-- object by object -/
noncomputable def ORs (c : Cx) (ρ : List Pl) : List AO → List Pl → Heap → Prop
  | [], [], _ => True
  | o :: os, p :: ps, h => OR c ρ o p h ∧ ORs c ρ os ps h
  | _, _, _ => False

theorem ORs.length {c : Cx} {ρ : List Pl} {h : Heap} : ∀ {os : List AO} {ps : List Pl}, ORs c ρ os ps h → os.length = ps.length
  | [], [], _ => rfl
  | _ :: _, _ :: _, x => congrArg (· + 1) (ORs.length x.2)
theorem ORs.mono {c : Cx} {ρ : List Pl} {h : Heap} (new : List Pl) : ∀ {os : List AO} {ps : List Pl}, ORs c ρ os ps h → ORs c (ρ ++ new) os ps h
  | [], [], _ => trivial
  | _ :: _, _ :: _, x => ⟨x.1.mono new, ORs.mono new x.2⟩
theorem ORs.loc {c : Cx} {ρ : List Pl} {h h' : Heap} (k : Keeps c.hb h') : ∀ {os : List AO} {ps : List Pl}, ORs c ρ os ps h → (∀ a ∈ foot ps, ∀ o, h.get? a = some o → h'.get? a = some o) → ORs c ρ os ps h'
  | [], [], _, _ => trivial
  | _ :: _, _ :: _, x, l => ⟨x.1.loc k fun a ha => l a (List.mem_append_left _ ha), ORs.loc k x.2 fun a ha => l a (List.mem_append_right _ ha)⟩
theorem ORs.ext {c : Cx} {ρ ρ' : List Pl} {h : Heap} : ∀ {os : List AO} {ps : List Pl}, ORs c ρ os ps h → (∀ o ∈ os, ∀ i ∈ o.refs, ∀ p, ρ[i]? = some p → ρ'[i]? = some p) → ORs c ρ' os ps h
  | [], [], _, _ => trivial
  | _ :: _, _ :: _, x, e => ⟨x.1.ext (e _ List.mem_cons_self), ORs.ext x.2 fun o ho => e o (List.mem_cons_of_mem _ ho)⟩
theorem ORs.get {c : Cx} {ρ : List Pl} {h : Heap} : ∀ {os : List AO} {ps : List Pl} {i : Nat} {o : AO}, ORs c ρ os ps h → os[i]? = some o → ∃ p, ps[i]? = some p ∧ OR c ρ o p h
  | _ :: _, p :: _, 0, _, x, e => by simp at e; subst e; exact ⟨p, rfl, x.1⟩
  | _ :: _, _ :: _, i + 1, _, x, e => by simp at e; simpa using ORs.get x.2 e
theorem ORs.append {c : Cx} {ρ : List Pl} {h : Heap} : ∀ {os : List AO} {ps : List Pl} {os' : List AO} {ps' : List Pl}, ORs c ρ os ps h → ORs c ρ os' ps' h → ORs c ρ (os ++ os') (ps ++ ps') h
  | [], [], _, _, _, y => y
  | _ :: _, _ :: _, _, _, x, y => ⟨x.1, ORs.append x.2 y⟩

/-- one object turned, all else as it was -/
theorem ORs.set {c : Cx} {ρ : List Pl} {h h' : Heap} (k : Keeps c.hb h') {i : Nat} {p : Pl} {o : AO} : ∀ {os : List AO} {ps : List Pl}, ORs c ρ os ps h → ps[i]? = some p → (foot ps).Nodup →
    (∀ a, a ∉ p.a :: p.more → ∀ o, h.get? a = some o → h'.get? a = some o) → OR c ρ o p h' → ORs c ρ (os.set i o) ps h'
  | os, ps, x, e, nd, l, y => by
    induction i generalizing os ps with
    | zero =>
      cases os <;> cases ps <;> first | exact x.elim | (simp at e) | skip
      rename_i o0 os p0 ps
      subst e
      refine ⟨y, x.2.loc k fun a ha => l a ?_⟩
      intro hp
      exact (List.nodup_append.mp nd).2.2 a hp a ha rfl
    | succ i ih =>
      cases os <;> cases ps <;> first | exact x.elim | (simp at e) | skip
      rename_i o0 os p0 ps
      refine ⟨x.1.loc k fun a ha => l a ?_, ih os ps x.2 e (List.nodup_append.mp nd).2.1⟩
      intro hp
      exact (List.nodup_append.mp nd).2.2 a ha a (foot_mem_of_get e a hp) rfl

structure Rel (c : Cx) (X : List Addr) (os : List AO) (ρ : List Pl) (h : Heap) : Prop where
  objs : ORs c ρ os ρ h
  nodup : (X ++ foot ρ).Nodup
  keep : Keeps c.hb h
  fresh : ∀ a ∈ X ++ foot ρ, c.hb.get? a = none
  live : ∀ a ∈ X ++ foot ρ, a < h.objs.size

/-- from one heap to a later one: what is not one's own stays -/
structure Reach (X : List Addr) (ρ : List Pl) (h : Heap) (ρ' : List Pl) (h' : Heap) : Prop where
  grow : ∃ new, ρ' = ρ ++ new ∧ ∀ a ∈ foot new, h.objs.size ≤ a
  keep : ∀ a o, h.get? a = some o → a ∉ X ++ foot ρ → h'.get? a = some o
  size : h.objs.size ≤ h'.objs.size

theorem Reach.refl (X : List Addr) (ρ : List Pl) (h : Heap) : Reach X ρ h ρ h := ⟨⟨[], by simp, by simp [foot]⟩, fun _ _ e _ => e, Nat.le_refl _⟩
theorem Reach.trans {X : List Addr} {ρ ρ₁ ρ₂ : List Pl} {h h₁ h₂ : Heap} (x : Reach X ρ h ρ₁ h₁) (y : Reach X ρ₁ h₁ ρ₂ h₂) : Reach X ρ h ρ₂ h₂ := by
  obtain ⟨n1, rfl, f1⟩ := x.grow
  obtain ⟨n2, rfl, f2⟩ := y.grow
  refine ⟨⟨n1 ++ n2, by simp, ?_⟩, fun a o e hn => y.keep a o (x.keep a o e hn) ?_, Nat.le_trans x.size y.size⟩
  · intro a ha
    rw [foot_append] at ha
    rcases List.mem_append.mp ha with ha | ha
    · exact f1 a ha
    · exact Nat.le_trans x.size (f2 a ha)
  · rw [foot_append, ← List.append_assoc]
    intro hm
    rcases List.mem_append.mp hm with hm | hm
    · exact hn hm
    · exact absurd (Heap.lt_size e) (Nat.not_lt.mpr (f1 a hm))
theorem Reach.more {X Y : List Addr} {ρ ρ₁ : List Pl} {h h₁ : Heap} (x : Reach X ρ h ρ₁ h₁) (s : ∀ a ∈ X, a ∈ Y) : Reach Y ρ h ρ₁ h₁ :=
  ⟨x.grow, fun a o e hn => x.keep a o e fun hm => hn ((List.mem_append.mp hm).elim (fun q => List.mem_append_left _ (s a q)) (List.mem_append_right _)), x.size⟩

end Mine
end

section
open PySem PySem.W PyProof.Rows
namespace Mine

theorem runs_size {M : Model} {Γ : Ctx} {p : Pos} {t : Sem Fin} {fs : List Frame} {s s' : Shared} {e : End} (h : Runs M Γ p t fs s e s') : s.heap.objs.size ≤ s'.heap.objs.size := by
  induction h <;> (try simp only [Shared.setGen, Heap.size_push, Heap.size_after_update] at *) <;> omega

theorem returns_size {M : Model} {Γ : Ctx} {p : Pos} {s s' : Shared} {r : Result} (h : Returns M Γ p s r s') : s.heap.objs.size ≤ s'.heap.objs.size := runs_size h

theorem wakes_size {M : Model} {Γ : Ctx} {p : Pos} {g : Nat} {r : Resume} {s s' : Shared} {res : GenResult} (h : Wakes M Γ p g r s res s') : s.heap.objs.size ≤ s'.heap.objs.size := by
  unfold Wakes at h
  split at h
  · exact h.elim
  · split at h
    · obtain ⟨e₁, s₁, hr, _, _, rfl⟩ := h; exact (runs_size hr : (s.setGen g .running).heap.objs.size ≤ s₁.heap.objs.size)
    · rw [h.2]; exact Nat.le_refl _
    · rw [h.2]; exact Nat.le_refl _
  · obtain ⟨e₁, s₁, hr, _, _, rfl⟩ := h; exact (runs_size hr : (s.setGen g .running).heap.objs.size ≤ s₁.heap.objs.size)
  · rw [h.2]; exact Nat.le_refl _
  · rw [h.2]; exact Nat.le_refl _

theorem wp_size {α : Type} (M : Model) (Γ : Ctx) (n : Nat) (t : Sem α) : ∀ (Q : α → Pos → Shared → Prop) (E : Value → Pos → Shared → Prop) (p : Pos) (s : Shared), n ≤ s.heap.objs.size → Sem.wp M Γ t Q E p s →
    Sem.wp M Γ t (fun a p' s' => n ≤ s'.heap.objs.size ∧ Q a p' s') (fun e p' s' => n ≤ s'.heap.objs.size ∧ E e p' s') p s := by
  induction t with
  | pure a => intro Q E p s hn h; exact ⟨hn, h⟩
  | raise e => intro Q E p s hn h; exact ⟨hn, h⟩
  | unsupported _ => intro Q E p s _ h; exact h
  | finish _ => intro Q E p s _ h; exact h
  | rule _ k ih => intro Q E p s hn h; exact ih () Q E p s hn h
  | «at» p' k ih => intro Q E p s hn h; exact ih () Q E p' s hn h
  | load a _ k ih => intro Q E p s hn h; obtain ⟨o, ho, h⟩ := h; exact ⟨o, ho, ih o Q E p s hn h⟩
  | update a _ f k ih => intro Q E p s hn h; exact ⟨h.1, ih () Q E p _ (by simpa using hn) h.2⟩
  | loadIfAlive a k ih => intro Q E p s hn h; exact ih _ Q E p s hn h
  | point _ k ih => intro Q E p s hn h; exact ih () Q E p s hn h
  | register _ _ => intro Q E p s _ h; exact h
  | alloc o k ih => intro Q E p s hn h; exact ih _ Q E p _ (by show n ≤ (s.heap.push o).objs.size; rw [Heap.size_push]; omega) h
  | fresh k ih => intro Q E p s hn h; exact ih _ Q E p _ hn h
  | ask k ih => intro Q E p s hn h; exact ih _ Q E p s hn h
  | choose src m k ih => intro Q E p s hn h; exact ⟨h.1, ih _ Q E p _ hn h.2⟩
  | os q _ k ih => intro Q E p s hn h; exact ih _ Q E p _ hn h
  | call c hd _ _ k ih => intro Q E p s hn h; obtain ⟨r, s', hr, h⟩ := h; exact ⟨r, s', hr, ih r Q E p s' (Nat.le_trans hn (returns_size hr)) h⟩
  | handled own k ih => intro Q E p s hn h; exact ih _ Q E p s hn h
  | genState g k ih => intro Q E p s hn h; obtain ⟨st, hs, h⟩ := h; exact ⟨st, hs, ih _ Q E p s hn h⟩
  | newGen c k ih => intro Q E p s hn h; exact ih _ Q E p _ hn h
  | resume g r _ k ih => intro Q E p s hn h; obtain ⟨res, s', hw, h⟩ := h; exact ⟨res, s', hw, ih res Q E p s' (Nat.le_trans hn (wakes_size hw)) h⟩
  | yield _ _ _ _ => intro Q E p s _ h; exact h
  | stack k ih => intro Q E p s hn h; exact ih _ Q E p s hn h
  | fork _ _ => intro Q E p s _ h; exact h
  | thread k ih => intro Q E p s hn h; exact ih _ Q E p s hn h
  | await _ _ _ _ _ => intro Q E p s _ h; exact h

/-- a heap never shrinks -/
theorem wpAny_size {α : Type} {M : Model} {A : Around} {s : Shared} {t : Sem α} {Q : α → Shared → Prop} {E : Value → Shared → Prop}
    (h : wpAny M A t (fun a s' => s.heap.objs.size ≤ s'.heap.objs.size → Q a s') (fun e s' => s.heap.objs.size ≤ s'.heap.objs.size → E e s') s) : wpAny M A t Q E s := by
  have h' : wpAny M A t (fun a s' => s.heap.objs.size ≤ s'.heap.objs.size ∧ (s.heap.objs.size ≤ s'.heap.objs.size → Q a s')) (fun e s' => s.heap.objs.size ≤ s'.heap.objs.size ∧ (s.heap.objs.size ≤ s'.heap.objs.size → E e s')) s :=
    fun Γ p hΓ => wp_size M Γ _ t _ _ p s (Nat.le_refl _) (h Γ p hΓ)
  exact wpAny_mono h' (fun _ _ x => x.2 x.1) (fun _ _ x => x.2 x.1)
theorem codeAny_size {M : Model} {A : Around} {s : Shared} {c : Code} {R : Result → Shared → Prop} (h : codeAny M A c (fun r s' => s.heap.objs.size ≤ s'.heap.objs.size → R r s') s) : codeAny M A c R s :=
  fun Γ p hc hΓ => by obtain ⟨r, s', hr, hR⟩ := h Γ p hc hΓ; exact ⟨r, s', hr, hR (returns_size hr)⟩
end Mine
end

section
open PySem PySem.W PyProof.Rows
namespace Mine

structure FD where
  scope : Scope
  cells : List (Str × Nat)
  /-- the frame's code and its prefix for names, where they are told -/
  cq : Option (Value × Str)

structure S where
  vs : List (Str × AV)
  os : List AO

structure Fre (fd : FD) (vs : List (Str × AV)) (env : Env) (ρ : List Pl) (h : Heap) : Prop where
  scope : env.scope = fd.scope
  glob : env.globals = mainGlobals
  blt : env.builtins = builtinsNs
  cq : ∀ q, fd.cq = some q → env.code = q.1 ∧ env.qual = q.2
  cells : ∀ x i, fd.cells.lookup x = some i → ∃ p, ρ[i]? = some p ∧ env.cells.lookup x = some p.a
  ns : ∃ m, h.Ns env.locals m ∧ ∀ x v, vs.lookup x = some v → ∃ v', m x = some v' ∧ VR ρ v v'

structure In (c : Cx) (fd : FD) (σ : S) (env : Env) (ρ : List Pl) (h : Heap) : Prop where
  rel : Rel c [env.locals] σ.os ρ h
  fre : Fre fd σ.vs env ρ h

structure Room (A : Around) (n : Nat) : Prop where
  handled : A.handled = none
  depth : A.depth + n < recursionLimit
  units : A.units + 20 * n + 100 < cLine

noncomputable def Run (c : Cx) (X : List Addr) (A : Around) (ρ : List Pl) (s : Shared) {α : Type} (t : Sem α) (P : List Pl → Heap → α → Prop) : Prop :=
  ∀ Q E, (∀ x h' tk' ρ', Reach X ρ s.heap ρ' h' → P ρ' h' x → Q x { s with heap := h', toks := tk' }) → wpAny c.M A t Q E s

section
variable {c : Cx} {X : List Addr} {A : Around} {ρ : List Pl} {s : Shared} {α β : Type}

theorem Run.bind {m : Sem α} {f : α → Sem β} {P : List Pl → Heap → α → Prop} {P' : List Pl → Heap → β → Prop} (h : Run c X A ρ s m P)
    (k : ∀ x h₁ tk ρ₁, Reach X ρ s.heap ρ₁ h₁ → P ρ₁ h₁ x → Run c X A ρ₁ { s with heap := h₁, toks := tk } (f x) P') : Run c X A ρ s (m >>= f) P' :=
  fun Q E hq => wpAny_bind (h _ _ fun x h₁ tk ρ₁ r p => k x h₁ tk ρ₁ r p Q E fun y h₂ tk₂ ρ₂ r₂ p₂ => hq y h₂ tk₂ ρ₂ (r.trans r₂) p₂)
theorem Run.pure {a : α} {P : List Pl → Heap → α → Prop} (h : P ρ s.heap a) : Run c X A ρ s (Pure.pure a) P :=
  fun _ _ hq => wpAny_pure (hq a s.heap s.toks ρ (Reach.refl ..) h)
theorem Run.mono {t : Sem α} {P P' : List Pl → Heap → α → Prop} (h : Run c X A ρ s t P) (k : ∀ x h₁ ρ₁, Reach X ρ s.heap ρ₁ h₁ → P ρ₁ h₁ x → P' ρ₁ h₁ x) : Run c X A ρ s t P' :=
  fun Q E hq => h Q E fun x h' tk' ρ' r p => hq x h' tk' ρ' r (k x h' ρ' r p)
theorem Run.holding {vs : List Value} {t : Sem α} {P : List Pl → Heap → α → Prop} (h : Run c X A ρ s t P) : Run c X A ρ s (PySem.holding vs t) P :=
  fun Q E hq => wpAny_holding (h Q E hq)
theorem Run.stand {pos : Pos} {t : Sem α} {P : List Pl → Heap → α → Prop} (h : Run c X A ρ s t P) : Run c X A ρ s (do PySem.standAt pos; t) P :=
  fun Q E hq => wpAny_bind (wpAny_standAt (h Q E hq))
theorem Run.release {vs keep : List Value} {P : List Pl → Heap → Unit → Prop} (h : P ρ s.heap ()) : Run c X A ρ s (PySem.release vs keep) P :=
  fun _ _ hq => fun Γ p _ => by
    rw [Sem.wp_release]; exact hq () s.heap s.toks ρ (Reach.refl ..) h
theorem Run.operate {vs : List Value} {t : Sem Value} {P : List Pl → Heap → Value → Prop} (h : Run c X A ρ s t P) : Run c X A ρ s (PySem.operate vs t) P :=
  fun Q E hq => fun Γ p hΓ => by
    rw [Sem.wp_operate]; exact h Q E hq Γ p hΓ
theorem Run.of_eq {t t' : Sem α} {P : List Pl → Heap → α → Prop} (e : t = t') (h : Run c X A ρ s t' P) : Run c X A ρ s t P := e ▸ h
/-- a step that tells a value and turns nothing but the tokens -/
theorem Run.tell {t : Sem α} {a : α} {P : List Pl → Heap → α → Prop} (h : ∀ Q E, (∀ tk, Q a { s with toks := tk }) → wpAny c.M A t Q E s) (p : P ρ s.heap a) : Run c X A ρ s t P :=
  fun Q E hq => h Q E fun tk => hq a s.heap tk ρ (Reach.refl ..) p
end

/-! ### lifting -/

theorem Rel.sub {c : Cx} {X Y : List Addr} {os : List AO} {ρ : List Pl} {h : Heap} (r : Rel c (X ++ Y) os ρ h) : Rel c Y os ρ h :=
  ⟨r.objs, by have := r.nodup; rw [List.append_assoc] at this; exact (List.nodup_append.mp this).2.1, r.keep, fun a ha => r.fresh a (by rw [List.append_assoc]; exact List.mem_append_right _ ha), fun a ha => r.live a (by rw [List.append_assoc]; exact List.mem_append_right _ ha)⟩
theorem Rel.none {c : Cx} {X : List Addr} {os : List AO} {ρ : List Pl} {h : Heap} (r : Rel c X os ρ h) : Rel c [] os ρ h := Rel.sub (X := X) (Y := []) (by simpa using r)

theorem Rel.lift {c : Cx} {X : List Addr} {os os' : List AO} {ρ ρ' : List Pl} {h h' : Heap} (r : Rel c X os ρ h) (q : Reach [] ρ h ρ' h') (r' : Rel c [] os' ρ' h') : Rel c X os' ρ' h' := by
  obtain ⟨new, rfl, f⟩ := q.grow
  refine ⟨r'.objs, ?_, r'.keep, fun a ha => ?_, fun a ha => ?_⟩
  · have h1 := r.nodup
    have h2 := r'.nodup
    refine List.nodup_append.mpr ⟨(List.nodup_append.mp h1).1, by simpa using h2, fun a ha b hb e => ?_⟩
    subst e
    rw [foot_append] at hb
    rcases List.mem_append.mp hb with hb | hb
    · exact (List.nodup_append.mp h1).2.2 a ha a hb rfl
    · exact absurd (r.live a (List.mem_append_left _ ha)) (Nat.not_lt.mpr (f a hb))
  · rcases List.mem_append.mp ha with ha | ha
    · exact r.fresh a (List.mem_append_left _ ha)
    · exact r'.fresh a (by simpa using ha)
  · rcases List.mem_append.mp ha with ha | ha
    · exact Nat.lt_of_lt_of_le (r.live a (List.mem_append_left _ ha)) q.size
    · exact r'.live a (by simpa using ha)

theorem Reach.pref {X : List Addr} {ρ ρ' : List Pl} {h h' : Heap} (q : Reach X ρ h ρ' h') : ∃ new, ρ' = ρ ++ new := let ⟨n, e, _⟩ := q.grow; ⟨n, e⟩
theorem VR.reach {X : List Addr} {ρ ρ' : List Pl} {h h' : Heap} {x : AV} {v : Value} (y : VR ρ x v) (q : Reach X ρ h ρ' h') : VR ρ' x v := by obtain ⟨n, rfl⟩ := q.pref; exact y.mono n
theorem VRs.reach {X : List Addr} {ρ ρ' : List Pl} {h h' : Heap} {x : List AV} {v : List Value} (y : VRs ρ x v) (q : Reach X ρ h ρ' h') : VRs ρ' x v := by obtain ⟨n, rfl⟩ := q.pref; exact y.mono n

theorem Fre.lift {fd : FD} {vs : List (Str × AV)} {env : Env} {ρ ρ' : List Pl} {h h' : Heap} (f : Fre fd vs env ρ h) (hl : env.locals ∉ foot ρ) (q : Reach [] ρ h ρ' h') : Fre fd vs env ρ' h' := by
  obtain ⟨new, rfl, _⟩ := q.grow
  refine ⟨f.scope, f.glob, f.blt, f.cq, fun x i e => ?_, ?_⟩
  · obtain ⟨p, h1, h2⟩ := f.cells x i e
    exact ⟨p, getElem?_mono h1, h2⟩
  · obtain ⟨m, ⟨o, es, ep, ho, r⟩, hm⟩ := f.ns
    refine ⟨m, ⟨o, es, ep, q.keep _ _ ho (by simpa using hl), r⟩, fun x v e => ?_⟩
    obtain ⟨v', h1, h2⟩ := hm x v e
    exact ⟨v', h1, h2.mono new⟩

theorem In.notFoot {c : Cx} {fd : FD} {σ : S} {env : Env} {ρ : List Pl} {h : Heap} (x : In c fd σ env ρ h) : env.locals ∉ foot ρ := fun hm =>
  (List.nodup_append.mp x.rel.nodup).2.2 env.locals List.mem_cons_self env.locals hm rfl

theorem In.lift {c : Cx} {fd : FD} {σ : S} {env : Env} {ρ ρ' : List Pl} {h h' : Heap} {os' : List AO} (x : In c fd σ env ρ h) (q : Reach [] ρ h ρ' h') (r' : Rel c [] os' ρ' h') : In c fd ⟨σ.vs, os'⟩ env ρ' h' :=
  ⟨x.rel.lift q r', x.fre.lift x.notFoot q⟩

/-! ### operations upon objects -/

noncomputable def Op (c : Cx) (n : Nat) (t : List Value → Sem Value) (args : List AV) (os : List AO) (v : AV) (os' : List AO) : Prop :=
  ∀ A ρ s xs, Room A n → Rel c [] os ρ s.heap → VRs ρ args xs → Run c [] A ρ s (t xs) fun ρ' h' x => Rel c [] os' ρ' h' ∧ VR ρ' v x

noncomputable def Op1 (c : Cx) (n : Nat) (t : Value → Sem Value) (a : AV) (os : List AO) (v : AV) (os' : List AO) : Prop :=
  ∀ A ρ s x, Room A n → Rel c [] os ρ s.heap → VR ρ a x → Run c [] A ρ s (t x) fun ρ' h' y => Rel c [] os' ρ' h' ∧ VR ρ' v y
noncomputable def Op2 (c : Cx) (n : Nat) (t : Value → Value → Sem Value) (a b : AV) (os : List AO) (v : AV) (os' : List AO) : Prop :=
  ∀ A ρ s x y, Room A n → Rel c [] os ρ s.heap → VR ρ a x → VR ρ b y → Run c [] A ρ s (t x y) fun ρ' h' z => Rel c [] os' ρ' h' ∧ VR ρ' v z

/-- a call -/
abbrev CallR (c : Cx) (n : Nat) (f : Value) (args : List AV) (os : List AO) (v : AV) (os' : List AO) : Prop := Op c n (fun xs => call f xs) args os v os'

/-- truth -/
noncomputable def Tru (c : Cx) (n : Nat) (a : AV) (os : List AO) (b : Bool) : Prop :=
  ∀ A ρ s x, Room A n → Rel c [] os ρ s.heap → VR ρ a x → Run c [] A ρ s (truthy x) fun ρ' h' y => Rel c [] os ρ' h' ∧ y = b

/-! ### the judgements -/

noncomputable def Ev (c : Cx) (n : Nat) (fd : FD) (e : Expr) (σ : S) (v : AV) (σ' : S) : Prop :=
  ∀ env A ρ s, Room A n → In c fd σ env ρ s.heap → Run c [env.locals] A ρ s (eval e env) fun ρ' h' x => In c fd σ' env ρ' h' ∧ VR ρ' v x

noncomputable def Evs (c : Cx) (n : Nat) (fd : FD) (es : List Expr) (σ : S) (vs : List AV) (σ' : S) : Prop :=
  ∀ pos env A ρ s, Room A n → In c fd σ env ρ s.heap → Run c [env.locals] A ρ s (spliced (backTo pos (starEach es env))) fun ρ' h' xs => In c fd σ' env ρ' h' ∧ VRs ρ' vs xs

noncomputable def Tst (c : Cx) (n : Nat) (fd : FD) (e : Expr) (σ : S) (b : Bool) (σ' : S) : Prop :=
  ∀ env A ρ s, Room A n → In c fd σ env ρ s.heap → Run c [env.locals] A ρ s (isTrue e env (eval e env)) fun ρ' h' x => In c fd σ' env ρ' h' ∧ x = b

inductive AF where
  | next | cont | brk | ret (v : AV)
noncomputable def FR (ρ : List Pl) : AF → Flow → Prop
  | .next, f => f = .next
  | .cont, f => f = .cont
  | .brk, f => f = .brk
  | .ret v, f => ∃ x, f = .ret x ∧ VR ρ v x

noncomputable def Ex (c : Cx) (n : Nat) (fd : FD) (st : Stmt) (σ : S) (f : AF) (σ' : S) : Prop :=
  ∀ env A ρ s, Room A n → In c fd σ env ρ s.heap → Run c [env.locals] A ρ s (exec st env) fun ρ' h' x => In c fd σ' env ρ' h' ∧ FR ρ' f x
noncomputable def Exs (c : Cx) (n : Nat) (fd : FD) (sts : List Stmt) (σ : S) (f : AF) (σ' : S) : Prop :=
  ∀ env A ρ s, Room A n → In c fd σ env ρ s.heap → Run c [env.locals] A ρ s (execs sts env) fun ρ' h' x => In c fd σ' env ρ' h' ∧ FR ρ' f x

section
variable {c : Cx} {n : Nat} {fd : FD} {σ σ₁ σ₂ σ₃ : S}

theorem In.op {env : Env} {A : Around} {ρ : List Pl} {s : Shared} {t : Sem Value} {v : AV} {os' : List AO} (x : In c fd σ env ρ s.heap)
    (h : Run c [] A ρ s t fun ρ' h' y => Rel c [] os' ρ' h' ∧ VR ρ' v y) : Run c [env.locals] A ρ s t fun ρ' h' y => In c fd ⟨σ.vs, os'⟩ env ρ' h' ∧ VR ρ' v y :=
  fun Q E hq => h Q E fun y h' tk' ρ' r p => hq y h' tk' ρ' (r.more (by simp)) ⟨x.lift r p.1, p.2⟩
theorem In.tru {env : Env} {A : Around} {ρ : List Pl} {s : Shared} {t : Sem Bool} {b : Bool} (x : In c fd σ env ρ s.heap)
    (h : Run c [] A ρ s t fun ρ' h' y => Rel c [] σ.os ρ' h' ∧ y = b) : Run c [env.locals] A ρ s t fun ρ' h' y => In c fd σ env ρ' h' ∧ y = b :=
  fun Q E hq => h Q E fun y h' tk' ρ' r p => hq y h' tk' ρ' (r.more (by simp)) ⟨x.lift r p.1, p.2⟩

/-! ### plain expressions -/

theorem Ev.int {i : Int} {k pos} : Ev c n fd (.Constant (.int i) k pos) σ (.int i) σ := fun _ _ _ _ _ x =>
  Run.tell (fun _ _ hq => wpAny_Constant_int (hq _)) ⟨x, _, rfl⟩
end

end Mine
end

section
open PySem PySem.W PyProof.Rows
namespace Mine

section
variable {c : Cx} {n : Nat} {fd : FD} {σ σ₁ σ₂ σ₃ : S}

theorem Fre.kindOf {vs : List (Str × AV)} {env : Env} {ρ : List Pl} {h : Heap} (f : Fre fd vs env ρ h) (x : Str) : env.kindOf x = fd.scope.names.lookup x := by
  unfold Env.kindOf; rw [f.scope]

theorem Ev.str {x : Str} {k pos} : Ev c n fd (.Constant (.str x) k pos) σ (.str x) σ := fun _ _ _ _ _ i =>
  Run.tell (fun _ _ hq => wpAny_Constant_str (hq _)) ⟨i, _, rfl⟩
theorem Ev.bool {b : Bool} {k pos} : Ev c n fd (.Constant (.bool b) k pos) σ (.bool b) σ := fun _ _ _ s _ i =>
  Run.tell (fun _ _ hq => wpAny_Constant_bool (hq s.toks)) ⟨i, rfl⟩
theorem Ev.none {k pos} : Ev c n fd (.Constant .none k pos) σ .none σ := fun _ _ _ s _ i =>
  Run.tell (fun _ _ hq => wpAny_Constant_none (hq s.toks)) ⟨i, rfl⟩

theorem Ev.loc {x : Str} {pos} {v : AV} (hv : σ.vs.lookup x = some v) (hl : fd.scope.names.lookup x = some .local := by rfl) (hk : fd.scope.kind = .function := by rfl) (hd : (x == ("__debug__" : Str)) = false := by decide) :
    Ev c n fd (.Name x pos) σ v σ := fun env A ρ s _ i => by
  obtain ⟨m, hn, hm⟩ := i.fre.ns
  obtain ⟨v', h1, h2⟩ := hm x v hv
  exact Run.tell (fun _ _ hq => wpAny_Name (wpAny_loadName_local (by rw [i.fre.scope, hk]) ((i.fre.kindOf x).trans hl) hn h1 (hq s.toks)) hd) ⟨i, h2⟩

theorem In.cell {env : Env} {ρ : List Pl} {h : Heap} (i : In c fd σ env ρ h) {x : Str} {k : Nat} {v : Option AV} (hc : fd.cells.lookup x = some k) (ho : σ.os[k]? = some (.cell v)) :
    ∃ (p : Pl) (v' : Option Value), ρ[k]? = some p ∧ env.cells.lookup x = some p.a ∧ h.IsCell p.a v' ∧ VRo ρ v v' ∧ p.more = [] := by
  obtain ⟨p, h1, h2⟩ := i.fre.cells x k hc
  obtain ⟨p', h3, e, v', h4, h5⟩ := i.rel.objs.get ho
  rw [h1] at h3; cases h3
  exact ⟨p, v', h1, h2, h5, h4, e⟩

theorem Ev.cel {x : Str} {pos} {v : AV} {k : Nat} (hc : fd.cells.lookup x = some k) (ho : σ.os[k]? = some (.cell (some v))) (hl : fd.scope.names.lookup x = some .cell := by rfl) (hk : fd.scope.kind = .function := by rfl) (hd : (x == ("__debug__" : Str)) = false := by decide) :
    Ev c n fd (.Name x pos) σ v σ := fun env A ρ s _ i => by
  obtain ⟨p, v', h1, h2, h3, h4, _⟩ := i.cell hc ho
  cases v' with
  | none => exact h4.elim
  | some v' => exact Run.tell (fun _ _ hq => wpAny_Name (wpAny_loadName_cell (by rw [i.fre.scope, hk]) ((i.fre.kindOf x).trans hl) h2 h3 (hq s.toks)) hd) ⟨i, h4⟩
theorem Ev.free {x : Str} {pos} {v : AV} {k : Nat} (hc : fd.cells.lookup x = some k) (ho : σ.os[k]? = some (.cell (some v))) (hl : fd.scope.names.lookup x = some .free := by rfl) (hk : fd.scope.kind = .function := by rfl) (hd : (x == ("__debug__" : Str)) = false := by decide)
    (hn : (x == ("__classdict__" : Str)) = false := by decide) : Ev c n fd (.Name x pos) σ v σ := fun env A ρ s _ i => by
  obtain ⟨p, v', h1, h2, h3, h4, _⟩ := i.cell hc ho
  cases v' with
  | none => exact h4.elim
  | some v' => exact Run.tell (fun _ _ hq => wpAny_Name (wpAny_loadName_free (by rw [i.fre.scope, hk]) ((i.fre.kindOf x).trans hl) h2 h3 (hq s.toks) hn) hd) ⟨i, h4⟩

theorem In.globals {env : Env} {ρ : List Pl} {h : Heap} (i : In c fd σ env ρ h) : h.Ns env.globals c.mg := by rw [i.fre.glob]; exact c.g.keeps i.rel.keep
theorem In.builtins {env : Env} {ρ : List Pl} {h : Heap} (i : In c fd σ env ρ h) : h.Ns env.builtins c.mb := by rw [i.fre.blt]; exact c.b.keeps i.rel.keep

theorem Ev.glob {x : Str} {pos} {v : Value} {a : AV} (e : nsIn c.K mainGlobals x = some (some v)) (ha : ∀ ρ, VR ρ a v) (hl : fd.scope.names.lookup x = some .globalImplicit := by rfl) (hk : fd.scope.kind = .function := by rfl) (hd : (x == ("__debug__" : Str)) = false := by decide) :
    Ev c n fd (.Name x pos) σ a σ := fun env A ρ s _ i =>
  Run.tell (fun _ _ hq => Calls.Name_function_global (by rw [i.fre.scope, hk]) ((i.fre.kindOf x).trans hl) (Calls.loadGlobal_global i.globals (mg_of c.inK c.g e) (hq s.toks)) hd) ⟨i, ha ρ⟩
theorem Ev.blt {x : Str} {pos} {v : Value} (e : nsIn c.K mainGlobals x = some Option.none) (hv : bootBuiltins x = some v) (hl : fd.scope.names.lookup x = some .globalImplicit := by rfl) (hk : fd.scope.kind = .function := by rfl) (hd : (x == ("__debug__" : Str)) = false := by decide)
    (hx : x ≠ "__name__" := by decide) : Ev c n fd (.Name x pos) σ (.lit v) σ := fun env A ρ s _ i =>
  Run.tell (fun _ _ hq => Calls.Name_function_global (by rw [i.fre.scope, hk]) ((i.fre.kindOf x).trans hl) (Calls.loadGlobal_builtin i.globals (mg_none_of c.inK c.g e) i.builtins ((c.bs x hx).trans hv) (hq s.toks)) hd) ⟨i, rfl⟩

theorem Ev.bin {l r : Expr} {op : Operator} {pos} {a b v : AV} {os : List AO} (h1 : Ev c n fd l σ a σ₁) (h2 : Ev c n fd r σ₁ b σ₂) (h3 : Op2 c n (binaryOp op) a b σ₂.os v os) :
    Ev c n fd (.BinOp l op r pos) σ v ⟨σ₂.vs, os⟩ := fun env A ρ s rm i => by
  rw [eval_BinOp]
  refine Run.bind (h1 env A ρ s rm i) fun x hx tk ρ₁ q₁ p₁ => ?_
  refine Run.bind (Run.holding (h2 env A ρ₁ _ rm p₁.1)) fun y hy tk' ρ₂ q₂ p₂ => ?_
  exact Run.stand (Run.operate (p₂.1.op (h3 A ρ₂ _ x y rm p₂.1.rel.none (p₁.2.reach q₂) p₂.2)))

theorem Ev.cmp {l r : Expr} {op : CmpOp} {pos} {a b v : AV} {os : List AO} (h1 : Ev c n fd l σ a σ₁) (h2 : Ev c n fd r σ₁ b σ₂) (h3 : Op2 c n (compareOp op) a b σ₂.os v os) (hm : behindInMarks op r = false := by with_unfolding_all rfl) :
    Ev c n fd (.Compare l [op] [r] pos) σ v ⟨σ₂.vs, os⟩ := fun env A ρ s rm i => by
  rw [eval_Compare1, markedBehindIn_of_false hm]
  refine Run.bind (h1 env A ρ s rm i) fun x hx tk ρ₁ q₁ p₁ => ?_
  refine Run.bind (Run.holding (h2 env A ρ₁ _ rm p₁.1)) fun y hy tk' ρ₂ q₂ p₂ => ?_
  exact Run.stand (Run.operate (p₂.1.op (h3 A ρ₂ _ x y rm p₂.1.rel.none (p₁.2.reach q₂) p₂.2)))

theorem Tst.cmp {l r : Expr} {op : CmpOp} {pos} {a b : AV} {v : Bool} {os : List AO} (h1 : Ev c n fd l σ a σ₁) (h2 : Ev c n fd r σ₁ b σ₂) (h3 : Op2 c n (compareOp op) a b σ₂.os (.bool v) os) (hm : behindInMarks op r = false := by with_unfolding_all rfl) :
    Tst c n fd (.Compare l [op] [r] pos) σ v ⟨σ₂.vs, os⟩ := fun env A ρ s rm i => by
  rw [isTrue_Compare1, markedBehindIn_of_false hm]
  refine Run.bind (h1 env A ρ s rm i) fun x hx tk ρ₁ q₁ p₁ => ?_
  refine Run.bind (Run.holding (h2 env A ρ₁ _ rm p₁.1)) fun y hy tk' ρ₂ q₂ p₂ => ?_
  refine Run.stand (Run.bind (Run.operate (p₂.1.op (h3 A ρ₂ _ x y rm p₂.1.rel.none (p₁.2.reach q₂) p₂.2))) fun z hz tk₃ ρ₃ q₃ p₃ => ?_)
  obtain ⟨i₃, rfl⟩ := p₃
  exact Run.holding (Run.tell (fun _ _ hq => wpAny_truthy_bool (hq tk₃)) ⟨i₃, rfl⟩)

theorem Tst.val {e : Expr} {a : AV} {b : Bool} (h1 : Ev c n fd e σ a σ₁) (h2 : Tru c n a σ₁.os b) (he : ∀ env whole, isTrue e env whole = (do let v ← whole; standAt e.pos; holding [v] (truthy v)) := by intro _ _; rfl) :
    Tst c n fd e σ b σ₁ := fun env A ρ s rm i => by
  rw [he]
  refine Run.bind (h1 env A ρ s rm i) fun x hx tk ρ₁ q₁ p₁ => ?_
  exact Run.stand (Run.holding (p₁.1.tru (h2 A ρ₁ _ x rm p₁.1.rel.none p₁.2)))

theorem Tst.not {e : Expr} {pos} {b : Bool} (h : Tst c n fd e σ b σ₁) : Tst c n fd (.UnaryOp .Not e pos) σ (!b) σ₁ := fun env A ρ s rm i => by
  rw [arm_isTrue_UnaryOp]
  refine Run.bind (h env A ρ s rm i) fun x hx tk ρ₁ q₁ p₁ => ?_
  obtain ⟨i₁, rfl⟩ := p₁
  exact Run.pure ⟨i₁, rfl⟩

noncomputable def Tsts (c : Cx) (n : Nat) (fd : FD) (op : BoolOp) (es : List Expr) (σ : S) (b : Bool) (σ' : S) : Prop :=
  ∀ env A ρ s, Room A n → In c fd σ env ρ s.heap → Run c [env.locals] A ρ s (allTrue op es env) fun ρ' h' x => In c fd σ' env ρ' h' ∧ x = b
theorem Tst.bop {op : BoolOp} {es : List Expr} {pos} {b : Bool} (h : Tsts c n fd op es σ b σ₁) : Tst c n fd (.BoolOp op es pos) σ b σ₁ := fun env A ρ s rm i => by
  rw [arm_isTrue_BoolOp]; exact h env A ρ s rm i
theorem Tsts.nilAnd : Tsts c n fd .And [] σ true σ := fun _ _ _ _ _ i => Run.pure ⟨i, rfl⟩
theorem Tsts.nilOr : Tsts c n fd .Or [] σ false σ := fun _ _ _ _ _ i => Run.pure ⟨i, rfl⟩
theorem Tsts.and {e : Expr} {es : List Expr} {b b' : Bool} (h1 : Tst c n fd e σ b σ₁) (h2 : b = true → Tsts c n fd .And es σ₁ b' σ₂) (h3 : b = false → b' = false ∧ σ₂ = σ₁) : Tsts c n fd .And (e :: es) σ b' σ₂ := fun env A ρ s rm i => by
  show Run c _ A ρ s (do match BoolOp.And, ← isTrue e env (eval e env) with | .And, false => pure false | .Or, true => pure true | _, _ => allTrue .And es env) _
  refine Run.bind (h1 env A ρ s rm i) fun x hx tk ρ₁ q₁ p₁ => ?_
  obtain ⟨i₁, rfl⟩ := p₁
  cases x with
  | true => exact h2 rfl env A ρ₁ _ rm i₁
  | false => obtain ⟨rfl, rfl⟩ := h3 rfl; exact Run.pure ⟨i₁, rfl⟩
theorem Tsts.or {e : Expr} {es : List Expr} {b b' : Bool} (h1 : Tst c n fd e σ b σ₁) (h2 : b = false → Tsts c n fd .Or es σ₁ b' σ₂) (h3 : b = true → b' = true ∧ σ₂ = σ₁) : Tsts c n fd .Or (e :: es) σ b' σ₂ := fun env A ρ s rm i => by
  show Run c _ A ρ s (do match BoolOp.Or, ← isTrue e env (eval e env) with | .And, false => pure false | .Or, true => pure true | _, _ => allTrue .Or es env) _
  refine Run.bind (h1 env A ρ s rm i) fun x hx tk ρ₁ q₁ p₁ => ?_
  obtain ⟨i₁, rfl⟩ := p₁
  cases x with
  | false => exact h2 rfl env A ρ₁ _ rm i₁
  | true => obtain ⟨rfl, rfl⟩ := h3 rfl; exact Run.pure ⟨i₁, rfl⟩

theorem Ev.ifexp {t b o : Expr} {pos} {z : Bool} {v : AV} (h : Tst c n fd t σ z σ₁) (h1 : z = true → Ev c n fd b σ₁ v σ₂) (h2 : z = false → Ev c n fd o σ₁ v σ₂) : Ev c n fd (.IfExp t b o pos) σ v σ₂ := fun env A ρ s rm i => by
  rw [arm_eval_IfExp]
  refine Run.bind (h env A ρ s rm i) fun x hx tk ρ₁ q₁ p₁ => ?_
  obtain ⟨i₁, rfl⟩ := p₁
  cases x with
  | true => exact h1 rfl env A ρ₁ _ rm i₁
  | false => exact h2 rfl env A ρ₁ _ rm i₁

/-! ### statements -/

theorem Exs.nil : Exs c n fd [] σ .next σ := fun _ _ _ _ _ i => Run.pure ⟨i, rfl⟩
theorem Exs.cons {st : Stmt} {sts : List Stmt} {f : AF} (h1 : Ex c n fd st σ .next σ₁) (h2 : Exs c n fd sts σ₁ f σ₂) : Exs c n fd (st :: sts) σ f σ₂ := fun env A ρ s rm i => by
  rw [execs_cons]
  refine Run.bind (h1 env A ρ s rm i) fun x hx tk ρ₁ q₁ p₁ => ?_
  obtain ⟨i₁, rfl⟩ := p₁
  exact h2 env A ρ₁ _ rm i₁
theorem Exs.out {st : Stmt} {sts : List Stmt} {f : AF} (h1 : Ex c n fd st σ f σ₁) (hf : f ≠ .next) : Exs c n fd (st :: sts) σ f σ₁ := fun env A ρ s rm i => by
  rw [execs_cons]
  refine Run.bind (h1 env A ρ s rm i) fun x hx tk ρ₁ q₁ p₁ => ?_
  obtain ⟨i₁, r₁⟩ := p₁
  cases f with
  | next => exact absurd rfl hf
  | cont => cases r₁; exact Run.pure ⟨i₁, rfl⟩
  | brk => cases r₁; exact Run.pure ⟨i₁, rfl⟩
  | ret v => obtain ⟨y, rfl, hy⟩ := r₁; exact Run.pure ⟨i₁, y, rfl, hy⟩

theorem Ex.ife {t : Expr} {b o : List Stmt} {pos} {z : Bool} {f : AF} (h : Tst c n fd t σ z σ₁) (h1 : z = true → Exs c n fd b σ₁ f σ₂) (h2 : z = false → Exs c n fd o σ₁ f σ₂) : Ex c n fd (.If t b o pos) σ f σ₂ := fun env A ρ s rm i => by
  rw [exec_If]
  refine Run.stand (Run.bind (h env A ρ s rm i) fun x hx tk ρ₁ q₁ p₁ => ?_)
  obtain ⟨i₁, rfl⟩ := p₁
  cases x with
  | true => exact h1 rfl env A ρ₁ _ rm i₁
  | false => exact h2 rfl env A ρ₁ _ rm i₁
theorem Ex.ret {e : Expr} {pos} {v : AV} (h : Ev c n fd e σ v σ₁) : Ex c n fd (.Return (some e) pos) σ (.ret v) σ₁ := fun env A ρ s rm i => by
  rw [exec_Return_some]
  refine Run.stand (Run.bind (h env A ρ s rm i) fun x hx tk ρ₁ q₁ p₁ => Run.pure ⟨p₁.1, x, rfl, p₁.2⟩)
theorem Ex.brk {pos} : Ex c n fd (.Break pos) σ .brk σ := fun env A ρ s rm i => by
  rw [arm_exec_Break]; exact Run.stand (Run.pure ⟨i, rfl⟩)
theorem Ex.asrt {t : Expr} {m : Option Expr} {pos} (h : Tst c n fd t σ true σ₁) : Ex c n fd (.Assert t m pos) σ .next σ₁ := fun env A ρ s rm i => by
  rw [arm_exec_Assert]
  refine Run.stand (Run.bind (h env A ρ s rm i) fun x hx tk ρ₁ q₁ p₁ => ?_)
  obtain ⟨i₁, rfl⟩ := p₁
  exact Run.pure ⟨i₁, rfl⟩

/-- a name's new value -/
noncomputable def put (x : Str) (v : AV) (vs : List (Str × AV)) : List (Str × AV) := (x, v) :: vs.filter fun p => !(p.1 == x)
theorem lookup_put (x y : Str) (v : AV) (vs : List (Str × AV)) : (put x v vs).lookup y = if y = x then some v else vs.lookup y := by
  unfold put
  rw [List.lookup_cons]
  by_cases h : y = x
  · subst h; simp
  · have hb : (y == x) = false := beq_eq_false_iff_ne.mpr h
    rw [hb]; simp only [h, if_false]
    induction vs with
    | nil => rfl
    | cons p r ih =>
      obtain ⟨z, w⟩ := p
      by_cases hz : z = x
      · subst hz
        have : (!(z == z)) = false := by simp
        rw [List.filter_cons_of_neg (by simp), List.lookup_cons, hb]; exact ih
      · have hb' : (z == x) = false := beq_eq_false_iff_ne.mpr hz
        rw [List.filter_cons_of_pos (by simp [hb']), List.lookup_cons, List.lookup_cons]
        cases y == z <;> first | rfl | exact ih

/-- storing a name: where a name lies -/
inductive Sto (fd : FD) (x : Str) (v : AV) : S → S → Prop
  | loc {σ : S} (hl : fd.scope.names.lookup x = some .local) : Sto fd x v σ ⟨put x v σ.vs, σ.os⟩
  | cel {σ : S} {k : Nat} {u : Option AV} (hc : fd.cells.lookup x = some k) (ho : σ.os[k]? = some (.cell u)) (hl : fd.scope.names.lookup x = some .cell) : Sto fd x v σ ⟨σ.vs, σ.os.set k (.cell (some v))⟩

theorem Rel.setObj {X : List Addr} {os : List AO} {ρ : List Pl} {h h' : Heap} {k : Nat} {p : Pl} {o : AO} (r : Rel c X os ρ h) (hp : ρ[k]? = some p) (l : ∀ a, a ∉ p.a :: p.more → h'.get? a = h.get? a) (sz : h'.objs.size = h.objs.size) (y : OR c ρ o p h') :
    Rel c X (os.set k o) ρ h' := by
  have nf : ∀ a o, c.hb.get? a = some o → a ∉ p.a :: p.more := fun a o e hm => by
    have := r.fresh a (List.mem_append_right _ (foot_mem_of_get hp a hm))
    rw [this] at e; cases e
  refine ⟨?_, r.nodup, fun a o e => (l a (nf a o e)).trans (r.keep a o e), r.fresh, fun a ha => sz ▸ r.live a ha⟩
  exact r.objs.set (fun a o e => (l a (nf a o e)).trans (r.keep a o e)) hp (List.nodup_append.mp r.nodup).2.1 (fun a ha o e => (l a ha).trans e) y

theorem Sto.run {x : Str} {v : AV} {env : Env} {A : Around} {ρ : List Pl} {s : Shared} {w : Value} (hs : Sto fd x v σ σ₁) (i : In c fd σ env ρ s.heap) (hw : VR ρ v w) (hk : fd.scope.kind = .function) :
    Run c [env.locals] A ρ s (storeName env x w) fun ρ' h' _ => In c fd σ₁ env ρ' h' := by
  cases hs with
  | loc hl =>
    obtain ⟨m, hn, hm⟩ := i.fre.ns
    intro Q E hq
    refine wpAny_storeName_local ((i.fre.kindOf x).trans hl) hn (fun h' hn' hs' => hq () h' _ ρ ⟨⟨[], by simp, by simp [foot]⟩, fun a o e ha => ?_, Nat.le_of_eq hs'.1.symm⟩ ⟨?_, ?_⟩) (by rw [i.fre.scope, hk]; rfl)
    · exact (hs'.2 a (fun e => ha (by subst e; exact List.mem_cons_self))).trans e
    · have nL : ∀ a o, c.hb.get? a = some o → a ≠ env.locals := fun a o e he => by
        have := i.rel.fresh env.locals List.mem_cons_self
        rw [← he, e] at this; cases this
      refine ⟨i.rel.objs.loc (fun a o e => (hs'.2 a (nL a o e)).trans (i.rel.keep a o e)) fun a ha o e => (hs'.2 a fun he => i.notFoot (he ▸ ha)).trans e, i.rel.nodup, fun a o e => (hs'.2 a (nL a o e)).trans (i.rel.keep a o e), i.rel.fresh, fun a ha => hs'.1 ▸ i.rel.live a ha⟩
    · refine ⟨i.fre.scope, i.fre.glob, i.fre.blt, i.fre.cq, i.fre.cells, _, hn', fun y u e => ?_⟩
      rw [lookup_put] at e
      by_cases hy : y = x
      · rw [if_pos hy] at e ⊢; cases e; exact ⟨w, rfl, hw⟩
      · rw [if_neg hy] at e ⊢; exact hm y u e
  | cel hc ho hl =>
    obtain ⟨p, v', h1, h2, h3, h4, h5⟩ := i.cell hc ho
    intro Q E hq
    have hpf : p.a ∈ foot ρ := foot_mem_of_get h1 p.a List.mem_cons_self
    refine wpAny_storeName_cell (by rw [i.fre.scope, hk]) ((i.fre.kindOf x).trans hl) h2 h3 fun h' hc' hs' => hq () h' _ ρ ⟨⟨[], by simp, by simp [foot]⟩, fun a o e ha => ?_, Nat.le_of_eq hs'.1.symm⟩ ⟨?_, ?_⟩
    · exact (hs'.2 a fun e => ha (by subst e; exact List.mem_append_right _ hpf)).trans e
    · refine i.rel.setObj h1 (fun a ha => hs'.2 a fun e => ha (by subst e; exact List.mem_cons_self)) hs'.1 ⟨h5, some w, hw, hc'⟩
    · obtain ⟨m, hn, hm⟩ := i.fre.ns
      exact ⟨i.fre.scope, i.fre.glob, i.fre.blt, i.fre.cq, i.fre.cells, m, hn.sameBut hs' (fun e => i.notFoot (e ▸ hpf)), hm⟩

theorem Run.bindName {x : Str} {w : Value} {env : Env} {X : List Addr} {A : Around} {ρ : List Pl} {s : Shared} {P : List Pl → Heap → Unit → Prop} (h : Run c X A ρ s (storeName env x w) P) : Run c X A ρ s (bindName env x w) P :=
  fun Q E hq => wpAny_bindName (h Q E hq)

theorem Ex.assign {x : Str} {pos' pos} {e : Expr} {v : AV} (h : Ev c n fd e σ v σ₁) (hs : Sto fd x v σ₁ σ₂) (hw : ∀ env, env.scope = fd.scope → swapsWith e (some (.Name x pos')) pos.line env = pure false := by intro _ _; rfl) (hk : fd.scope.kind = .function := by rfl) :
    Ex c n fd (.Assign [.Name x pos'] e pos) σ .next σ₂ := fun env A ρ s rm i => by
  rw [exec_Assign_Name env x pos' e pos (hw env i.fre.scope)]
  refine Run.stand (Run.bind (h env A ρ s rm i) fun y hy tk ρ₁ q₁ p₁ => ?_)
  refine Run.stand (Run.bind (Run.bindName (hs.run p₁.1 p₁.2 hk)) fun _ _ _ ρ₂ q₂ p₂ => Run.pure ⟨p₂, rfl⟩)

theorem Ex.aug {x : Str} {pos' pos} {op : Operator} {e : Expr} {a b v : AV} {os : List AO} (h0 : Ev c n fd (.Name x pos') σ a σ) (h : Ev c n fd e σ b σ₁) (h3 : Op2 c n (inplaceOp op) a b σ₁.os v os) (hs : Sto fd x v ⟨σ₁.vs, os⟩ σ₂) (hd : (x == ("__debug__" : Str)) = false := by decide) (hk : fd.scope.kind = .function := by rfl) :
    Ex c n fd (.AugAssign (.Name x pos') op e pos) σ .next σ₂ := fun env A ρ s rm i => by
  have h0' := h0 env A ρ s rm i
  rw [exec_AugAssign_Name]
  rw [eval_Name env x pos' hd] at h0'
  have : Run c [env.locals] A ρ s ((do PySem.standAt pos'; loadName env x) >>= fun old => do
    let v ← PySem.holding [old] (eval e env)
    PySem.standAt pos
    let new ← PySem.operate [old, v] (inplaceOp op old v)
    PySem.standAt pos'
    bindName env x new
    pure .next) (fun ρ' h' x => In c fd σ₂ env ρ' h' ∧ FR ρ' .next x) := by
    refine Run.bind h0' fun y hy tk ρ₁ q₁ p₁ => ?_
    refine Run.bind (Run.holding (h env A ρ₁ _ rm p₁.1)) fun z hz tk' ρ₂ q₂ p₂ => ?_
    refine Run.stand (Run.bind (Run.operate (p₂.1.op (h3 A ρ₂ _ y z rm p₂.1.rel.none (p₁.2.reach q₂) p₂.2))) fun u hu tk₃ ρ₃ q₃ p₃ => ?_)
    exact Run.stand (Run.bind (Run.bindName (hs.run p₃.1 p₃.2 hk)) fun _ _ _ ρ₄ q₄ p₄ => Run.pure ⟨p₄, rfl⟩)
  exact this
end

end Mine
end

section
open PySem PySem.W PyProof.Rows
namespace Mine

section
variable {c : Cx} {n : Nat}

/-! ### numbers -/

/-- an operation upon values that lie in themselves -/
theorem Op2.pure {t : Value → Value → Sem Value} {a b v : AV} {os : List AO}
    (h : ∀ (A : Around) (s : Shared) (ρ : List Pl) (x y : Value) (Q : Value → Shared → Prop) (E : Value → Shared → Prop), Room A n → VR ρ a x → VR ρ b y → (∀ z tk, VR ρ v z → Q z { s with toks := tk }) → wpAny c.M A (t x y) Q E s) :
    Op2 c n t a b os v os := fun A ρ s x y rm r hx hy Q E hq => h A s ρ x y Q E rm hx hy fun z tk hz => hq z s.heap tk ρ (Reach.refl ..) ⟨r, hz⟩
theorem Op.pure {t : List Value → Sem Value} {as : List AV} {v : AV} {os : List AO}
    (h : ∀ (A : Around) (s : Shared) (ρ : List Pl) (xs : List Value) (Q : Value → Shared → Prop) (E : Value → Shared → Prop), Room A n → VRs ρ as xs → (∀ z tk, VR ρ v z → Q z { s with toks := tk }) → wpAny c.M A (t xs) Q E s) :
    Op c n t as os v os := fun A ρ s xs rm r hx Q E hq => h A s ρ xs Q E rm hx fun z tk hz => hq z s.heap tk ρ (Reach.refl ..) ⟨r, hz⟩

theorem add_i {a b : Int} {os : List AO} : Op2 c n (binaryOp .Add) (.int a) (.int b) os (.int (a + b)) os :=
  Op2.pure fun _ _ _ _ _ _ _ _ hx hy hq => by obtain ⟨t, rfl⟩ := hx; obtain ⟨u, rfl⟩ := hy; exact PyProof.Rows.add_int (hq _ _ ⟨_, rfl⟩)
theorem iadd_i {a b : Int} {os : List AO} : Op2 c n (inplaceOp .Add) (.int a) (.int b) os (.int (a + b)) os :=
  Op2.pure fun _ _ _ _ _ _ _ _ hx hy hq => by obtain ⟨t, rfl⟩ := hx; obtain ⟨u, rfl⟩ := hy; exact wpAny_iadd_int (hq _ _ ⟨_, rfl⟩)
theorem sub_i {a b : Int} {os : List AO} : Op2 c n (binaryOp .Sub) (.int a) (.int b) os (.int (a - b)) os :=
  Op2.pure fun _ _ _ _ _ _ _ _ hx hy hq => by obtain ⟨t, rfl⟩ := hx; obtain ⟨u, rfl⟩ := hy; exact PyProof.Rows.sub_int (hq _ _ ⟨_, rfl⟩)
theorem mod_i {a b : Int} {os : List AO} (hb : b ≠ 0) : Op2 c n (binaryOp .Mod) (.int a) (.int b) os (.int (a.fmod b)) os :=
  Op2.pure fun _ _ _ _ _ _ _ _ hx hy hq => by obtain ⟨t, rfl⟩ := hx; obtain ⟨u, rfl⟩ := hy; exact PyProof.Rows.mod_int hb (hq _ _ ⟨_, rfl⟩)
theorem mul_i {a b : Int} {os : List AO} (hm : IntMulOk a b) : Op2 c n (binaryOp .Mult) (.int a) (.int b) os (.int (a * b)) os :=
  Op2.pure fun _ _ _ _ _ _ _ _ hx hy hq => by obtain ⟨t, rfl⟩ := hx; obtain ⟨u, rfl⟩ := hy; exact PyProof.Rows.mul_int (hq _ _ ⟨_, rfl⟩) hm
theorem eq_i {a b : Int} {os : List AO} : Op2 c n (compareOp .Eq) (.int a) (.int b) os (.bool (a == b)) os :=
  Op2.pure fun _ s _ _ _ _ _ _ hx hy hq => by obtain ⟨t, rfl⟩ := hx; obtain ⟨u, rfl⟩ := hy; exact PyProof.Rows.eq_int (hq _ s.toks rfl)
theorem ne_i {a b : Int} {os : List AO} : Op2 c n (compareOp .NotEq) (.int a) (.int b) os (.bool (a != b)) os :=
  Op2.pure fun _ s _ _ _ _ _ _ hx hy hq => by obtain ⟨t, rfl⟩ := hx; obtain ⟨u, rfl⟩ := hy; exact PyProof.Rows.ne_int (hq _ s.toks rfl)
theorem lt_i {a b : Int} {os : List AO} : Op2 c n (compareOp .Lt) (.int a) (.int b) os (.bool (decide (a < b))) os :=
  Op2.pure fun _ s _ _ _ _ _ _ hx hy hq => by obtain ⟨t, rfl⟩ := hx; obtain ⟨u, rfl⟩ := hy; exact PyProof.Rows.lt_int (hq _ s.toks rfl)
theorem gt_i {a b : Int} {os : List AO} : Op2 c n (compareOp .Gt) (.int a) (.int b) os (.bool (decide (b < a))) os :=
  Op2.pure fun _ s _ _ _ _ _ _ hx hy hq => by obtain ⟨t, rfl⟩ := hx; obtain ⟨u, rfl⟩ := hy; exact PyProof.Rows.gt_int (hq _ s.toks rfl)
theorem ge_i {a b : Int} {os : List AO} : Op2 c n (compareOp .GtE) (.int a) (.int b) os (.bool (decide (b ≤ a))) os :=
  Op2.pure fun _ s _ _ _ _ _ _ hx hy hq => by obtain ⟨t, rfl⟩ := hx; obtain ⟨u, rfl⟩ := hy; exact PyProof.Rows.ge_int (hq _ s.toks rfl)
theorem eq_b {a b : Bool} {os : List AO} : Op2 c n (compareOp .Eq) (.bool a) (.bool b) os (.bool (a == b)) os :=
  Op2.pure fun _ s _ _ _ _ _ _ hx hy hq => by cases hx; cases hy; exact PyProof.Rows.eq_bool (hq _ s.toks rfl)

/-! ### texts -/
theorem add_s {x y : Str} {os : List AO} (hz : x.length + y.length ≤ sizeLine) : Op2 c n (binaryOp .Add) (.str x) (.str y) os (.str (x ++ y)) os :=
  Op2.pure fun _ _ _ _ _ _ _ _ hx hy hq => by obtain ⟨t, rfl⟩ := hx; obtain ⟨u, rfl⟩ := hy; exact SBL.add (fun t' k _ => hq _ k ⟨t', rfl⟩) hz
theorem iadd_s {x y : Str} {os : List AO} (hz : x.length + y.length ≤ sizeLine) : Op2 c n (inplaceOp .Add) (.str x) (.str y) os (.str (x ++ y)) os :=
  Op2.pure fun _ _ _ _ _ _ _ _ hx hy hq => by obtain ⟨t, rfl⟩ := hx; obtain ⟨u, rfl⟩ := hy; exact SBL.iadd (fun t' k _ => hq _ k ⟨t', rfl⟩) hz
theorem str_beq (x y : Str) : (x.cps.toList == y.cps.toList) = (x == y) := by
  rw [Bool.eq_iff_iff, beq_iff_eq, beq_iff_eq]
  constructor
  · intro h; exact Str.ext' (Array.toList_inj.mp h)
  · rintro rfl; rfl
theorem eq_s {x y : Str} {os : List AO} : Op2 c n (compareOp .Eq) (.str x) (.str y) os (.bool (x == y)) os :=
  Op2.pure fun _ s _ _ _ _ _ _ hx hy hq => by obtain ⟨t, rfl⟩ := hx; obtain ⟨u, rfl⟩ := hy; exact P.eq_str (hq _ s.toks (by rw [str_beq]; rfl))
theorem ne_s {x y : Str} {os : List AO} : Op2 c n (compareOp .NotEq) (.str x) (.str y) os (.bool (x != y)) os :=
  Op2.pure fun _ s _ _ _ _ _ _ hx hy hq => by obtain ⟨t, rfl⟩ := hx; obtain ⟨u, rfl⟩ := hy; exact P.ne_str (hq _ s.toks (by show Value.bool (!(_ == _)) = Value.bool (!(_ == _)); rw [str_beq]))
/-- y in x -/
noncomputable def inS (x y : Str) : Bool := !(Builtin.Str.occurrences x y 0 x.length 1).isEmpty
theorem in_s {x y : Str} {os : List AO} : Op2 c n (compareOp .In) (.str y) (.str x) os (.bool (inS x y)) os :=
  Op2.pure fun _ s _ _ _ _ _ _ hx hy hq => by obtain ⟨t, rfl⟩ := hx; obtain ⟨u, rfl⟩ := hy; exact P.in_str (hq _ s.toks rfl)
theorem notin_s {x y : Str} {os : List AO} : Op2 c n (compareOp .NotIn) (.str y) (.str x) os (.bool (!inS x y)) os :=
  Op2.pure fun _ s _ _ _ _ _ _ hx hy hq => by obtain ⟨t, rfl⟩ := hx; obtain ⟨u, rfl⟩ := hy; exact P.notIn_str (hq _ s.toks rfl)
theorem tru_s {x : Str} {os : List AO} (hz : x.length ≤ sizeLine) : Tru c n (.str x) os (x.length != 0) := fun A ρ s v rm r hv Q E hq => by
  obtain ⟨t, rfl⟩ := hv
  refine SBL.truthy (by rw [sizeLine_eq] at hz; omega) (hq _ s.heap _ ρ (Reach.refl ..) ⟨r, ?_⟩)
  show (!((x.length : Int) == 0)) = !(x.length == 0)
  congr 1
  rw [Bool.eq_iff_iff, beq_iff_eq, beq_iff_eq]; omega
theorem tru_b {b : Bool} {os : List AO} : Tru c n (.bool b) os b := fun A ρ s v rm r hv Q E hq => by
  cases hv; exact wpAny_truthy_bool (hq _ s.heap s.toks ρ (Reach.refl ..) ⟨r, rfl⟩)
theorem len_s {x : Str} {os : List AO} (hz : x.length ≤ sizeLine) : CallR c n (.builtin "len") [.str x] os (.int x.length) os :=
  Op.pure fun _ _ _ xs _ _ _ hx hq => by
    match xs, hx with
    | [_], ⟨⟨t, rfl⟩, _⟩ => exact SBL.len (by rw [sizeLine_eq] at hz; omega) (hq _ _ ⟨_, rfl⟩)
theorem count_s {x y : Str} {os : List AO} : CallR c n (.builtin "str.count") [.str x, .str y] os (.int (Txt.count x y)) os :=
  Op.pure fun _ _ _ xs _ _ _ hx hq => by
    match xs, hx with
    | [_, _], ⟨⟨t, rfl⟩, ⟨u, rfl⟩, _⟩ => exact SC.count (hq _ _ ⟨_, rfl⟩)

/-! ### objects: making one, turning one -/

theorem Rel.alloc {X : List Addr} {os : List AO} {ρ : List Pl} {h : Heap} {o : AO} {ob : Obj} (r : Rel c X os ρ h)
    (y : OR c (ρ ++ [⟨h.objs.size, []⟩]) o ⟨h.objs.size, []⟩ (h.push ob)) : Rel c X (os ++ [o]) (ρ ++ [⟨h.objs.size, []⟩]) (h.push ob) := by
  have k : ∀ b o, h.get? b = some o → (h.push ob).get? b = some o := fun b o e => Heap.get?_push_of_some _ e
  have kb : Keeps c.hb (h.push ob) := fun b o e => k b o (r.keep b o e)
  have ff : foot (ρ ++ [⟨h.objs.size, []⟩]) = foot ρ ++ [h.objs.size] := by rw [foot_append]; rfl
  have nb : c.hb.get? h.objs.size = Option.none := by
    cases e : c.hb.get? h.objs.size with
    | none => rfl
    | some o => exact absurd (Heap.lt_size (r.keep _ _ e)) (Nat.lt_irrefl _)
  refine ⟨((r.objs.mono [⟨h.objs.size, []⟩]).loc kb fun a _ o e => k a o e).append ⟨y, trivial⟩, ?_, kb, fun a ha => ?_, fun a ha => ?_⟩
  · rw [ff, ← List.append_assoc]
    refine List.nodup_append.mpr ⟨r.nodup, by simp, fun a ha b hb e => ?_⟩
    simp at hb; subst hb
    exact absurd (r.live a ha) (by rw [e]; exact Nat.lt_irrefl _)
  · rw [ff, ← List.append_assoc] at ha
    rcases List.mem_append.mp ha with ha | ha
    · exact r.fresh a ha
    · simp at ha; subst ha; exact nb
  · rw [ff, ← List.append_assoc] at ha
    rw [Heap.size_push]
    rcases List.mem_append.mp ha with ha | ha
    · exact Nat.lt_succ_of_lt (r.live a ha)
    · simp at ha; subst ha; exact Nat.lt_succ_self _
theorem Reach.alloc (ρ : List Pl) (h : Heap) (ob : Obj) : Reach [] ρ h (ρ ++ [⟨h.objs.size, []⟩]) (h.push ob) :=
  ⟨⟨[⟨h.objs.size, []⟩], rfl, fun a ha => by simp [foot] at ha; exact Nat.le_of_eq ha.symm⟩, fun a o e _ => Heap.get?_push_of_some _ e, by rw [Heap.size_push]; exact Nat.le_succ _⟩
/-- an object that is let lie -/
theorem Rel.waste {X : List Addr} {os : List AO} {ρ : List Pl} {h : Heap} (ob : Obj) (r : Rel c X os ρ h) : Rel c X os ρ (h.push ob) := by
  have k : ∀ b o, h.get? b = some o → (h.push ob).get? b = some o := fun b o e => Heap.get?_push_of_some _ e
  have kb : Keeps c.hb (h.push ob) := fun b o e => k b o (r.keep b o e)
  exact ⟨r.objs.loc kb fun a _ o e => k a o e, r.nodup, kb, r.fresh, fun a ha => by rw [Heap.size_push]; exact Nat.lt_succ_of_lt (r.live a ha)⟩
theorem Reach.waste (X : List Addr) (ρ : List Pl) (h : Heap) (ob : Obj) : Reach X ρ h ρ (h.push ob) :=
  ⟨⟨[], by simp, by simp [foot]⟩, fun a o e _ => Heap.get?_push_of_some _ e, by rw [Heap.size_push]; exact Nat.le_succ _⟩
/-- the heap grew by things of no one -/
theorem Rel.keeps {X : List Addr} {os : List AO} {ρ : List Pl} {h h' : Heap} (r : Rel c X os ρ h) (k : Keeps h h') (sz : h.objs.size ≤ h'.objs.size) : Rel c X os ρ h' :=
  ⟨r.objs.loc (fun b o e => k b o (r.keep b o e)) fun a _ o e => k a o e, r.nodup, fun b o e => k b o (r.keep b o e), r.fresh, fun a ha => Nat.lt_of_lt_of_le (r.live a ha) sz⟩
theorem Reach.keeps (X : List Addr) (ρ : List Pl) {h h' : Heap} (k : Keeps h h') (sz : h.objs.size ≤ h'.objs.size) : Reach X ρ h ρ h' :=
  ⟨⟨[], by simp, by simp [foot]⟩, fun a o e _ => k a o e, sz⟩

theorem Rel.newList {X : List Addr} {os : List AO} {ρ : List Pl} {h : Heap} {xs : List AV} {vs : List Value} {k : Nat} (r : Rel c X os ρ h) (hv : VRs ρ xs vs) :
    Rel c X (os ++ [.list xs]) (ρ ++ [⟨h.objs.size, []⟩]) (h.push { cls := .type "list", data := .seq vs.toArray k }) :=
  r.alloc ⟨rfl, vs, hv.mono _, k, Heap.get?_push_size _ rfl⟩
theorem Rel.newTup {X : List Addr} {os : List AO} {ρ : List Pl} {h : Heap} {xs : List AV} {vs : List Value} {k : Nat} (r : Rel c X os ρ h) (hv : VRs ρ xs vs) :
    Rel c X (os ++ [.tup xs]) (ρ ++ [⟨h.objs.size, []⟩]) (h.push { cls := .type "tuple", data := .seq vs.toArray k }) :=
  r.alloc ⟨rfl, vs, hv.mono _, k, Heap.get?_push_size _ rfl⟩
theorem VR.new {ρ : List Pl} {h : Heap} {os : List AO} {X : List Addr} (r : Rel c X os ρ h) : VR (ρ ++ [⟨h.objs.size, []⟩]) (.ref os.length) (.ref h.objs.size) :=
  ⟨⟨h.objs.size, []⟩, by rw [r.objs.length]; simp, rfl⟩

theorem Rel.list {X : List Addr} {os : List AO} {ρ : List Pl} {h : Heap} {i : Nat} {xs : List AV} {v : Value} (r : Rel c X os ρ h) (ho : os[i]? = some (.list xs)) (hv : VR ρ (.ref i) v) :
    ∃ p vs, ρ[i]? = some p ∧ p.more = [] ∧ v = .ref p.a ∧ VRs ρ xs vs ∧ LL h p.a vs.toArray := by
  obtain ⟨p, hp, rfl⟩ := hv
  obtain ⟨p', hp', e, vs, h1, h2⟩ := r.objs.get ho
  rw [hp] at hp'; cases hp'
  exact ⟨p, vs, hp, e, rfl, h1, h2⟩
theorem Rel.tup {X : List Addr} {os : List AO} {ρ : List Pl} {h : Heap} {i : Nat} {xs : List AV} {v : Value} (r : Rel c X os ρ h) (ho : os[i]? = some (.tup xs)) (hv : VR ρ (.ref i) v) :
    ∃ p vs, ρ[i]? = some p ∧ p.more = [] ∧ v = .ref p.a ∧ VRs ρ xs vs ∧ TT h p.a vs.toArray := by
  obtain ⟨p, hp, rfl⟩ := hv
  obtain ⟨p', hp', e, vs, h1, h2⟩ := r.objs.get ho
  rw [hp] at hp'; cases hp'
  exact ⟨p, vs, hp, e, rfl, h1, h2⟩

/-- a list turned -/
theorem Rel.setList {X : List Addr} {os : List AO} {ρ : List Pl} {h h' : Heap} {i : Nat} {p : Pl} {xs : List AV} {vs : List Value} (r : Rel c X os ρ h) (hp : ρ[i]? = some p) (hm : p.more = []) (hl : LL h' p.a vs.toArray) (hs : Heap.SameBut p.a h h') (hv : VRs ρ xs vs) :
    Rel c X (os.set i (.list xs)) ρ h' := r.setObj hp (fun a ha => hs.2 a fun e => ha (by subst e; exact List.mem_cons_self)) hs.1 ⟨hm, vs, hv, hl⟩
theorem Reach.set {ρ : List Pl} {h h' : Heap} {i : Nat} {p : Pl} (hp : ρ[i]? = some p) (hs : Heap.SameBut p.a h h') : Reach [] ρ h ρ h' :=
  ⟨⟨[], by simp, by simp [foot]⟩, fun a o e ha => (hs.2 a fun q => ha (by subst q; exact foot_mem_of_get hp _ List.mem_cons_self)).trans e, Nat.le_of_eq hs.1.symm⟩

theorem append_ll {A : Around} {E : Value → Shared → Prop} {s : Shared} {l : Addr} {its : Array Value} {x : Value} {Q : Value → Shared → Prop} (hl : LL s.heap l its) (hQ : ∀ h', LL h' l (its.push x) → Heap.SameBut l s.heap h' → Q .none { s with heap := h' }) (hsz : its.size ≤ sizeLine) :
    wpAny c.M A (call (.builtin "list.append") [.ref l, x]) Q E s := by
  obtain ⟨n, ho⟩ := id hl
  refine wpAny_call_entry slot_list_append hl.isList.typeIs entry_list_append ?_ (args_list_append _ _)
  show wpAny _ _ (updateSeq l (·.push x) >>= fun _ => ret .none) _ _ s
  refine wpAny_bind ?_
  exact wpAny_updateSeq ho rfl (wpAny_pure ⟨.none, rfl, hQ _ ⟨_, Heap.get?_update_self _ ho rfl⟩ (Heap.SameBut.update ..)⟩)

theorem append_l {os : List AO} {i : Nat} {xs : List AV} {v : AV} (ho : os[i]? = some (.list xs)) (hz : xs.length ≤ sizeLine) :
    CallR c n (.builtin "list.append") [.ref i, v] os .none (os.set i (.list (xs ++ [v]))) := fun A ρ s zs rm r hx Q E hq => by
  match zs, hx with
  | [a, b], ⟨ha, hb, _⟩ =>
    obtain ⟨p, vs, hp, hm, rfl, hvs, hl⟩ := r.list ho ha
    refine append_ll hl (fun h' hl' hs => hq _ h' s.toks ρ (Reach.set hp hs) ⟨r.setList hp hm ?_ hs (hvs.append (ws := [b]) ⟨hb, trivial⟩), rfl⟩) (by rw [List.size_toArray, ← hvs.length]; exact hz)
    simpa using hl'
end
end Mine
end

section
open PySem PySem.W PyProof.Rows
set_option linter.unusedVariables false
namespace Mine

section
variable {c : Cx} {n : Nat} {fd : FD} {σ σ₁ σ₂ σ₃ : S} {X : List Addr} {A : Around} {ρ : List Pl} {s : Shared}

theorem Run.wp {α : Type} {t : Sem α} {P : List Pl → Heap → α → Prop}
    (h : ∀ Q E, (∀ x h' tk' ρ', (s.heap.objs.size ≤ h'.objs.size → Reach X ρ s.heap ρ' h' ∧ P ρ' h' x) → Q x { s with heap := h', toks := tk' }) → wpAny c.M A t Q E s) : Run c X A ρ s t P :=
  fun Q E hq => wpAny_size (h _ _ fun x h' tk' ρ' k sz => hq x h' tk' ρ' (k sz).1 (k sz).2)

/-! ### arguments -/
theorem Evs.nil : Evs c n fd [] σ [] σ := fun _ _ _ _ _ _ i => Run.pure ⟨i, trivial⟩
theorem Evs.cons {e : Expr} {es : List Expr} {v : AV} {vs : List AV} (h1 : Ev c n fd e σ v σ₁) (h2 : Evs c n fd es σ₁ vs σ₂)
    (he : ∀ env, starEach (e :: es) env = (false, eval e env) :: starEach es env := by intro _; rfl) : Evs c n fd (e :: es) σ (v :: vs) σ₂ := fun pos env A ρ s rm i => by
  rw [he]
  show Run c _ A ρ s (do
    let v ← eval e env
    let here ← (Pure.pure [v] : Sem (List Value))
    return here ++ (← PySem.holding here (spliced (backTo pos (starEach es env))))) _
  refine Run.bind (h1 env A ρ s rm i) fun x hx tk ρ₁ q₁ p₁ => ?_
  refine Run.bind (P := fun ρ' h' l => l = [x] ∧ In c fd σ₁ env ρ' h' ∧ VR ρ' v x) (Run.pure ⟨rfl, p₁⟩) fun l hl tk₂ ρ₂ q₂ p₂ => ?_
  obtain ⟨rfl, i₂, hv⟩ := p₂
  refine Run.bind (Run.holding (h2 pos env A ρ₂ _ rm i₂)) fun xs hxs tk₃ ρ₃ q₃ p₃ => Run.pure ⟨p₃.1, hv.reach q₃, p₃.2⟩

theorem Run.evalArgs0 {f : Value} {P : List Pl → Heap → List Value → Prop} (h : Run c X A ρ s (spliced []) P) :
    Run c X A ρ s (PySem.evalArgs f true [] []) fun ρ' h' a => ∃ vs, a = ⟨vs, []⟩ ∧ P ρ' h' vs := fun Q E hq => by
  unfold PySem.evalArgs
  show wpAny c.M A (spliced [] >>= _) Q E s
  refine wpAny_bind (h _ _ fun vs h' tk' ρ' r p => ?_)
  refine wpAny_bind (wpAny_pure ?_)
  refine wpAny_holding ?_
  exact wpAny_bind (wpAny_pure (wpAny_bind (wpAny_pure (wpAny_pure (hq _ h' tk' ρ' r ⟨vs, rfl, p⟩)))))
theorem Run.evalArgs1 {f : Value} {x : Sem Value} {rest : List (Bool × Sem Value)} {P : List Pl → Heap → List Value → Prop} (h : Run c X A ρ s (spliced ((false, x) :: rest)) P) :
    Run c X A ρ s (PySem.evalArgs f true ((false, x) :: rest) []) fun ρ' h' a => ∃ vs, a = ⟨vs, []⟩ ∧ P ρ' h' vs :=
  fun Q E hq => Calls.evalArgs_plain (h _ E fun vs h' tk' ρ' r p => hq _ h' tk' ρ' r ⟨vs, rfl, p⟩)

/-- the arguments of a call: none, or the first one plain -/
inductive Plain1 : List Expr → Prop
  | nil : Plain1 []
  | cons {e : Expr} {es : List Expr} (h : ∀ env, starEach (e :: es) env = (false, eval e env) :: starEach es env) : Plain1 (e :: es)

theorem Evs.args {es : List Expr} {vs : List AV} {f : Value} {pos : Pos} {env : Env} (h : Evs c n fd es σ vs σ₁) (hp : Plain1 es) (rm : Room A n) (i : In c fd σ env ρ s.heap) :
    Run c [env.locals] A ρ s (PySem.evalArgs f true (backTo pos (starEach es env)) []) fun ρ' h' a => ∃ xs, a = ⟨xs, []⟩ ∧ In c fd σ₁ env ρ' h' ∧ VRs ρ' vs xs := by
  have h' := h pos env A ρ s rm i
  cases hp with
  | nil => exact Run.evalArgs0 h'
  | cons he =>
    rw [he] at h' ⊢
    exact Run.evalArgs1 h'

/-- what is called -/
inductive Callee (c : Cx) : Value → Prop
  | bi (id : String) : Callee c (.builtin id)
  | ty (T : String) : Callee c (.type T)
  | fn {a : Addr} {o : Obj} {d : FuncData} (h : c.hb.get? a = some o) (e : o.data = .func d) : Callee c (.ref a)
  | kp {f : Value} (h : keepIn c.K f = true) : Callee c f

theorem Run.callWith {pos : Pos} {f : Value} {first : List Value} {args : List (Bool × Sem Value)} {P : List Pl → Heap → List Value → Prop} {P' : List Pl → Heap → Value → Prop} (hc : Callee c f) (hs : args.any (·.1) = true → ∃ a o d, f = .ref a ∧ c.hb.get? a = some o ∧ o.data = .func d)
    (h : Run c X A ρ s (PySem.evalArgs f true args []) fun ρ' h' a => ∃ vs, a = ⟨vs, []⟩ ∧ P ρ' h' vs) (hk : ∀ ρ' h' vs, P ρ' h' vs → Keeps c.hb h')
    (k : ∀ vs h₁ tk ρ₁, Reach X ρ s.heap ρ₁ h₁ → P ρ₁ h₁ vs → Run c X A ρ₁ { s with heap := h₁, toks := tk } (call f (first ++ vs)) P') : Run c X A ρ s (PySem.callWith pos f first args []) P' := by
  have body : ∀ (Q : Value → Shared → Prop) (E : Value → Shared → Prop), (∀ x h' tk' ρ', Reach X ρ s.heap ρ' h' → P' ρ' h' x → Q x { s with heap := h', toks := tk' }) →
      ∀ vs h₁ tk ρ₁, Reach X ρ s.heap ρ₁ h₁ → P ρ₁ h₁ vs → wpAny c.M A (call f (first ++ vs)) Q E { s with heap := h₁, toks := tk } :=
    fun Q E hq vs h₁ tk ρ₁ r p => k vs h₁ tk ρ₁ r p Q E fun y h₂ tk₂ ρ₂ r₂ p₂ => hq y h₂ tk₂ ρ₂ (r.trans r₂) p₂
  intro Q E hq
  cases hc with
  | bi id =>
    have hp : args.any (·.1) = false := by cases e : args.any (·.1) <;> first | rfl | (obtain ⟨a, o, d, h, _⟩ := hs e; cases h)
    exact Calls.callWith_builtin hp (h _ E fun a h₁ tk ρ₁ r p => by obtain ⟨vs, rfl, p⟩ := p; exact body Q E hq vs h₁ tk ρ₁ r p)
  | ty T =>
    have hp : args.any (·.1) = false := by cases e : args.any (·.1) <;> first | rfl | (obtain ⟨a, o, d, h, _⟩ := hs e; cases h)
    exact PySem.callWith_type hp (h _ E fun a h₁ tk ρ₁ r p => by obtain ⟨vs, rfl, p⟩ := p; exact body Q E hq vs h₁ tk ρ₁ r p)
  | fn ho hd =>
    exact Calls.callWith_function (h _ E fun a h₁ tk ρ₁ r p => by obtain ⟨vs, rfl, p⟩ := p; exact ⟨⟨hk _ _ _ p _ _ ho, hd⟩, body Q E hq vs h₁ tk ρ₁ r p⟩)
  | kp hf =>
    cases e : args.any (·.1) with
    | false => exact callWith_of (P := fun h => c.K.In h) (by rw [e]; rfl) (fun h X => keeps_K hf h X) (h _ E fun a h₁ tk ρ₁ r p => by obtain ⟨vs, rfl, p⟩ := p; exact ⟨c.inK.keeps (hk _ _ _ p), body Q E hq vs h₁ tk ρ₁ r p⟩)
    | true =>
      obtain ⟨a, o, d, rfl, ho, hd⟩ := hs e
      exact Calls.callWith_function (h _ E fun a h₁ tk ρ₁ r p => by obtain ⟨vs, rfl, p⟩ := p; exact ⟨⟨hk _ _ _ p _ _ ho, hd⟩, body Q E hq vs h₁ tk ρ₁ r p⟩)

theorem starAny {es : List Expr} {pos : Pos} {env : Env} (h : ∀ env, (starEach es env).any (·.1) = false) : (backTo pos (starEach es env)).any (·.1) = false := by
  have := h env
  unfold backTo
  rw [List.any_map]
  exact this

/-- f(..): a name that is called -/
theorem Ev.call {x : Str} {p pos : Pos} {es : List Expr} {f : Value} {vs : List AV} {v : AV} {os : List AO} (h0 : Ev c n fd (.Name x p) σ (.lit f) σ₁) (h1 : Evs c n fd es σ₁ vs σ₂) (hc : Callee c f) (h2 : CallR c n f vs σ₂.os v os)
    (hp : Plain1 es) (hs : (∀ env, (starEach es env).any (·.1) = false) ∨ ∃ a o d, f = .ref a ∧ c.hb.get? a = some o ∧ o.data = .func d) : Ev c n fd (.Call (.Name x p) es [] pos) σ v ⟨σ₂.vs, os⟩ := fun env A ρ s rm i => by
  rw [arm_eval_Call_Name']
  refine Run.bind (h0 env A ρ s rm i) fun g hg tk ρ₁ q₁ p₁ => ?_
  obtain ⟨i₁, rfl⟩ := p₁
  refine Run.callWith (P := fun ρ' h' xs => In c fd σ₂ env ρ' h' ∧ VRs ρ' vs xs) hc (fun e => ?_) (h1.args hp rm i₁) (fun _ _ _ p => p.1.rel.keep) fun xs h₁ tk₂ ρ₂ q₂ p₂ => p₂.1.op (h2 A ρ₂ _ xs rm p₂.1.rel.none p₂.2)
  rcases hs with hs | hs
  · rw [starAny hs] at e; cases e
  · exact hs

/-- how a method is found: the function, the object ahead of the arguments -/
noncomputable def Mth (c : Cx) (n : Nat) (a : AV) (name : Str) (os : List AO) (f : Value) : Prop :=
  ∀ A ρ s x pl, Room A n → Rel c [] os ρ s.heap → VR ρ a x → Run c [] A ρ s (getMethod x name pl) fun ρ' h' r => Rel c [] os ρ' h' ∧ r = (f, [x])

theorem In.mth {env : Env} {t : Sem (Value × List Value)} {r : Value × List Value} (x : In c fd σ env ρ s.heap)
    (h : Run c [] A ρ s t fun ρ' h' y => Rel c [] σ.os ρ' h' ∧ y = r) : Run c [env.locals] A ρ s t fun ρ' h' y => In c fd σ env ρ' h' ∧ y = r :=
  fun Q E hq => h Q E fun y h' tk' ρ' r p => hq y h' tk' ρ' (r.more (by simp)) ⟨x.lift r p.1, p.2⟩

/-- o.name(..) -/
theorem Ev.meth {o : Expr} {name : Str} {apos pos : Pos} {es : List Expr} {f : Value} {a : AV} {vs : List AV} {v : AV} {os : List AO} (h0 : Ev c n fd o σ a σ₁) (hm : Mth c n a name σ₁.os f) (h1 : Evs c n fd es σ₁ vs σ₂) (hc : Callee c f) (h2 : CallR c n f (a :: vs) σ₂.os v os)
    (hp : Plain1 es) (hs : ∀ env, (starEach es env).any (·.1) = false) (hline : (apos.endLine == pos.line) = true) (hfew : es.length < 30)
    (hbase : ∀ env, attributeBase o name env (eval o env) = eval o env) : Ev c n fd (.Call (.Attribute o name apos) es [] pos) σ v ⟨σ₂.vs, os⟩ := fun env A ρ s rm i => by
  rw [arm_eval_Call, hbase]
  refine Run.bind (h0 env A ρ s rm i) fun x hx tk ρ₁ q₁ p₁ => ?_
  refine Run.stand ?_
  have hform : methodCallForm (es.length + ([] : List Keyword).length) (backTo pos (starEach es env)) (backToKw pos (keywordEach [] env)) = true := by
    unfold methodCallForm
    have h1 : (backTo pos (starEach es env)).all (fun x => !x.1) = true := by
      have := starAny (pos := pos) (env := env) hs
      rw [List.all_eq_true]; intro y hy
      have := List.any_eq_false.mp this y hy
      simpa using this
    rw [h1]
    show (true && true && decide (es.length + 0 + (if ([] : List (Option Str × Sem Value)).isEmpty then 0 else 1) < 30)) = true
    simpa using hfew
  have hpos : methodCallPos true o env apos pos = Pure.pure pos := by unfold methodCallPos; simp [hline]
  unfold methodCall
  rw [hform]
  refine Run.bind (Run.holding (p₁.1.mth (hm A ρ₁ _ x _ rm p₁.1.rel.none p₁.2))) fun r hr tk₂ ρ₂ q₂ p₂ => ?_
  obtain ⟨i₂, rfl⟩ := p₂
  refine Run.bind (P := fun ρ' h' q => q = pos ∧ In c fd σ₁ env ρ' h' ∧ VR ρ' a x) (Run.of_eq hpos (Run.pure ⟨rfl, i₂, p₁.2.reach q₂⟩)) fun q hq tk₃ ρ₃ q₃ p₃ => ?_
  obtain ⟨rfl, i₃, ha⟩ := p₃
  refine Run.callWith (P := fun ρ' h' xs => (In c fd σ₂ env ρ' h' ∧ VRs ρ' vs xs) ∧ VR ρ' a x) hc (fun e => ?_) ?_ (fun _ _ _ p => p.1.1.rel.keep) fun xs h₁ tk₂ ρ₂ q₂ p₂ => p₂.1.1.op (h2 A ρ₂ _ (x :: xs) rm p₂.1.1.rel.none ⟨p₂.2, p₂.1.2⟩)
  · rw [starAny hs] at e; cases e
  · exact (h1.args hp rm i₃).mono fun a' h' ρ' q' ⟨xs, e, p⟩ => ⟨xs, e, p, ha.reach q'⟩
end
end Mine
end

section
open PySem PySem.W PyProof.Rows
set_option linter.unusedVariables false
namespace Mine

section
variable {c : Cx} {n : Nat} {fd : FD} {σ σ₁ σ₂ σ₃ : S} {X : List Addr} {A : Around} {ρ : List Pl} {s : Shared}

/-! ### leaving objects behind -/

/-- the first k objects alone -/
theorem ORs.take {ρ' : List Pl} {h : Heap} (k : Nat) : ∀ {os : List AO} {ps : List Pl}, ORs c ρ' os ps h → ORs c ρ' (os.take k) (ps.take k) h := by
  induction k with
  | zero => intro os ps _; simp; exact trivial
  | succ k ih =>
    intro os ps x
    cases os <;> cases ps <;> first | exact x.elim | exact trivial | exact ⟨x.1, ih x.2⟩

theorem Rel.cut {os os₁ : List AO} {ρ ρ₁ : List Pl} {h : Heap} (r : Rel c X (os ++ os₁) (ρ ++ ρ₁) h) (hl : os.length = ρ.length) (hr : ∀ o ∈ os, ∀ i ∈ o.refs, i < ρ.length) : Rel c X os ρ h := by
  have ho := r.objs.take os.length
  rw [List.take_left, hl, List.take_left] at ho
  have hf := foot_append ρ ρ₁
  refine ⟨ho.ext fun o hm i hi p hp => ?_, ?_, r.keep, fun a ha => r.fresh a ?_, fun a ha => r.live a ?_⟩
  · rw [List.getElem?_append_left (hr o hm i hi)] at hp; exact hp
  · have := r.nodup
    rw [hf, ← List.append_assoc] at this
    exact (List.nodup_append.mp this).1
  · rw [hf, ← List.append_assoc]; exact List.mem_append_left _ ha
  · rw [hf, ← List.append_assoc]; exact List.mem_append_left _ ha

theorem foot_pick {ρ : List Pl} {j : Nat} {p : Pl} (h : ρ[j]? = some p) : (p.a :: p.more).Sublist (foot ρ) := by
  induction ρ generalizing j with
  | nil => simp at h
  | cons q r ih =>
    cases j with
    | zero => simp at h; subst h; exact List.sublist_append_left _ _
    | succ j => simp at h; exact (ih h).trans (List.sublist_append_right _ _)

/-- the first objects, and one of those behind them -/
theorem Rel.pick {os os₁ : List AO} {ρ ρ₁ : List Pl} {h : Heap} {j : Nat} {o : AO} (r : Rel c X (os ++ os₁) (ρ ++ ρ₁) h) (hl : os.length = ρ.length) (hr : ∀ o ∈ os, ∀ i ∈ o.refs, i < ρ.length) (ho : os₁[j]? = some o) (hro : ∀ i ∈ o.refs, i < ρ.length) :
    ∃ p, ρ₁[j]? = some p ∧ Rel c X (os ++ [o]) (ρ ++ [p]) h := by
  have hj : (os ++ os₁)[os.length + j]? = some o := by rw [List.getElem?_append_right (Nat.le_add_right _ _)]; simpa using ho
  obtain ⟨p, hp, hor⟩ := r.objs.get hj
  have hp' : ρ₁[j]? = some p := by
    rw [hl, List.getElem?_append_right (Nat.le_add_right _ _)] at hp; simpa using hp
  have r0 := r.cut hl hr
  have sub : (p.a :: p.more).Sublist (foot ρ₁) := foot_pick hp'
  have ff : foot (ρ ++ [p]) = foot ρ ++ (p.a :: p.more) := by rw [foot_append]; simp [foot]
  have sub' : (X ++ foot (ρ ++ [p])).Sublist (X ++ foot (ρ ++ ρ₁)) := by
    rw [ff, foot_append]
    exact List.Sublist.append (List.Sublist.refl _) (List.Sublist.append (List.Sublist.refl _) sub)
  refine ⟨p, hp', ?_, sub'.nodup r.nodup, r.keep, fun a ha => r.fresh a (sub'.subset ha), fun a ha => r.live a (sub'.subset ha)⟩
  refine (r0.objs.mono [p]).append ⟨hor.ext fun i hi q hq => ?_, trivial⟩
  rw [List.getElem?_append_left (hro i hi)] at hq
  exact getElem?_mono hq

/-! ### a def that is called -/

/-- names and values, pair by pair -/
noncomputable def KV (ρ : List Pl) : List (Str × AV) → List (Str × Value) → Prop
  | [], [] => True
  | x :: xs, v :: vs => x.1 = v.1 ∧ VR ρ x.2 v.2 ∧ KV ρ xs vs
  | _, _ => False
theorem KV.append : ∀ {xs : List (Str × AV)} {vs : List (Str × Value)} {ys : List (Str × AV)} {ws : List (Str × Value)}, KV ρ xs vs → KV ρ ys ws → KV ρ (xs ++ ys) (vs ++ ws)
  | [], [], _, _, _, h => h
  | _ :: _, _ :: _, _, _, h, h' => ⟨h.1, h.2.1, KV.append h.2.2 h'⟩
theorem KV.reverse : ∀ {xs : List (Str × AV)} {vs : List (Str × Value)}, KV ρ xs vs → KV ρ xs.reverse vs.reverse
  | [], [], _ => trivial
  | _ :: _, _ :: _, h => by
    rw [List.reverse_cons, List.reverse_cons]
    exact KV.append (KV.reverse h.2.2) ⟨h.1, h.2.1, trivial⟩
theorem KV.lookup {y : Str} {v : AV} : ∀ {xs : List (Str × AV)} {vs : List (Str × Value)}, KV ρ xs vs → xs.lookup y = some v → ∃ v', vs.lookup y = some v' ∧ VR ρ v v'
  | (a, b) :: xs, (a', b') :: vs, h, e => by
    obtain ⟨h1, h2, h3⟩ := h
    dsimp only at h1 h2; subst h1
    rw [List.lookup_cons] at e ⊢
    cases hy : y == a with
    | true => rw [hy] at e; cases e; exact ⟨b', rfl, h2⟩
    | false => rw [hy] at e; exact KV.lookup h3 e
theorem KV.zip : ∀ {ps : List Str} {xs : List AV} {vs : List Value}, VRs ρ xs vs → KV ρ (ps.zip xs) (ps.zip vs)
  | [], _, _, _ => trivial
  | _ :: _, [], [], _ => trivial
  | _ :: _, _ :: _, _ :: _, h => ⟨rfl, h.1, KV.zip h.2⟩

theorem Room.deeper {A : Around} {n : Nat} {env : Env} (r : Room A (n + 1)) : Room (A.deeper env) n :=
  ⟨r.handled, by have := r.depth; show A.depth + 1 + n < _; omega, by have := r.units; show A.units + 3 + 20 * n + 100 < _; omega⟩
theorem Room.lt {A : Around} {n : Nat} (r : Room A n) : A.depth < recursionLimit := by have := r.depth; omega

/-- what a def's body leaves of the objects -/
inductive Back (os : List AO) : AV → List AO → AV → List AO → Prop
  /-- a value that lies in itself; of the objects the elder ones are left -/
  | val {v : AV} {os' os₁ : List AO} (h : os'.length = os.length) (hr : ∀ o ∈ os', ∀ i ∈ o.refs, i < os.length) (hv : v.refs = []) : Back os v (os' ++ os₁) v os'
  /-- an object that the body made -/
  | obj {os' os₁ : List AO} {j : Nat} {o : AO} (h : os'.length = os.length) (hr : ∀ o ∈ os', ∀ i ∈ o.refs, i < os.length) (ho : os₁[j]? = some o) (hro : ∀ i ∈ o.refs, i < os.length) : Back os (.ref (os.length + j)) (os' ++ os₁) (.ref os.length) (os' ++ [o])
  /-- all of them -/
  | all {v : AV} {os₁ : List AO} : Back os v os₁ v os₁

theorem Back.run {os os₁ os₂ : List AO} {v v' : AV} {ρ₁ : List Pl} {h h₁ : Heap} {x : Value} (b : Back os v os₁ v' os₂) (hl : os.length = ρ.length) (r : Rel c X os₁ (ρ ++ ρ₁) h₁) (hv : VR (ρ ++ ρ₁) v x) (hf : ∀ a ∈ foot ρ₁, h.objs.size ≤ a) :
    ∃ new, Rel c X os₂ (ρ ++ new) h₁ ∧ VR (ρ ++ new) v' x ∧ ∀ a ∈ foot new, h.objs.size ≤ a := by
  cases b with
  | all => exact ⟨ρ₁, r, hv, hf⟩
  | val hl' hr hv' =>
    rw [hl] at hl' hr
    refine ⟨[], by simpa using r.cut hl' hr, ?_, by simp [foot]⟩
    cases v <;> first | exact hv | cases hv'
  | obj hl' hr ho hro =>
    rw [hl] at hl' hr hro
    obtain ⟨p, hp, r'⟩ := r.pick hl' hr ho hro
    refine ⟨[p], r', ?_, fun a ha => hf a (foot_mem_of_get hp a (by simpa [foot] using ha))⟩
    obtain ⟨q, hq, rfl⟩ := hv
    rw [hl, List.getElem?_append_right (Nat.le_add_right _ _)] at hq
    rw [Nat.add_sub_cancel_left, hp] at hq
    cases hq
    exact ⟨p, by rw [hl]; simp, rfl⟩

structure DefAt (c : Cx) (a : Addr) (d : FuncData) (body : List Stmt) : Prop where
  there : ∃ o, c.hb.get? a = some o ∧ o.data = .func d
  code : c.hb.CodeRec d.code d.qualname
  body : d.body = .stmts body
  glob : d.globals = mainGlobals
  blt : d.builtins = builtinsNs
  co : d.scope.isCoroutine = false
  gen : d.scope.isGenerator = false
  kind : d.scope.kind = .function
theorem CallR.of_def {a : Addr} {d : FuncData} {body : List Stmt} {ps : List Str} {args : List AV} {os os' : List AO} {v v' : AV} (D : DefAt c a d body)
    (hcell : ∀ x ∈ d.scope.names, x.2 ≠ .cell) (hbind : ∀ xs : List Value, xs.length = args.length → bindArgs d ⟨xs, []⟩ = Pure.pure (ps.zip xs)) (hloc : ∀ x ∈ ps, d.scope.names.lookup x = some .local)
    (h : Exs c n ⟨d.scope, [], Option.none⟩ body ⟨(ps.zip args).reverse, os⟩ (.ret v) σ') (hb : Back os v σ'.os v' os') : CallR c (n + 1) (.ref a) args os v' os' := fun A ρ s xs rm r hx => by
  obtain ⟨o, ho, hd⟩ := D.there
  refine Run.wp fun Q E hq => wpAny_call ?_
  have hlen := hx.length
  refine codeAny_call_def (binds := ps.zip xs) rm.lt (r.keep _ _ ho) hd (c.nolimit.keeps r.keep) (D.code.keeps r.keep) D.body (BindsTo.of_eq (hbind xs hlen.symm)) hcell (fun x hx' => hloc x.1 (List.of_mem_zip (a := x.1) (b := x.2) hx').1) (fun h₀ hns hk => ?_) D.co D.gen D.kind
  have hL : ∀ a o, s.heap.get? a = some o → a ≠ s.heap.objs.size := fun a o e he => by rw [he] at e; exact absurd (Heap.lt_size e) (Nat.lt_irrefl _)
  have fresh : c.hb.get? s.heap.objs.size = Option.none := by
    cases e : c.hb.get? s.heap.objs.size with
    | none => rfl
    | some o => exact absurd rfl (hL _ _ (r.keep _ _ e))
  have r0 : Rel c [s.heap.objs.size] os ρ h₀ := by
    refine ⟨r.objs.loc (fun b o e => hk b o (r.keep b o e)) fun a _ o e => hk a o e, ?_, fun b o e => hk b o (r.keep b o e), fun a ha => ?_, fun a ha => ?_⟩
    · refine List.nodup_cons.mpr ⟨fun hm => ?_, by simpa using r.nodup⟩
      exact absurd (r.live _ (by simpa using hm)) (Nat.lt_irrefl _)
    · rcases List.mem_cons.mp ha with rfl | ha
      · exact fresh
      · exact r.fresh a (by simpa using ha)
    · rcases List.mem_cons.mp ha with rfl | ha
      · exact hns.lt
      · have := r.live a (by simpa using ha)
        exact Nat.lt_trans this hns.lt
  have i0 : In c ⟨d.scope, [], Option.none⟩ ⟨(ps.zip args).reverse, os⟩ (callEnv d s.heap.objs.size a) ρ h₀ :=
    ⟨r0, rfl, D.glob, D.blt, (fun _ e => by cases e), fun x i e => (by cases e), _, hns, fun x u e => KV.lookup (KV.reverse (KV.zip hx)) e⟩
  refine (h (callEnv d s.heap.objs.size a) _ ρ { s with heap := h₀, toks := s.toks + (ps.zip xs).length } rm.deeper i0) _ _ fun f h₁ tk₁ ρ₁ q₁ p₁ => ?_
  obtain ⟨i₁, y, rfl, hy⟩ := p₁
  obtain ⟨new, rfl, hnew⟩ := q₁.grow
  refine hq y h₁ tk₁ (ρ ++ (hb.run (h := s.heap) (X := []) r.objs.length i₁.rel.none hy (fun a ha => Nat.le_trans (Nat.le_of_lt hns.lt) (hnew a ha))).choose) fun sz => ?_
  obtain ⟨g1, g2, g3⟩ := (hb.run (h := s.heap) (X := []) r.objs.length i₁.rel.none hy (fun a ha => Nat.le_trans (Nat.le_of_lt hns.lt) (hnew a ha))).choose_spec
  refine ⟨⟨⟨_, rfl, g3⟩, fun b ob e hb' => ?_, sz⟩, g1, g2⟩
  exact q₁.keep b ob (hk b ob e) fun hm => by
    rcases List.mem_cons.mp hm with rfl | hm
    · exact hL _ _ e rfl
    · exact hb' (by simpa using hm)
end
end Mine
end

section
open PySem PySem.W PyProof.Rows
set_option linter.unusedVariables false
namespace Mine

/-! ### what is walked over -/
inductive Src where
  | list (i : Nat)
  | rng (lo hi : Int)
  | str (x : Str)

noncomputable def Src.item (os : List AO) (k : Nat) : Src → Option AV
  | .list i => match os[i]? with | some (.list xs) => xs[k]? | _ => .none
  | .rng lo hi => if lo + k < hi then some (.int (lo + k)) else .none
  | .str x => (x.cps[k]?).map fun ch => .str ⟨#[ch]⟩

/-- the source stands -/
noncomputable def Src.Ok (os : List AO) : Src → Prop
  | .list i => ∃ xs, os[i]? = some (.list xs)
  | .rng lo hi => True
  | .str x => True

noncomputable def ItAt (src : Src) (k : Nat) (it : Addr) (ρ : List Pl) (h : Heap) : Prop := match src with
  | .list i => ∃ p, ρ[i]? = some p ∧ h.IsListIter it p.a k
  | .rng lo hi => IsRangeIter h it (lo + k) (if hi ≤ lo then 0 - k else hi - lo - k) 1
  | .str x => ∃ ty t, (ty = "str_ascii_iterator" ∨ ty = "str_iterator") ∧ h.IsStrIter it ty x t k

theorem ItAt.keep {src : Src} {k : Nat} {it : Addr} {ρ ρ' : List Pl} {X : List Addr} {h h' : Heap} (x : ItAt src k it ρ h) (q : Reach X ρ h ρ' h') (hn : it ∉ X ++ foot ρ) : ItAt src k it ρ' h' := by
  obtain ⟨new, rfl⟩ := q.pref
  cases src with
  | list i => obtain ⟨p, hp, o, ho, r⟩ := x; exact ⟨p, getElem?_mono hp, o, q.keep _ _ ho hn, r⟩
  | rng lo hi => exact q.keep _ _ x hn
  | str z => obtain ⟨ty, t, hty, o, ho, r⟩ := x; exact ⟨ty, t, hty, o, q.keep _ _ ho hn, r⟩
theorem ItAt.lt {src : Src} {k : Nat} {it : Addr} {ρ : List Pl} {h : Heap} (x : ItAt src k it ρ h) : it < h.objs.size := by
  cases src with
  | list i => obtain ⟨p, hp, o, ho, r⟩ := x; exact Heap.lt_size ho
  | rng lo hi => exact Heap.lt_size x
  | str z => obtain ⟨ty, t, hty, o, ho, r⟩ := x; exact Heap.lt_size ho

section
variable {c : Cx} {n : Nat} {fd : FD} {σ σ₁ σ₂ σ₃ : S} {X : List Addr} {A : Around} {ρ : List Pl} {s : Shared} {os : List AO} {E : Value → Shared → Prop}

theorem next_item {src : Src} {k : Nat} {it : Addr} {v : AV} {Q : Option Value → Shared → Prop} (r : Rel c X os ρ s.heap) (hi : ItAt src k it ρ s.heap) (hv : src.item os k = some v)
    (hQ : ∀ x h' tk, VR ρ v x → ItAt src (k + 1) it ρ h' → Heap.SameBut it s.heap h' → Q (some x) { s with heap := h', toks := tk }) : wpAny c.M A (pyNext (.ref it)) Q E s := by
  cases src with
  | list i =>
    obtain ⟨p, hp, hl⟩ := hi
    dsimp only [Src.item] at hv
    cases ho : os[i]? with
    | none => rw [ho] at hv; cases hv
    | some o =>
      rw [ho] at hv
      cases o with
      | list xs =>
        obtain ⟨p', vs, hp', _, e, hvs, hpl⟩ := r.list ho ⟨p, hp, rfl⟩
        rw [hp] at hp'; cases hp'
        obtain ⟨x, hx, hvx⟩ := hvs.get hv
        exact wpAny_pyNext_list_item hl hpl.isList (by simpa using hx) fun h' hit hs => hQ x h' s.toks hvx ⟨p, hp, hit⟩ hs
      | _ => cases hv
  | rng lo hi' =>
    dsimp only [Src.item] at hv
    by_cases hlt : lo + k < hi'
    · rw [if_pos hlt] at hv; cases hv
      have hi0 : IsRangeIter s.heap it (lo + k) (hi' - lo - k) 1 := by
        have := hi; dsimp only [ItAt] at this; rw [if_neg (by omega)] at this; exact this
      refine wpAny_pyNext_range_item hi0 (by omega) fun h' hit hs => hQ _ h' _ ⟨_, rfl⟩ ?_ hs
      show IsRangeIter h' it (lo + ((k + 1 : Nat) : Int)) (if hi' ≤ lo then 0 - ((k + 1 : Nat) : Int) else hi' - lo - ((k + 1 : Nat) : Int)) 1
      rw [if_neg (by omega)]
      have e1 : lo + ((k + 1 : Nat) : Int) = lo + k + 1 := by omega
      have e2 : hi' - lo - ((k + 1 : Nat) : Int) = hi' - lo - k - 1 := by omega
      rw [e1, e2]; exact hit
    · rw [if_neg hlt] at hv; cases hv
  | str z =>
    obtain ⟨ty, t, hty, hl⟩ := hi
    dsimp only [Src.item] at hv
    cases hc : z.cps[k]? with
    | none => rw [hc] at hv; cases hv
    | some ch =>
      rw [hc] at hv; cases hv
      rcases hty with rfl | rfl
      · exact wpAny_pyNext_ascii_item hl hc fun h' hit hs => hQ _ h' _ ⟨_, rfl⟩ ⟨_, t, .inl rfl, hit⟩ hs
      · exact wpAny_pyNext_wide_item hl hc fun h' hit hs => hQ _ h' _ ⟨_, rfl⟩ ⟨_, t, .inr rfl, hit⟩ hs

theorem next_end {src : Src} {k : Nat} {it : Addr} {Q : Option Value → Shared → Prop} (hh : A.handled = .none) (r : Rel c X os ρ s.heap) (ok : src.Ok os) (hi : ItAt src k it ρ s.heap) (hv : src.item os k = .none)
    (hQ : ∀ h', Heap.ExtBut it s.heap h' → Q .none { s with heap := h' }) : wpAny c.M A (pyNext (.ref it)) Q E s := by
  cases src with
  | list i =>
    obtain ⟨p, hp, hl⟩ := hi
    obtain ⟨xs, ho⟩ := ok
    dsimp only [Src.item] at hv
    rw [ho] at hv
    obtain ⟨p', vs, hp', _, e, hvs, hpl⟩ := r.list ho ⟨p, hp, rfl⟩
    rw [hp] at hp'; cases hp'
    refine wpAny_pyNext_list_end hh hl hpl.isList ?_ hQ
    have h1 : xs.length ≤ k := List.getElem?_eq_none_iff.mp hv
    rw [hvs.length] at h1
    simpa using h1
  | rng lo hi' =>
    dsimp only [Src.item] at hv
    by_cases hlt : lo + k < hi'
    · rw [if_pos hlt] at hv; cases hv
    · dsimp only [ItAt] at hi
      refine wpAny_pyNext_range_end hh hi ?_ hQ
      split <;> omega
  | str z =>
    obtain ⟨ty, t, hty, hl⟩ := hi
    dsimp only [Src.item] at hv
    cases hc : z.cps[k]? with
    | some ch => rw [hc] at hv; cases hv
    | none =>
      rcases hty with rfl | rfl
      · exact wpAny_pyNext_ascii_end hh hl hc hQ
      · exact wpAny_pyNext_wide_end hh hl hc hQ

/-- one turn of a loop -/
theorem codeAny_for_turn {R : Result → Shared → Prop} {x : Str} {px : Pos} {it : Addr} {body : List Stmt} {env : Env}
    (turn : wpAny c.M A (pyNext (.ref it)) (fun r s₁ => match r with
      | .none => R (.ok .next) s₁
      | some v => wpAny c.M A (storeName env x v) (fun _ s₂ => wpAny c.M A (execs body env) (fun f s₃ => match f with
            | .next | .cont => codeAny c.M A (.forLoop (.Name x px) (.ref it) body [] env) R s₃
            | .brk => R (.ok .next) s₃
            | .ret v => R (.ok (.ret v)) s₃) (notedBy c.M A env fun e s' => R (.error e) s') s₂) (notedBy c.M A env fun e s' => R (.error e) s') s₁) (notedBy c.M A env fun e s' => R (.error e) s') s) :
    codeAny c.M A (.forLoop (.Name x px) (.ref it) body [] env) R s := by
  refine codeAny_of_tree ?_
  rw [Around.under_of_weight (by rfl) (by rfl)]
  show wpAny _ A ((forTurn (.Name x px) (.ref it) body [] env).onRaise (fun x => do noteFrame x env; theTreesLotGoes x)) _ _ s
  refine wpAny_noted ?_
  simp only [forTurn]
  refine wpAny_bind (wpAny_standAt (wpAny_bind (wpAny_onRaise (wpAny_mono turn (fun r s₁ h₁ => ?_) fun _ _ h' => wpAny_standAt h'))))
  cases r with
  | none => exact wpAny_pure (And.intro rfl (codeAny_block (wpAny_execs_nil h₁)))
  | some v =>
    refine wpAny_bind (wpAny_pure (a := ()) ?_)
    refine wpAny_bind (wpAny_mono (wpAny_assign_Name (pos := px) h₁) (fun _ s₂ h₂ => wpAny_bind (wpAny_mono h₂ (fun f s₃ h₃ => ?_) fun _ _ h' => h')) fun _ _ h' => h')
    cases f with
    | next => exact wpAny_pure (And.intro rfl h₃)
    | cont => exact wpAny_pure (And.intro rfl h₃)
    | brk => exact wpAny_pure h₃
    | ret v => exact wpAny_pure h₃

noncomputable def Lp (c : Cx) (n : Nat) (fd : FD) (x : Str) (body : List Stmt) (src : Src) (k : Nat) (σ : S) (f : AF) (σ' : S) : Prop :=
  ∀ env A ρ s it px R, Room A n → In c fd σ env ρ s.heap → ItAt src k it ρ s.heap → it ∉ env.locals :: foot ρ → c.hb.get? it = .none →
    (∀ fl h' tk' ρ', Reach [it, env.locals] ρ s.heap ρ' h' → In c fd σ' env ρ' h' → FR ρ' f fl → R (.ok fl) { s with heap := h', toks := tk' }) →
    codeAny c.M A (.forLoop (.Name x px) (.ref it) body [] env) R s

/-- the iterator alone turned -/
theorem In.iter {env : Env} {it : Addr} {h h' : Heap} (i : In c fd σ env ρ h) (hn : it ∉ env.locals :: foot ρ) (hb : c.hb.get? it = .none) (k : Heap.ExtBut it h h') (sz : h.objs.size ≤ h'.objs.size) : In c fd σ env ρ h' := by
  have kb : Keeps c.hb h' := fun a o e => k a o (fun q => by subst q; rw [hb] at e; cases e) (i.rel.keep a o e)
  refine ⟨⟨i.rel.objs.loc kb fun a ha o e => k a o (fun q => hn (by subst q; exact List.mem_cons_of_mem _ ha)) e, i.rel.nodup, kb, i.rel.fresh, fun a ha => Nat.lt_of_lt_of_le (i.rel.live a ha) sz⟩, i.fre.scope, i.fre.glob, i.fre.blt, i.fre.cq, i.fre.cells, ?_⟩
  obtain ⟨m, hm, r⟩ := i.fre.ns
  exact ⟨m, hm.extBut k (fun q => hn (by rw [← q]; exact List.mem_cons_self)), r⟩

theorem Reach.iter {X : List Addr} {it : Addr} {h h' : Heap} (hm : it ∈ X) (k : Heap.ExtBut it h h') (sz : h.objs.size ≤ h'.objs.size) : Reach X ρ h ρ h' :=
  ⟨⟨[], by simp, by simp [foot]⟩, fun a o e ha => k a o (fun q => ha (by subst q; exact List.mem_append_left _ hm)) e, sz⟩

theorem Lp.done {x : Str} {body : List Stmt} {src : Src} {k : Nat} (hv : src.item σ.os k = .none) (ok : src.Ok σ.os) : Lp c n fd x body src k σ .next σ := fun env A ρ s it px R rm i hi hn hb hR => by
  refine codeAny_size (codeAny_for_turn (next_end rm.handled i.rel ok hi hv fun h' hk => fun sz => ?_))
  exact hR _ h' s.toks ρ (Reach.iter List.mem_cons_self hk sz) (i.iter hn hb hk sz) rfl

theorem fresh_not {X : List Addr} {ρ ρ' : List Pl} {h h' : Heap} {a : Addr} (q : Reach X ρ h ρ' h') (hlt : a < h.objs.size) (hn : a ∉ foot ρ) : a ∉ foot ρ' := by
  obtain ⟨new, rfl, hf⟩ := q.grow
  rw [foot_append]
  intro hm
  rcases List.mem_append.mp hm with hm | hm
  · exact hn hm
  · exact absurd hlt (Nat.not_lt.mpr (hf a hm))

/-- one turn: the item stored, the body run -/
theorem Lp.turn {x : Str} {body : List Stmt} {src : Src} {k : Nat} {v : AV} {f₁ f : AF} (hv : src.item σ.os k = some v) (hs : Sto fd x v σ σ₁) (hb : Exs c n fd body σ₁ f₁ σ₂) (hk : fd.scope.kind = .function)
    (go : (f₁ = .next ∨ f₁ = .cont) → Lp c n fd x body src (k + 1) σ₂ f σ₃) (ends : ¬ (f₁ = .next ∨ f₁ = .cont) → σ₃ = σ₂ ∧ f = (match f₁ with | .brk => .next | g => g)) : Lp c n fd x body src k σ f σ₃ := fun env A ρ s it px R rm i hi hn hb' hR => by
  refine codeAny_for_turn (next_item i.rel hi hv fun y h₁ tk₁ hy hi₁ hs₁ => ?_)
  have i₁ := i.iter hn hb' hs₁.extBut (Nat.le_of_eq hs₁.1.symm)
  have q₁ : Reach [it, env.locals] ρ s.heap ρ h₁ := Reach.iter List.mem_cons_self hs₁.extBut (Nat.le_of_eq hs₁.1.symm)
  refine hs.run (s := { s with heap := h₁, toks := tk₁ }) i₁ hy hk _ _ fun _ h₂ tk₂ ρ₂ q₂ i₂ => ?_
  have hn₂ : it ∉ env.locals :: foot ρ₂ := fun hm => by
    rcases List.mem_cons.mp hm with e | hm
    · exact hn (by rw [e]; exact List.mem_cons_self)
    · exact fresh_not q₂ hi₁.lt (fun q => hn (List.mem_cons_of_mem _ q)) hm
  have hi₂ := hi₁.keep q₂ hn
  refine hb env A ρ₂ { s with heap := h₂, toks := tk₂ } rm i₂ _ _ fun fl h₃ tk₃ ρ₃ q₃ p₃ => ?_
  have hn₃ : it ∉ env.locals :: foot ρ₃ := fun hm => by
    rcases List.mem_cons.mp hm with e | hm
    · exact hn₂ (by rw [e]; exact List.mem_cons_self)
    · exact fresh_not q₃ hi₂.lt (fun q => hn₂ (List.mem_cons_of_mem _ q)) hm
  have hi₃ := hi₂.keep q₃ hn₂
  have qq : Reach [it, env.locals] ρ s.heap ρ₃ h₃ := (q₁.trans (q₂.more (by simp))).trans (q₃.more (by simp))
  obtain ⟨i₃, hf⟩ := p₃
  cases f₁ with
  | next =>
    cases hf
    exact go (.inl rfl) env A ρ₃ { s with heap := h₃, toks := tk₃ } it px R rm i₃ hi₃ hn₃ hb' fun fl' h' tk' ρ' q' i' hf' => hR fl' h' tk' ρ' (qq.trans q') i' hf'
  | cont =>
    cases hf
    exact go (.inr rfl) env A ρ₃ { s with heap := h₃, toks := tk₃ } it px R rm i₃ hi₃ hn₃ hb' fun fl' h' tk' ρ' q' i' hf' => hR fl' h' tk' ρ' (qq.trans q') i' hf'
  | brk =>
    cases hf
    obtain ⟨rfl, rfl⟩ := ends (by rintro (h | h) <;> cases h)
    exact hR _ h₃ tk₃ ρ₃ qq i₃ rfl
  | ret u =>
    obtain ⟨z, rfl, hz⟩ := hf
    obtain ⟨rfl, rfl⟩ := ends (by rintro (h | h) <;> cases h)
    exact hR _ h₃ tk₃ ρ₃ qq i₃ ⟨z, rfl, hz⟩

theorem Lp.step {x : Str} {body : List Stmt} {src : Src} {k : Nat} {v : AV} {f : AF} (hv : src.item σ.os k = some v) (hs : Sto fd x v σ σ₁) (hb : Exs c n fd body σ₁ .next σ₂) (go : Lp c n fd x body src (k + 1) σ₂ f σ₃) (hk : fd.scope.kind = .function := by rfl) : Lp c n fd x body src k σ f σ₃ :=
  Lp.turn hv hs hb hk (fun _ => go) fun h => absurd (.inl rfl) h
theorem Lp.brk {x : Str} {body : List Stmt} {src : Src} {k : Nat} {v : AV} (hv : src.item σ.os k = some v) (hs : Sto fd x v σ σ₁) (hb : Exs c n fd body σ₁ .brk σ₂) (hk : fd.scope.kind = .function := by rfl) : Lp c n fd x body src k σ .next σ₂ :=
  Lp.turn hv hs hb hk (fun h => by rcases h with h | h <;> cases h) fun _ => ⟨rfl, rfl⟩
theorem Lp.ret {x : Str} {body : List Stmt} {src : Src} {k : Nat} {v u : AV} (hv : src.item σ.os k = some v) (hs : Sto fd x v σ σ₁) (hb : Exs c n fd body σ₁ (.ret u) σ₂) (hk : fd.scope.kind = .function := by rfl) : Lp c n fd x body src k σ (.ret u) σ₂ :=
  Lp.turn hv hs hb hk (fun h => by rcases h with h | h <;> cases h) fun _ => ⟨rfl, rfl⟩

/-- what a value is walked as -/
inductive Itr (os : List AO) : AV → Src → Prop
  | list {i : Nat} {xs : List AV} (h : os[i]? = some (.list xs)) : Itr os (.ref i) (.list i)
  | rng {i : Nat} {lo hi : Int} (h : os[i]? = some (.rng lo hi)) (hs : Builtin.Range.small lo hi 1 = true) : Itr os (.ref i) (.rng lo hi)
  | str {x : Str} : Itr os (.str x) (.str x)

theorem iter_run {a : AV} {src : Src} {v : Value} {Q : Value → Shared → Prop} (h : Itr os a src) (r : Rel c X os ρ s.heap) (hv : VR ρ a v)
    (hQ : ∀ ob, ItAt src 0 s.heap.objs.size ρ (s.heap.push ob) → Q (.ref s.heap.objs.size) { s with heap := s.heap.push ob }) : wpAny c.M A (pyIter v) Q E s := by
  cases h with
  | list ho =>
    obtain ⟨p, vs, hp, _, rfl, hvs, hpl⟩ := r.list ho hv
    exact wpAny_pyIter_list hpl.isList (hQ _ ⟨p, hp, _, Heap.get?_push_size _ rfl, rfl, rfl⟩)
  | @rng i lo hi ho hs =>
    obtain ⟨p, hp, rfl⟩ := hv
    obtain ⟨p', hp', hm', t, u, w, hr⟩ := r.objs.get ho
    rw [hp] at hp'; cases hp'
    refine wpAny_pyIter_range hr hs (hQ _ ?_)
    have e2 : Builtin.Range.rangeSize lo hi 1 = if hi ≤ lo then 0 - ((0 : Nat) : Int) else hi - lo - ((0 : Nat) : Int) := by
      unfold Builtin.Range.rangeSize
      by_cases hl : lo < hi
      · simp [hl] <;> omega
      · simp [hl] <;> omega
    have e3 : lo + ((0 : Nat) : Int) = lo := by omega
    dsimp only [ItAt]
    rw [← e2, e3]
    exact Heap.get?_push_size _ rfl
  | str =>
    obtain ⟨t, rfl⟩ := hv
    rename_i x
    cases ha : x.cps.all (· < 128)
    · exact wpAny_pyIter_wide ha (hQ _ ⟨_, t, .inr rfl, _, Heap.get?_push_size _ rfl, rfl, rfl⟩)
    · exact wpAny_pyIter_ascii ha (hQ _ ⟨_, t, .inl rfl, _, Heap.get?_push_size _ rfl, rfl, rfl⟩)

theorem Ex.for {x : Str} {px pos : Pos} {iter : Expr} {body : List Stmt} {a : AV} {src : Src} {f : AF} (h1 : Ev c n fd iter σ a σ₁) (hi : Itr σ₁.os a src) (h2 : Lp c n fd x body src 0 σ₁ f σ₂)
    (hs : ∀ env v, foldedSetIterable iter env v = Pure.pure v := by intro _ _; rfl) : Ex c n fd (.For (.Name x px) iter body [] pos) σ f σ₂ := fun env A ρ s rm i => by
  rw [exec_For]
  refine Run.stand (Run.bind (h1 env A ρ s rm i) fun v h₁ tk₁ ρ₁ q₁ p₁ => ?_)
  refine Run.bind (P := fun ρ' h' u => u = v ∧ In c fd σ₁ env ρ' h' ∧ VR ρ' a v) (Run.of_eq (hs env v) (Run.pure ⟨rfl, p₁⟩)) fun u h₂ tk₂ ρ₂ q₂ p₂ => ?_
  obtain ⟨rfl, p₂⟩ := p₂
  refine Run.stand ?_
  refine Run.wp fun Q E hq => wpAny_bind (wpAny_holding (iter_run hi p₂.1.rel p₂.2 fun ob hit => wpAny_runOwn ?_))
  dsimp only at hit
  have hnew : h₂.objs.size ∉ env.locals :: foot ρ₂ := fun hm => absurd (p₂.1.rel.live _ hm) (Nat.lt_irrefl _)
  have hb : c.hb.get? h₂.objs.size = .none := by
    cases e : c.hb.get? h₂.objs.size with
    | none => rfl
    | some o => exact absurd (Heap.lt_size (p₂.1.rel.keep _ _ e)) (Nat.lt_irrefl _)
  have i' : In c fd σ₁ env ρ₂ (h₂.push ob) := p₂.1.lift (Reach.waste [] ρ₂ h₂ ob) (p₂.1.rel.none.waste ob)
  refine h2 env _ ρ₂ { s with heap := h₂.push ob, toks := tk₂ } _ px _ rm i' hit hnew hb fun fl h' tk' ρ' q' ii hf => hq fl h' tk' ρ' fun sz => ⟨⟨?_, fun b o e hn => ?_, sz⟩, ii, hf⟩
  · obtain ⟨new, e, hf⟩ := q'.grow
    exact ⟨new, e, fun a ha => Nat.le_trans (Nat.le_of_lt (by show h₂.objs.size < (h₂.push ob).objs.size; rw [Heap.size_push]; exact Nat.lt_succ_self _)) (hf a ha)⟩
  · refine q'.keep b o (Heap.get?_push_of_some _ e) fun hm => ?_
    rcases List.mem_cons.mp hm with hm | hm
    · exact absurd (Heap.lt_size e) (by rw [hm]; exact Nat.lt_irrefl _)
    · exact hn hm
end
end Mine
end

section
open PySem PySem.W PyProof.Rows
set_option linter.unusedVariables false
namespace Mine

theorem compTurn_at (elt target iter : Expr) (gens : List Comprehension) (scope : Scope) (pos : Pos) (d : Nat) (it acc : Value) (env : Env) (hg : gens[d]? = some ⟨target, iter, [], 0⟩) (hn : gens[d + 1]? = none) :
    compTurn (.ListComp elt gens scope pos) d it acc env = (standAt iter.pos >>= fun _ => pyNext it >>= fun r => match r with
      | none => pure (.done .next)
      | some v => letOwnedTupleGo target it v >>= fun _ => assign target env v >>= fun _ =>
        (eval elt env >>= fun x => call (.builtin "list.append") [acc, x] >>= fun _ => pure ()) >>= fun _ =>
          again (.compLoop (.ListComp elt gens scope pos) d it acc env)) := by
  unfold compTurn
  simp only [hg, hn]
  rfl

theorem compTurn_more (elt target iter target' iter' : Expr) (ifs' : List Expr) (gens : List Comprehension) (scope : Scope) (pos : Pos) (d : Nat) (it acc : Value) (env : Env) (hg : gens[d]? = some ⟨target, iter, [], 0⟩) (hn : gens[d + 1]? = some ⟨target', iter', ifs', 0⟩) :
    compTurn (.ListComp elt gens scope pos) d it acc env = (standAt iter.pos >>= fun _ => pyNext it >>= fun r => match r with
      | none => pure (.done .next)
      | some v => letOwnedTupleGo target it v >>= fun _ => assign target env v >>= fun _ =>
        eval iter' env >>= fun x => standAt iter'.pos >>= fun _ => foldedSetIterable iter' env x >>= fun x => holding [x] (pyIter x) >>= fun it' =>
          runOwn (.compStart (.ListComp elt gens scope pos) (d + 1) it' acc env) env >>= fun _ =>
          again (.compLoop (.ListComp elt gens scope pos) d it acc env)) := by
  unfold compTurn
  simp only [hg, hn]
  rfl
end Mine
end

section
open PySem PySem.W PyProof.Rows
set_option linter.unusedVariables false
namespace Mine

structure Hid (c : Cx) (env : Env) (ρ : List Pl) (h : Heap) (it al : Addr) (src : Src) (k : Nat) (acc : List AV) (vs : List Value) : Prop where
  i : ItAt src k it ρ h
  ni : it ∉ env.locals :: foot ρ
  bi : c.hb.get? it = none
  hv : VRs ρ acc vs
  hl : LL h al vs.toArray
  nl : al ∉ it :: env.locals :: foot ρ
  bl : c.hb.get? al = none

section
variable {c : Cx} {n : Nat} {fd : FD} {σ σ₁ σ₂ σ₃ σ₄ : S} {X : List Addr} {A : Around} {ρ : List Pl} {s : Shared} {os : List AO} {E : Value → Shared → Prop}

theorem Hid.keep {env : Env} {ρ' : List Pl} {h h' : Heap} {it al : Addr} {src : Src} {k : Nat} {acc : List AV} {vs : List Value} (x : Hid c env ρ h it al src k acc vs) (q : Reach [env.locals] ρ h ρ' h') : Hid c env ρ' h' it al src k acc vs := by
  have nl' : al ∉ env.locals :: foot ρ := fun hm => x.nl (List.mem_cons_of_mem _ hm)
  have up : ∀ a, a < h.objs.size → a ∉ env.locals :: foot ρ → a ∉ env.locals :: foot ρ' := fun a hlt hn hm => by
    rcases List.mem_cons.mp hm with e | hm
    · exact hn (by rw [e]; exact List.mem_cons_self)
    · exact fresh_not q hlt (fun y => hn (List.mem_cons_of_mem _ y)) hm
  refine ⟨x.i.keep q x.ni, up it x.i.lt x.ni, x.bi, x.hv.reach q, x.hl.of fun o ho => q.keep _ _ ho nl', fun hm => ?_, x.bl⟩
  rcases List.mem_cons.mp hm with e | hm
  · exact x.nl (by rw [e]; exact List.mem_cons_self)
  · exact up al x.hl.lt nl' hm

noncomputable def Cp (c : Cx) (n : Nat) (fd : FD) (elt : Expr) (gens : List Comprehension) (scope : Scope) (pos : Pos) (d : Nat) (src : Src) (k : Nat) (σ : S) (acc : List AV) (σ' : S) (acc' : List AV) : Prop :=
  ∀ env A ρ s it al vs R, Room A n → In c fd σ env ρ s.heap → Hid c env ρ s.heap it al src k acc vs →
    (∀ h' tk' ρ' vs', Reach [it, al, env.locals] ρ s.heap ρ' h' → In c fd σ' env ρ' h' → VRs ρ' acc' vs' → LL h' al vs'.toArray → R (.ok .next) { s with heap := h', toks := tk' }) →
    codeAny c.M A (.compLoop (.ListComp elt gens scope pos) d (.ref it) (.ref al) env) R s

theorem codeAny_comp {elt : Expr} {gens : List Comprehension} {scope : Scope} {pos : Pos} {d : Nat} {it acc : Value} {env : Env} {R : Result → Shared → Prop}
    (h : wpAny c.M A (compTurn (.ListComp elt gens scope pos) d it acc env) (fun fin s' => match fin with | .done f => R (.ok f) s' | .again c' => c'.quiet = true ∧ codeAny c.M A c' R s') (notedBy c.M A env fun e s' => R (.error e) s') s) :
    codeAny c.M A (.compLoop (.ListComp elt gens scope pos) d it acc env) R s := by
  refine codeAny_of_tree ?_
  rw [Around.under_of_weight (by rfl) (by rfl)]
  show wpAny _ A ((compTurn (.ListComp elt gens scope pos) d it acc env).onRaise (fun x => do noteFrame x env; theTreesLotGoes x)) _ _ s
  exact wpAny_noted h

/-- the iterator and the list that is filled alone turned -/
theorem Hid.next {env : Env} {h h' : Heap} {it al : Addr} {src : Src} {k : Nat} {acc : List AV} {vs : List Value} (x : Hid c env ρ h it al src k acc vs) (hi : ItAt src (k + 1) it ρ h') (hs : Heap.SameBut it h h') : Hid c env ρ h' it al src (k + 1) acc vs := by
  exact ⟨hi, x.ni, x.bi, x.hv, x.hl.of fun o ho => (hs.2 al fun e => x.nl (by rw [e]; exact List.mem_cons_self)).trans ho, x.nl, x.bl⟩
theorem Hid.app {env : Env} {h h' : Heap} {it al : Addr} {src : Src} {k : Nat} {acc : List AV} {vs : List Value} {u : AV} {y : Value} (x : Hid c env ρ h it al src k acc vs) (hu : VR ρ u y) (hl : LL h' al (vs ++ [y]).toArray) (hs : Heap.SameBut al h h') : Hid c env ρ h' it al src k (acc ++ [u]) (vs ++ [y]) := by
  refine ⟨?_, x.ni, x.bi, x.hv.append (ws := [y]) ⟨hu, trivial⟩, hl, x.nl, x.bl⟩
  have hne : it ≠ al := fun e => x.nl (by rw [e]; exact List.mem_cons_self)
  have := x.i
  cases src with
  | list i => obtain ⟨p, hp, o, ho, r⟩ := this; exact ⟨p, hp, o, (hs.2 it hne).trans ho, r⟩
  | rng lo hi => exact (hs.2 it hne).trans this
  | str z => obtain ⟨ty, t, hty, o, ho, r⟩ := this; exact ⟨ty, t, hty, o, (hs.2 it hne).trans ho, r⟩
theorem Reach.one {X : List Addr} {a : Addr} {h h' : Heap} (hm : a ∈ X) (k : Heap.SameBut a h h') : Reach X ρ h ρ h' := Reach.iter hm k.extBut (Nat.le_of_eq k.1.symm)

theorem comp_end {env : Env} {elt : Expr} {gens : List Comprehension} {scope : Scope} {pos : Pos} {d : Nat} {src : Src} {k : Nat} {acc : List AV} {vs : List Value} {it al : Addr} {R : Result → Shared → Prop} {Q : Option Value → Shared → Prop} (hh : A.handled = none) (i : In c fd σ env ρ s.heap) (x : Hid c env ρ s.heap it al src k acc vs)
    (hv : src.item σ.os k = none) (ok : src.Ok σ.os) (hR : ∀ h' tk' ρ' vs', Reach [it, al, env.locals] ρ s.heap ρ' h' → In c fd σ env ρ' h' → VRs ρ' acc vs' → LL h' al vs'.toArray → R (.ok .next) { s with heap := h', toks := tk' })
    (hQ : ∀ s', (s.heap.objs.size ≤ s'.heap.objs.size → R (.ok .next) s') → Q none s') : wpAny c.M A (pyNext (.ref it)) Q E s := by
  refine next_end hh i.rel ok x.i hv fun h' hk => hQ _ fun sz => ?_
  exact hR h' s.toks ρ vs (Reach.iter List.mem_cons_self hk sz) (i.iter x.ni x.bi hk sz) x.hv (x.hl.of fun o ho => hk _ _ (fun e => x.nl (by rw [e]; exact List.mem_cons_self)) ho)

/-- the turn's head: the next item, stored -/
theorem comp_item {env : Env} {src : Src} {k : Nat} {acc : List AV} {vs : List Value} {it al : Addr} {x : Str} {px : Pos} {v : AV} {Q : Option Value → Shared → Prop} (i : In c fd σ env ρ s.heap) (w : Hid c env ρ s.heap it al src k acc vs) (hv : src.item σ.os k = some v) (hs : Sto fd x v σ σ₁) (hk : fd.scope.kind = .function)
    (hQ : ∀ y h₁ tk₁, (∀ Q' E', (∀ h₂ tk₂ ρ₂, Reach [it, al, env.locals] ρ s.heap ρ₂ h₂ → In c fd σ₁ env ρ₂ h₂ → Hid c env ρ₂ h₂ it al src (k + 1) acc vs → Q' () { s with heap := h₂, toks := tk₂ }) → wpAny c.M A (assign (.Name x px) env y) Q' E' { s with heap := h₁, toks := tk₁ }) →
      Q (some y) { s with heap := h₁, toks := tk₁ }) : wpAny c.M A (pyNext (.ref it)) Q E s := by
  refine next_item i.rel w.i hv fun y h₁ tk₁ hy hi₁ hs₁ => hQ y h₁ tk₁ fun Q' E' hq' => wpAny_assign_Name ?_
  have i₁ := i.iter w.ni w.bi hs₁.extBut (Nat.le_of_eq hs₁.1.symm)
  have w₁ := w.next hi₁ hs₁
  have q₁ : Reach [it, al, env.locals] ρ s.heap ρ h₁ := Reach.one List.mem_cons_self hs₁
  refine hs.run (s := { s with heap := h₁, toks := tk₁ }) i₁ hy hk _ _ fun _ h₂ tk₂ ρ₂ q₂ i₂ => ?_
  exact hq' h₂ tk₂ ρ₂ (q₁.trans (q₂.more (by simp))) i₂ (w₁.keep q₂)

theorem Cp.done {elt : Expr} {gens : List Comprehension} {scope : Scope} {pos : Pos} {d : Nat} {src : Src} {k : Nat} {acc : List AV} {x : Str} {px : Pos} {iter : Expr} {ifs : List Expr} (hg : gens[d]? = some ⟨.Name x px, iter, ifs, 0⟩) (hv : src.item σ.os k = none) (ok : src.Ok σ.os) : Cp c n fd elt gens scope pos d src k σ acc σ acc :=
  fun env A ρ s it al vs R rm i w hR => by
    refine codeAny_size (codeAny_comp ?_)
    unfold compTurn
    simp only [hg]
    refine wpAny_bind (wpAny_standAt (wpAny_bind ?_))
    exact comp_end (elt := elt) (gens := gens) (scope := scope) (pos := pos) (d := d) rm.handled i w hv ok hR fun s' h' => wpAny_pure h'

/-- the element put behind -/
theorem comp_app {env : Env} {src : Src} {k : Nat} {acc : List AV} {vs : List Value} {it al : Addr} {elt : Expr} {u : AV} {Q : Unit → Shared → Prop} (rm : Room A n) (i : In c fd σ env ρ s.heap) (w : Hid c env ρ s.heap it al src k acc vs) (he : Ev c n fd elt σ u σ₁) (hz : acc.length ≤ sizeLine)
    (hQ : ∀ h₂ tk₂ ρ₂ vs', Reach [it, al, env.locals] ρ s.heap ρ₂ h₂ → In c fd σ₁ env ρ₂ h₂ → Hid c env ρ₂ h₂ it al src k (acc ++ [u]) vs' → Q () { s with heap := h₂, toks := tk₂ }) :
    wpAny c.M A (eval elt env >>= fun x => call (.builtin "list.append") [.ref al, x] >>= fun _ => pure ()) Q E s := by
  refine wpAny_bind (he env A ρ s rm i _ _ fun y h₁ tk₁ ρ₁ q₁ p₁ => ?_)
  have w₁ := w.keep q₁
  refine wpAny_bind (append_ll (c := c) w₁.hl (fun h₂ hl₂ hs₂ => wpAny_pure ?_) (by rw [List.size_toArray, ← w₁.hv.length]; exact hz))
  have w₂ := w₁.app p₁.2 (by simpa using hl₂) hs₂
  refine hQ h₂ tk₁ ρ₁ _ ((q₁.more (by simp)).trans (Reach.one (by simp) hs₂)) ?_ w₂
  exact p₁.1.iter (fun hm => w₁.nl (List.mem_cons_of_mem _ hm)) w₁.bl hs₂.extBut (Nat.le_of_eq hs₂.1.symm)

theorem Cp.step {elt : Expr} {gens : List Comprehension} {scope : Scope} {pos : Pos} {d : Nat} {src : Src} {k : Nat} {acc acc' : List AV} {x : Str} {px : Pos} {iter : Expr} {v u : AV} (hv : src.item σ.os k = some v) (hs : Sto fd x v σ σ₁) (he : Ev c n fd elt σ₁ u σ₂) (go : Cp c n fd elt gens scope pos d src (k + 1) σ₂ (acc ++ [u]) σ₃ acc') (hz : acc.length ≤ sizeLine)
    (hg : gens[d]? = some ⟨.Name x px, iter, [], 0⟩) (hn : gens[d + 1]? = none) (hk : fd.scope.kind = .function := by rfl) : Cp c n fd elt gens scope pos d src k σ acc σ₃ acc' :=
  fun env A ρ s it al vs R rm i w hR => by
    refine codeAny_comp ?_
    rw [compTurn_at elt _ iter gens scope pos d _ _ env hg hn]
    refine wpAny_bind (wpAny_standAt (wpAny_bind (comp_item i w hv hs hk fun y h₁ tk₁ st => wpAny_bind (wpAny_pure (a := ()) (wpAny_bind (st _ _ fun h₂ tk₂ ρ₂ q₂ i₂ w₂ => ?_))))))
    refine wpAny_bind (comp_app (s := { s with heap := h₂, toks := tk₂ }) rm i₂ w₂ he hz fun h₃ tk₃ ρ₃ vs' q₃ i₃ w₃ => wpAny_pure (And.intro rfl ?_))
    exact go env A ρ₃ { s with heap := h₃, toks := tk₃ } it al vs' R rm i₃ w₃ fun h' tk' ρ' vs'' q' => hR h' tk' ρ' vs'' ((q₂.trans q₃).trans q')

end
end Mine
end

section
open PySem PySem.W PyProof.Rows
set_option linter.unusedVariables false
namespace Mine

section
variable {c : Cx} {n : Nat} {fd : FD} {σ σ₁ σ₂ σ₃ σ₄ : S} {X : List Addr} {A : Around} {ρ : List Pl} {s : Shared} {os : List AO} {E : Value → Shared → Prop}

theorem iter_again {src : Src} {k : Nat} {it : Addr} {Q : Value → Shared → Prop} (h : ItAt src k it ρ s.heap) (hq : Q (.ref it) s) : wpAny c.M A (pyIter (.ref it)) Q E s := by
  cases src with
  | list i => obtain ⟨p, hp, hl⟩ := h; exact wpAny_pyIter_listiter hl hq
  | rng lo hi => exact wpAny_pyIter_rangeiter h hq
  | str z =>
    obtain ⟨ty, t, hty, hl⟩ := h
    rcases hty with rfl | rfl
    · exact wpAny_pyIter_striter_ascii hl hq
    · exact wpAny_pyIter_striter_wide hl hq

theorem comp_start {elt : Expr} {gens : List Comprehension} {scope : Scope} {pos : Pos} {d : Nat} {src : Src} {k : Nat} {it : Addr} {acc : Value} {env : Env} {R : Result → Shared → Prop} {target iter : Expr} {ifs : List Expr} (hg : gens[d]? = some ⟨target, iter, ifs, 0⟩) (hi : ItAt src k it ρ s.heap)
    (h : codeAny c.M A (.compLoop (.ListComp elt gens scope pos) d (.ref it) acc env) R s) : codeAny c.M A (.compStart (.ListComp elt gens scope pos) d (.ref it) acc env) R s := by
  refine codeAny_of_tree ?_
  rw [Around.under_of_weight (by rfl) (by rfl)]
  show wpAny _ A ((compStart (.ListComp elt gens scope pos) d (.ref it) acc env).onRaise (fun x => do noteFrame x env; standAt theWindowsPlace)) _ _ s
  refine wpAny_notedAt ?_
  unfold compStart
  have e1 : clausesOf (.ListComp elt gens scope pos) = gens := rfl
  rw [e1, hg]
  show wpAny _ _ (ask >>= _) _ _ s
  refine wpAny_bind (wpAny_askSetting (wpAny_ite ?_))
  split
  · first
      | exact wpAny_bind (wpAny_pure (wpAny_pure (And.intro rfl h)))
      | exact wpAny_pure (And.intro rfl h)
  · refine wpAny_bind (wpAny_rule ?_)
    refine wpAny_bind (wpAny_standAt (wpAny_bind (iter_again hi (wpAny_pure (And.intro rfl h)))))

theorem Cp.nest {elt : Expr} {gens : List Comprehension} {scope : Scope} {pos : Pos} {d : Nat} {src src' : Src} {k : Nat} {acc acc₁ acc' : List AV} {x : Str} {px : Pos} {iter target' iter' : Expr} {ifs' : List Expr} {v a : AV} (hv : src.item σ.os k = some v) (hs : Sto fd x v σ σ₁) (he : Ev c n fd iter' σ₁ a σ₂) (hi : Itr σ₂.os a src')
    (inn : Cp c n fd elt gens scope pos (d + 1) src' 0 σ₂ acc σ₃ acc₁) (go : Cp c n fd elt gens scope pos d src (k + 1) σ₃ acc₁ σ₄ acc')
    (hg : gens[d]? = some ⟨.Name x px, iter, [], 0⟩) (hn : gens[d + 1]? = some ⟨target', iter', ifs', 0⟩) (hf : ∀ env v, foldedSetIterable iter' env v = Pure.pure v := by intro _ _; rfl) (hk : fd.scope.kind = .function := by rfl) : Cp c n fd elt gens scope pos d src k σ acc σ₄ acc' :=
  fun env A ρ s it al vs R rm i w hR => by
    refine codeAny_comp ?_
    rw [compTurn_more elt _ iter target' iter' ifs' gens scope pos d _ _ env hg hn]
    refine wpAny_bind (wpAny_standAt (wpAny_bind (comp_item i w hv hs hk fun y h₁ tk₁ st => wpAny_bind (wpAny_pure (a := ()) (wpAny_bind (st _ _ fun h₂ tk₂ ρ₂ q₂ i₂ w₂ => ?_))))))
    refine wpAny_bind (he env A ρ₂ { s with heap := h₂, toks := tk₂ } rm i₂ _ _ fun z h₃ tk₃ ρ₃ q₃ p₃ => ?_)
    have w₃ := w₂.keep q₃
    refine wpAny_bind (wpAny_standAt (wpAny_bind (wpAny_of_eq (hf env z) (wpAny_bind (wpAny_holding (iter_run hi p₃.1.rel p₃.2 fun ob hit => wpAny_bind (wpAny_runOwn ?_)))))))
    dsimp only at hit
    have i' : In c fd σ₂ env ρ₃ (h₃.push ob) := p₃.1.lift (Reach.waste [] ρ₃ h₃ ob) (p₃.1.rel.none.waste ob)
    have w' := w₃.keep (Reach.waste [env.locals] ρ₃ h₃ ob)
    have hlt : ∀ a, a ∈ env.locals :: foot ρ₃ → a ≠ h₃.objs.size := fun a ha e => absurd (p₃.1.rel.live a ha) (by rw [e]; exact Nat.lt_irrefl _)
    have hal : al < h₃.objs.size := w₃.hl.lt
    have hb : c.hb.get? h₃.objs.size = none := by
      cases e : c.hb.get? h₃.objs.size with
      | none => rfl
      | some o => exact absurd (Heap.lt_size (p₃.1.rel.keep _ _ e)) (Nat.lt_irrefl _)
    have wi : Hid c env ρ₃ (h₃.push ob) h₃.objs.size al src' 0 acc vs := by
      refine ⟨hit, fun hm => hlt _ hm rfl, hb, w'.hv, w'.hl, fun hm => ?_, w'.bl⟩
      rcases List.mem_cons.mp hm with e | hm
      · exact absurd hal (by rw [e]; exact Nat.lt_irrefl _)
      · exact w'.nl (List.mem_cons_of_mem _ hm)
    refine comp_start (s := { s with heap := h₃.push ob, toks := tk₃ }) hn hit (inn env _ ρ₃ { s with heap := h₃.push ob, toks := tk₃ } h₃.objs.size al vs _ rm i' wi fun h₄ tk₄ ρ₄ vs₄ q₄ i₄ hv₄ hl₄ => ?_)
    refine wpAny_pure (And.intro rfl ?_)
    have hni : it ∉ [h₃.objs.size, al, env.locals] ++ foot ρ₃ := fun hm => by
      rcases List.mem_cons.mp hm with e | hm
      · exact absurd w₃.i.lt (by rw [e]; exact Nat.lt_irrefl _)
      rcases List.mem_cons.mp hm with e | hm
      · exact w₃.nl (by rw [e]; exact List.mem_cons_self)
      · exact w₃.ni hm
    have hi₄ := w'.i.keep q₄ hni
    have up : ∀ a, a < (h₃.push ob).objs.size → a ∉ env.locals :: foot ρ₃ → a ∉ env.locals :: foot ρ₄ := fun a hl hn' hm => by
      rcases List.mem_cons.mp hm with e | hm
      · exact hn' (by rw [e]; exact List.mem_cons_self)
      · exact fresh_not q₄ hl (fun y => hn' (List.mem_cons_of_mem _ y)) hm
    have sz : h₃.objs.size < (h₃.push ob).objs.size := by rw [Heap.size_push]; exact Nat.lt_succ_self _
    have w₄ : Hid c env ρ₄ h₄ it al src (k + 1) acc₁ vs₄ := by
      refine ⟨hi₄, up it (Nat.lt_trans w₃.i.lt sz) w₃.ni, w₃.bi, hv₄, hl₄, fun hm => ?_, w₃.bl⟩
      rcases List.mem_cons.mp hm with e | hm
      · exact w₃.nl (by rw [e]; exact List.mem_cons_self)
      · exact up al (Nat.lt_trans hal sz) (fun q => w₃.nl (List.mem_cons_of_mem _ q)) hm
    have q₃₄ : Reach [it, al, env.locals] ρ₃ h₃ ρ₄ h₄ := by
      refine ⟨?_, fun b o e hn' => ?_, Nat.le_trans (Nat.le_of_lt sz) q₄.size⟩
      · obtain ⟨new, e, hf'⟩ := q₄.grow
        exact ⟨new, e, fun a ha => Nat.le_trans (Nat.le_of_lt sz) (hf' a ha)⟩
      · refine q₄.keep b o (Heap.get?_push_of_some _ e) fun hm => ?_
        rcases List.mem_cons.mp hm with e' | hm
        · exact absurd (Heap.lt_size e) (by rw [e']; exact Nat.lt_irrefl _)
        · exact hn' (List.mem_cons_of_mem _ hm)
    exact go env A ρ₄ { s with heap := h₄, toks := tk₄ } it al vs₄ R rm i₄ w₄ fun h' tk' ρ' vs'' q' => hR h' tk' ρ' vs'' (((q₂.trans (q₃.more (by simp))).trans q₃₄).trans q')

/-! ### the whole of it -/

noncomputable def relF (scope : Scope) (fd : FD) : Scope :=
  { scope with names := scope.names.map fun (n, k) => if (k == .free && fd.scope.kind == .function && fd.scope.names.lookup n == some .cell) then (n, .cell) else (n, k) }
theorem rel_of {scope : Scope} {env : Env} (h : env.scope = fd.scope) : relabel scope env = relF scope fd := by
  unfold relabel relF Env.kindOf; rw [h]

noncomputable def subCells (cells : List (Str × Nat)) : List (Str × NameKind) → List (Str × Nat)
  | [] => []
  | (x, k) :: r => if k == .free then (match cells.lookup x with | some i => (x, i) :: subCells cells r | none => subCells cells r) else subCells cells r

noncomputable def FD.sub (fd : FD) (scope : Scope) : FD := ⟨relF scope fd, subCells fd.cells scope.names, Option.none⟩

noncomputable def clOf (cells : List (Str × Addr)) : List (Str × NameKind) → List (Str × Addr) → List (Str × Addr)
  | [], acc => acc
  | (x, k) :: r, acc => if k == .free then (match cells.lookup x with | some a => clOf cells r ((x, a) :: acc) | none => clOf cells r acc) else clOf cells r acc

theorem closure_eq {scope : Scope} {env : Env} (h : ∀ x ∈ scope.names, x.2 = .free → (env.cells.lookup x.1).isSome = true) : closureFor scope env = Pure.pure (clOf env.cells scope.names []) := by
  have key : ∀ (names : List (Str × NameKind)) (acc : List (Str × Addr)), (∀ x ∈ names, x.2 = .free → (env.cells.lookup x.1).isSome = true) →
      (forIn names acc fun x (r : List (Str × Addr)) => (if x.2 == .free then do let a ← cellOf env x.1; pure (ForInStep.yield ((x.1, a) :: r)) else pure (ForInStep.yield r) : Sem (ForInStep (List (Str × Addr))))) = Pure.pure (clOf env.cells names acc) := by
    intro names
    induction names with
    | nil => intro acc _; rfl
    | cons q r ih =>
      intro acc hq
      obtain ⟨x, k⟩ := q
      have hr : ∀ y ∈ r, y.2 = .free → (env.cells.lookup y.1).isSome = true := fun y hy => hq y (List.mem_cons_of_mem _ hy)
      rw [List.forIn_cons]
      unfold clOf
      cases hk : k == NameKind.free with
      | false => simp only [hk, Bool.false_eq_true, if_false, pure_bind]; exact ih acc hr
      | true =>
        have hs := hq (x, k) List.mem_cons_self (beq_iff_eq.mp hk)
        obtain ⟨a, ha⟩ := Option.isSome_iff_exists.mp hs
        simp only [hk, if_true, cellOf, ha, pure_bind]
        exact ih _ hr
  have := key scope.names [] h
  unfold closureFor
  refine Eq.trans ?_ this
  refine Eq.trans (bind_pure _) ?_
  congr 1
end
end Mine
end

section
open PySem PySem.W PyProof.Rows
set_option linter.unusedVariables false
namespace Mine

theorem nlt {a b : Nat} (h : a < b) : a < b := h
theorem nle {a b : Nat} (h : a ≤ b) : a ≤ b := h
theorem neq {a b : Nat} (h : a = b) : a = b := h
section
variable {c : Cx} {n : Nat} {fd : FD} {σ σ₁ σ₂ σ₃ σ₄ : S} {X : List Addr} {A : Around} {ρ : List Pl} {s : Shared} {os : List AO} {E : Value → Shared → Prop}

theorem clOf_mem {cells : List (Str × Addr)} : ∀ {names : List (Str × NameKind)} {acc : List (Str × Addr)}, (∀ q ∈ acc, cells.lookup q.1 = some q.2) → ∀ q ∈ clOf cells names acc, cells.lookup q.1 = some q.2
  | [], _, h => h
  | (x, k) :: r, acc, h => by
    unfold clOf
    split
    · split
      · rename_i a ha
        exact clOf_mem fun q hq => by
          rcases List.mem_cons.mp hq with rfl | hq
          · exact ha
          · exact h q hq
      · exact clOf_mem h
    · exact clOf_mem h
theorem clOf_some {cells : List (Str × Addr)} {y : Str} : ∀ {names : List (Str × NameKind)} {acc : List (Str × Addr)}, ((acc.lookup y).isSome = true ∨ ((y, NameKind.free) ∈ names ∧ (cells.lookup y).isSome = true)) → ((clOf cells names acc).lookup y).isSome = true
  | [], _, h => by
    rcases h with h | ⟨h, _⟩
    · exact h
    · cases h
  | (x, k) :: r, acc, h => by
    unfold clOf
    by_cases hk : (k == NameKind.free) = true
    · rw [if_pos hk]
      cases hc : cells.lookup x with
      | none =>
        refine clOf_some ?_
        rcases h with h | ⟨h, h2⟩
        · exact .inl h
        · rcases List.mem_cons.mp h with e | h
          · cases e; rw [hc] at h2; cases h2
          · exact .inr ⟨h, h2⟩
      | some a =>
        refine clOf_some ?_
        rw [List.lookup_cons]
        cases hy : y == x with
        | true => exact .inl rfl
        | false =>
          rcases h with h | ⟨h, h2⟩
          · exact .inl h
          · rcases List.mem_cons.mp h with e | h
            · cases e; simp at hy
            · exact .inr ⟨h, h2⟩
    · rw [if_neg hk]
      refine clOf_some ?_
      rcases h with h | ⟨h, h2⟩
      · exact .inl h
      · rcases List.mem_cons.mp h with e | h
        · cases e; simp at hk
        · exact .inr ⟨h, h2⟩
theorem mem_of_lookup' {α : Type} {l : List (Str × α)} {y : Str} {a : α} (h : l.lookup y = some a) : (y, a) ∈ l := PySem.mem_of_lookup h

theorem subCells_free {cells : List (Str × Nat)} {y : Str} {i : Nat} : ∀ {names : List (Str × NameKind)}, (subCells cells names).lookup y = some i → (y, NameKind.free) ∈ names ∧ cells.lookup y = some i
  | [], h => by cases h
  | (x, k) :: r, h => by
    unfold subCells at h
    by_cases hk : (k == NameKind.free) = true
    · rw [if_pos hk] at h
      cases hc : cells.lookup x with
      | none =>
        rw [hc] at h
        obtain ⟨h1, h2⟩ := subCells_free h
        exact ⟨List.mem_cons_of_mem _ h1, h2⟩
      | some j =>
        rw [hc] at h
        dsimp only at h
        rw [List.lookup_cons] at h
        cases hy : y == x with
        | true =>
          rw [hy] at h; cases h
          have := beq_iff_eq.mp hy; subst this
          have := beq_iff_eq.mp hk; subst this
          exact ⟨List.mem_cons_self, hc⟩
        | false =>
          rw [hy] at h
          obtain ⟨h1, h2⟩ := subCells_free h
          exact ⟨List.mem_cons_of_mem _ h1, h2⟩
    · rw [if_neg hk] at h
      obtain ⟨h1, h2⟩ := subCells_free h
      exact ⟨List.mem_cons_of_mem _ h1, h2⟩

/-- what a comprehension's block must be -/
structure CompOk (fd : FD) (scope : Scope) : Prop where
  kind : scope.kind = .function
  names : ∀ x ∈ scope.names, x.2 = .local → scope.names.lookup x.1 = some .local
  cell : ∀ x ∈ scope.names, x.2 ≠ .cell
  free : ∀ x ∈ scope.names, x.2 = .free → (fd.cells.lookup x.1).isSome = true

theorem CompOk.env {scope : Scope} (k : CompOk fd scope) {env : Env} {vs : List (Str × AV)} {h : Heap} (f : Fre fd vs env ρ h) : ∀ x ∈ scope.names, x.2 = .free → (env.cells.lookup x.1).isSome = true := fun x hx e => by
  obtain ⟨i, hi⟩ := Option.isSome_iff_exists.mp (k.free x hx e)
  obtain ⟨p, _, hp⟩ := f.cells x.1 i hi
  rw [hp]; rfl

/-- the block's own frame -/
theorem CompOk.fre {scope : Scope} (k : CompOk fd scope) {env : Env} {vs : List (Str × AV)} {h h' : Heap} {L : Addr} {m : Str → Option Value} (f : Fre fd vs env ρ h) (hn : h'.Ns L m) :
    Fre (fd.sub scope) [] { newEnv scope L env.globals (clOf env.cells scope.names []) env.qual Option.none Value.none (some env) builtinsNs with scope := relabel scope env } ρ h' := by
  refine ⟨rel_of f.scope, f.glob, f.blt, (fun _ e => by cases e), fun x i e => ?_, m, hn, fun x v e => by cases e⟩
  obtain ⟨h1, h2⟩ := subCells_free e
  obtain ⟨p, hp, hc⟩ := f.cells x i h2
  refine ⟨p, hp, ?_⟩
  have hs : ((clOf env.cells scope.names []).lookup x).isSome = true := clOf_some (.inr ⟨h1, by rw [hc]; rfl⟩)
  obtain ⟨a, ha⟩ := Option.isSome_iff_exists.mp hs
  have := clOf_mem (cells := env.cells) (acc := []) (fun q hq => by cases hq) (x, a) (mem_of_lookup' ha)
  dsimp only at this
  rw [hc] at this; cases this
  exact ha

/-- the state when the block has run, ahead of its names' end -/
structure CompEnd (c : Cx) (fd : FD) (vs : List (Str × AV)) (os : List AO) (acc : List AV) (env : Env) (ρ : List Pl) (h : Heap) (al C : Addr) (ρ' : List Pl) (h' : Heap) : Prop where
  i : In c fd ⟨vs, os ++ [.list acc]⟩ env ρ' h'
  v : VR ρ' (.ref os.length) (.ref al)
  q : Reach [env.locals] ρ h ρ' h'
  ns : ∃ m, h'.Ns C m
  nC : C ∉ env.locals :: foot ρ'
  bC : c.hb.get? C = none
  up : h.objs.size ≤ C

theorem comp_core {elt : Expr} {gens : List Comprehension} {scope : Scope} {pos : Pos} {x : Str} {px : Pos} {iter : Expr} {ifs : List Expr} {a : AV} {src : Src} {acc : List AV} {env : Env} {v : Value} {Q : Value → Addr → Result → Shared → Prop} (k : CompOk fd scope) (hg : gens[0]? = some ⟨.Name x px, iter, ifs, 0⟩)
    (rm : Room A n) (i : In c fd σ env ρ s.heap) (hv : VR ρ a v) (hi : Itr σ.os a src) (h2 : Cp c n (fd.sub scope) elt gens scope pos 0 src 0 ⟨[], σ.os⟩ [] σ₂ acc)
    (hQ : ∀ al C ρ' h' tk', CompEnd c fd σ.vs σ₂.os acc env ρ s.heap al C ρ' h' → Q (.ref al) C (.ok .next) { s with heap := h', toks := tk' }) :
    wpAny c.M A (pyIter v) (fun it s₂ => wpAny c.M A (newList []) (fun acc s₃ => wpAny c.M A (newFunctionEnv scope env.globals (clOf env.cells scope.names []) [] env.qual Option.none Value.none (some env)) (fun cenv s₄ =>
      codeAny c.M A (.compStart (.ListComp elt gens scope pos) 0 it acc { cenv with scope := relabel scope env }) (Q acc cenv.locals) s₄) E s₃) E s₂) E s := by
  refine iter_run hi i.rel hv fun ob hit => ?_
  refine wpAny_newObj_type ?_ (by size_fits)
  refine wpAny_newFunctionEnv k.cell (by intro y hy; cases hy) (fun h₁ hns hsb => ?_) k.kind
  dsimp only at hns hsb hit ⊢
  generalize hH1 : s.heap.push ob = H1 at hit hns hsb ⊢
  generalize hH2 : H1.push { cls := .type "list", dict := Option.none, data := .seq ([] : List Value).toArray } = H2 at hns hsb ⊢
  have z1 : H1.objs.size = s.heap.objs.size + 1 := by rw [← hH1, Heap.size_push]
  have z2 : H2.objs.size = H1.objs.size + 1 := by rw [← hH2, Heap.size_push]
  have z3 : h₁.objs.size = H2.objs.size + 1 := by rw [hsb.1, Heap.size_push]
  have keep1 : Keeps s.heap H1 := fun b o e => by rw [← hH1]; exact Heap.get?_push_of_some _ e
  have keep2 : Keeps H1 h₁ := fun b o e => by
    refine hsb.extBut b o (fun q => ?_) (Heap.get?_push_of_some _ (by rw [← hH2]; exact Heap.get?_push_of_some _ e))
    have := nlt (Heap.lt_size e); have q := neq q; omega
  have keep : Keeps s.heap h₁ := fun b o e => keep2 b o (keep1 b o e)
  have hbl : ∀ b, s.heap.objs.size ≤ b → c.hb.get? b = none := fun b hb => by
    cases e : c.hb.get? b with
    | none => rfl
    | some o => exact absurd (Heap.lt_size (i.rel.keep _ _ e)) (Nat.not_lt.mpr hb)
  have live : ∀ b : Nat, b ∈ env.locals :: foot ρ → b < s.heap.objs.size := i.rel.live
  have rO : Rel c [env.locals] σ.os ρ h₁ := i.rel.keeps keep (by omega)
  have rC : Rel c [H2.objs.size] σ.os ρ h₁ := by
    refine ⟨rO.objs, List.nodup_cons.mpr ⟨fun hm => ?_, (List.nodup_cons.mp rO.nodup).2⟩, rO.keep, fun b hb => ?_, fun b hb => ?_⟩
    · have := live _ (List.mem_cons_of_mem _ hm); omega
    · rcases List.mem_cons.mp hb with rfl | hb
      · exact hbl _ (by omega)
      · exact rO.fresh b (List.mem_cons_of_mem _ hb)
    · rcases List.mem_cons.mp hb with rfl | hb
      · refine nlt ?_; omega
      · exact rO.live b (List.mem_cons_of_mem _ hb)
  have iC : In c (fd.sub scope) ⟨[], σ.os⟩ { newEnv scope H2.objs.size env.globals (clOf env.cells scope.names []) env.qual Option.none Value.none (some env) builtinsNs with scope := relabel scope env } ρ h₁ :=
    ⟨rC, k.fre i.fre hns⟩
  have hit' : ItAt src 0 s.heap.objs.size ρ h₁ := by
    refine hit.keep (Reach.keeps [] ρ keep2 (by omega)) fun hm => ?_
    have := live _ (List.mem_cons_of_mem _ hm); omega
  have hl : LL h₁ H1.objs.size ([] : List Value).toArray := by
    refine ⟨0, hsb.extBut _ _ (by intro q; have q := neq q; omega) (Heap.get?_push_of_some _ (by rw [← hH2]; exact Heap.get?_push_size _ rfl))⟩
  have w : Hid c { newEnv scope H2.objs.size env.globals (clOf env.cells scope.names []) env.qual Option.none Value.none (some env) builtinsNs with scope := relabel scope env } ρ h₁ s.heap.objs.size H1.objs.size src 0 [] [] := by
    refine ⟨hit', fun hm => ?_, hbl _ (Nat.le_refl _), trivial, hl, fun hm => ?_, hbl _ (by omega)⟩
    · rcases List.mem_cons.mp hm with e | hm
      · have e := neq e; dsimp only [newEnv] at e; omega
      · have := live _ (List.mem_cons_of_mem _ hm); omega
    · rcases List.mem_cons.mp hm with e | hm
      · have e := neq e; omega
      rcases List.mem_cons.mp hm with e | hm
      · have e := neq e; dsimp only [newEnv] at e; omega
      · have := live _ (List.mem_cons_of_mem _ hm); omega
  refine comp_start (s := { s with heap := h₁, toks := _ }) hg hit' (h2 _ A ρ _ _ _ [] _ rm iC w fun h' tk' ρ' vs' q' i' hv' hl' => ?_)
  obtain ⟨new, rfl, hnew⟩ := q'.grow
  have hnew' : ∀ b : Nat, b ∈ foot new → H2.objs.size < b := fun b hb => by have := nle (hnew b hb); dsimp only at this; omega
  have eL : env.locals ∉ foot (ρ ++ new) := fun hm => by
    rw [foot_append] at hm
    rcases List.mem_append.mp hm with hm | hm
    · exact i.notFoot hm
    · have h1 := hnew' _ hm; have h2 := live _ List.mem_cons_self; omega
  have aF : H1.objs.size ∉ env.locals :: foot (ρ ++ new) := fun hm => by
    rcases List.mem_cons.mp hm with e | hm
    · have := live _ List.mem_cons_self; have e := neq e; omega
    rw [foot_append] at hm
    rcases List.mem_append.mp hm with hm | hm
    · have := live _ (List.mem_cons_of_mem _ hm); omega
    · have := hnew' _ hm; omega
  have len : σ₂.os.length = (ρ ++ new).length := i'.rel.objs.length
  have ff : foot ((ρ ++ new) ++ [⟨H1.objs.size, []⟩]) = foot (ρ ++ new) ++ [H1.objs.size] := by rw [foot_append]; rfl
  have hlive : H1.objs.size < h'.objs.size := hl'.lt
  have notIn : ∀ b : Nat, b < s.heap.objs.size → b ∉ foot ρ → b ∉ [s.heap.objs.size, H1.objs.size, H2.objs.size] ++ foot ρ := fun b hb hn hm => by
    rcases List.mem_cons.mp hm with e | hm
    · have e := neq e; omega
    rcases List.mem_cons.mp hm with e | hm
    · have e := neq e; omega
    rcases List.mem_cons.mp hm with e | hm
    · have e := neq e; omega
    · exact hn hm
  have up : ∀ b o, s.heap.get? b = some o → b ∉ foot ρ → h'.get? b = some o := fun b o e hn => q'.keep b o (keep b o e) (notIn b (Heap.lt_size e) hn)
  have own : ∀ b : Nat, b ∈ env.locals :: foot ((ρ ++ new) ++ [⟨H1.objs.size, []⟩]) → b = env.locals ∨ b ∈ foot (ρ ++ new) ∨ b = H1.objs.size := fun b hb => by
    rw [ff] at hb
    rcases List.mem_cons.mp hb with e | hb
    · exact .inl e
    · rcases List.mem_append.mp hb with hb | hb
      · exact .inr (.inl hb)
      · exact .inr (.inr (List.mem_singleton.mp hb))
  have hh1 : h₁.objs.size ≤ h'.objs.size := q'.size
  refine hQ H1.objs.size H2.objs.size ((ρ ++ new) ++ [⟨H1.objs.size, []⟩]) h' tk' ?_
  have eLlt := live _ List.mem_cons_self
  refine ⟨⟨⟨?_, ?_, i'.rel.keep, fun b hb => ?_, fun b hb => ?_⟩, ?_⟩, ⟨⟨H1.objs.size, []⟩, by rw [len]; simp, rfl⟩, ⟨⟨new ++ [⟨H1.objs.size, []⟩], by simp, fun b hb => ?_⟩, fun b o e hn => ?_, ?_⟩, ?_, fun hm => ?_, hbl _ (by omega), by omega⟩
  · exact (i'.rel.objs.mono [⟨H1.objs.size, []⟩]).append ⟨⟨rfl, vs', hv'.mono _, hl'⟩, trivial⟩
  · rw [ff, ← List.append_assoc]
    refine List.nodup_append.mpr ⟨List.nodup_cons.mpr ⟨eL, (List.nodup_cons.mp i'.rel.nodup).2⟩, by simp, fun b hb b' hb' e => ?_⟩
    simp at hb'; subst hb'; subst e
    exact aF hb
  · rcases own b hb with rfl | hb | rfl
    · exact i.rel.fresh _ List.mem_cons_self
    · exact i'.rel.fresh b (List.mem_cons_of_mem _ hb)
    · exact hbl _ (by omega)
  · rcases own b hb with rfl | hb | rfl
    · refine nlt ?_; omega
    · exact i'.rel.live b (List.mem_cons_of_mem _ hb)
    · exact hlive
  · have f := i.fre
    refine ⟨f.scope, f.glob, f.blt, f.cq, fun y j e => ?_, ?_⟩
    · obtain ⟨p, hp, hc⟩ := f.cells y j e
      exact ⟨p, getElem?_mono (getElem?_mono hp), hc⟩
    · obtain ⟨m, ⟨o, es, ep, ho, r⟩, hm⟩ := f.ns
      refine ⟨m, ⟨o, es, ep, up _ _ ho i.notFoot, r⟩, fun y u e => ?_⟩
      obtain ⟨u', h1, h2⟩ := hm y u e
      exact ⟨u', h1, (h2.mono new).mono _⟩
  · rw [foot_append] at hb
    rcases List.mem_append.mp hb with hb | hb
    · have := hnew' b hb; omega
    · simp [foot] at hb; subst hb; omega
  · exact up b o e fun hm => hn (List.mem_cons_of_mem _ hm)
  · omega
  · exact let ⟨m, hm, _⟩ := i'.fre.ns; ⟨m, hm⟩
  · rcases own _ hm with e | hm | e
    · omega
    · have := (List.nodup_cons.mp i'.rel.nodup).1
      exact this hm
    · omega

theorem Reach.but {X : List Addr} {ρ ρ' : List Pl} {h h' h'' : Heap} {C : Addr} (q : Reach X ρ h ρ' h') (hC : h.objs.size ≤ C) (hs : Heap.SameBut C h' h'') : Reach X ρ h ρ' h'' :=
  ⟨q.grow, fun b o e hn => (hs.2 b (fun e' => absurd (Heap.lt_size e) (by rw [e']; exact Nat.not_lt.mpr hC))).trans (q.keep b o e hn), by rw [hs.1]; exact q.size⟩

theorem Ev.comp {elt : Expr} {gens : List Comprehension} {scope : Scope} {pos : Pos} {x : Str} {px : Pos} {iter : Expr} {ifs : List Expr} {a : AV} {src : Src} {acc : List AV} (h1 : Ev c n fd iter σ a σ₁) (hi : Itr σ₁.os a src) (h2 : Cp c n (fd.sub scope) elt gens scope pos 0 src 0 ⟨[], σ₁.os⟩ [] σ₂ acc)
    (hg : ∃ r, gens = ⟨.Name x px, iter, ifs, 0⟩ :: r) (k : CompOk fd scope) (hs : ∀ env v, foldedSetIterable iter env v = Pure.pure v := by intro _ _; rfl) :
    Ev c n fd (.ListComp elt gens scope pos) σ (.ref σ₂.os.length) ⟨σ₁.vs, σ₂.os ++ [.list acc]⟩ := fun env A ρ s rm i => by
  obtain ⟨r, rfl⟩ := hg
  intro Q E hq
  rw [eval_ListComp]
  refine wpAny_comprehension_free (use := Option.none) (g := ⟨.Name x px, iter, ifs, 0⟩) (gs := r) rfl (hs env) (closure_eq (k.env i.fre)) k.kind k.names ?_
  refine h1 env A ρ s rm i _ _ fun v h₁ tk₁ ρ₁ q₁ p₁ => ?_
  refine comp_core (s := { s with heap := h₁, toks := tk₁ }) (σ := σ₁) (Q := fun acc C r s' => compPost c.M A E Option.none Q acc C r s') k rfl rm p₁.1 p₁.2 hi h2 fun al C ρ' h' tk' e => ?_
  obtain ⟨m, hm⟩ := e.ns
  exact ⟨m, hm, fun h'' hs'' => hq _ h'' tk' ρ' (q₁.trans (e.q.but e.up hs'')) ⟨e.i.iter e.nC e.bC hs''.extBut (Nat.le_of_eq hs''.1.symm), e.v⟩⟩

/-- x = [..]: the name's store comes ahead of the block's names' end -/
theorem Ex.assignComp {y : Str} {py ps : Pos} {elt : Expr} {gens : List Comprehension} {scope : Scope} {pos : Pos} {x : Str} {px : Pos} {iter : Expr} {ifs : List Expr} {a : AV} {src : Src} {acc : List AV} (h1 : Ev c n fd iter σ a σ₁) (hi : Itr σ₁.os a src) (h2 : Cp c n (fd.sub scope) elt gens scope pos 0 src 0 ⟨[], σ₁.os⟩ [] σ₂ acc)
    (hst : Sto fd y (.ref σ₂.os.length) ⟨σ₁.vs, σ₂.os ++ [.list acc]⟩ σ₃)
    (hg : ∃ r, gens = ⟨.Name x px, iter, ifs, 0⟩ :: r) (k : CompOk fd scope) (hw : ∀ env, env.scope = fd.scope → swapsWith (.ListComp elt gens scope pos) (some (.Name y py)) ps.line env = Pure.pure true) (hk : fd.scope.kind = .function := by rfl) (hs : ∀ env v, foldedSetIterable iter env v = Pure.pure v := by intro _ _; rfl) :
    Ex c n fd (.Assign [.Name y py] (.ListComp elt gens scope pos) ps) σ .next σ₃ := fun env A ρ s rm i => by
  obtain ⟨r, rfl⟩ := hg
  intro Q E hq
  rw [exec_Assign_Name_used y py _ ps (hw env i.fre.scope)]
  refine wpAny_bind (wpAny_standAt (wpAny_bind ?_))
  show wpAny c.M A (comprehension (.ListComp elt (⟨.Name x px, iter, ifs, 0⟩ :: r) scope pos) scope env (firstIterPos (⟨.Name x px, iter, ifs, 0⟩ :: r) pos) (newList []) false (eval iter env) (some (PySem.assign (.Name y py) env)) >>= fun _ => pure ()) _ _ _
  refine wpAny_bind (wpAny_comprehension_free (use := some (PySem.assign (.Name y py) env)) (g := ⟨.Name x px, iter, ifs, 0⟩) (gs := r) rfl (hs env) (closure_eq (k.env i.fre)) k.kind k.names ?_)
  refine h1 env A ρ s rm i _ _ fun v h₁ tk₁ ρ₁ q₁ p₁ => ?_
  refine comp_core (s := { s with heap := h₁, toks := tk₁ }) (σ := σ₁) (Q := fun acc C r s' => compPost c.M A E (some (PySem.assign (.Name y py) env)) _ acc C r s') k rfl rm p₁.1 p₁.2 hi h2 fun al C ρ' h' tk' e => ?_
  refine wpAny_assign_Name (hst.run (s := { s with heap := h', toks := tk' }) e.i e.v hk _ _ fun _ h₂ tk₂ ρ₂ q₂ i₂ => ?_)
  obtain ⟨m, o, es, ep, ho, rm'⟩ := e.ns
  have hC := Heap.lt_size ho
  have nC₂ : C ∉ env.locals :: foot ρ₂ := fun hm => by
    rcases List.mem_cons.mp hm with e' | hm
    · exact e.nC (by rw [e']; exact List.mem_cons_self)
    · exact fresh_not q₂ hC (fun z => e.nC (List.mem_cons_of_mem _ z)) hm
  refine ⟨m, ⟨o, es, ep, q₂.keep _ _ ho e.nC, rm'⟩, fun h'' hs'' => wpAny_pure (wpAny_pure ?_)⟩
  exact hq _ h'' tk₂ ρ₂ (q₁.trans ((e.q.trans q₂).but e.up hs'')) ⟨i₂.iter nC₂ e.bC hs''.extBut (Nat.le_of_eq hs''.1.symm), rfl⟩
end
end Mine
end

section
open PySem PySem.W PyProof.Rows
set_option linter.unusedVariables false
namespace Mine

section
variable {c : Cx} {n : Nat} {fd : FD} {σ σ₁ σ₂ σ₃ σ₄ : S} {X : List Addr} {A : Around} {ρ : List Pl} {s : Shared} {os : List AO} {E : Value → Shared → Prop}

/-! ### displays -/
theorem Ev.list {es : List Expr} {pos : Pos} {vs : List AV} (h : Evs c n fd es σ vs σ₁) (hz : vs.length ≤ sizeLine) : Ev c n fd (.List es pos) σ (.ref σ₁.os.length) ⟨σ₁.vs, σ₁.os ++ [.list vs]⟩ := fun env A ρ s rm i => by
  rw [arm_eval_List]
  refine Run.stand (Run.bind (h pos env A ρ s rm i) fun xs h₁ tk₁ ρ₁ q₁ p₁ => p₁.1.op ?_)
  intro Q E hq
  refine wpAny_newObj_type (hq _ _ tk₁ _ (Reach.alloc ρ₁ h₁ _) ⟨p₁.1.rel.none.newList p₁.2, VR.new p₁.1.rel.none⟩) ?_
  show xs.toArray.size ≤ sizeLine
  rw [List.size_toArray, ← p₁.2.length]; exact hz
theorem Ev.tup {es : List Expr} {k : Nat} {pos : Pos} {vs : List AV} (h : Evs c n fd es σ vs σ₁) (hz : vs.length ≤ sizeLine) : Ev c n fd (.Tuple es k pos) σ (.ref σ₁.os.length) ⟨σ₁.vs, σ₁.os ++ [.tup vs]⟩ := fun env A ρ s rm i => by
  rw [arm_eval_Tuple]
  refine Run.stand (Run.bind (h pos env A ρ s rm i) fun xs h₁ tk₁ ρ₁ q₁ p₁ => p₁.1.op ?_)
  intro Q E hq
  refine wpAny_newObj_type (hq _ _ tk₁ _ (Reach.alloc ρ₁ h₁ _) ⟨p₁.1.rel.none.newTup p₁.2, VR.new p₁.1.rel.none⟩) ?_
  show xs.toArray.size ≤ sizeLine
  rw [List.size_toArray, ← p₁.2.length]; exact hz

/-! ### items -/
/-- a value's type, its items read by a built-in -/
inductive Sq (os : List AO) : AV → Prop
  | str {x : Str} : Sq os (.str x)
  | list {i : Nat} {xs : List AV} (h : os[i]? = some (.list xs)) : Sq os (.ref i)
  | tup {i : Nat} {xs : List AV} (h : os[i]? = some (.tup xs)) : Sq os (.ref i)


theorem Sq.gip {a : AV} {x : Value} (h : Sq os a) (r : Rel c X os ρ s.heap) (hv : VR ρ a x) {Q : Bool → Shared → Prop} (hq : Q false s) : wpAny c.M A (getitemInPython x) Q E s := by
  have core : ∀ {T id : String}, s.TypeIs x T → typeLookup (.type T) "__getitem__" = Pure.pure (some (.builtin id)) → wpAny c.M A (getitemInPython x) Q E s := fun hT hl => by
    rw [getitemInPython_of_ne hT.not_modules]
    exact wpAny_bind (wpAny_specialOf hT hl (wpAny_pure hq))
  cases h with
  | str => obtain ⟨t, rfl⟩ := hv; exact core (typeIs_str s _ t) F.slot_str_getitem.lookup
  | list ho => obtain ⟨p, vs, hp, _, rfl, hvs, hpl⟩ := r.list ho hv; exact core hpl.isList.typeIs slot_list_getitem.lookup
  | tup ho => obtain ⟨p, vs, hp, _, rfl, hvs, hpl⟩ := r.tup ho hv; exact core (T := "tuple") hpl.isTup.typeIs F.slot_tuple_getitem.lookup

theorem Ev.sub {value slice : Expr} {pos : Pos} {a b v : AV} {os : List AO} (h1 : Ev c n fd value σ a σ₁) (h2 : Ev c n fd slice σ₁ b σ₂) (hs : Sq σ₂.os a) (h3 : Op2 c n getItem a b σ₂.os v os)
    (hsub : ∀ o i, subscripted slice false o i = operate [o, i] (getItem o i) := by intro _ _; rfl) : Ev c n fd (.Subscript value slice pos) σ v ⟨σ₂.vs, os⟩ := fun env A ρ s rm i => by
  rw [eval_Subscript]
  refine Run.bind (h1 env A ρ s rm i) fun x h₁ tk₁ ρ₁ q₁ p₁ => ?_
  refine Run.bind (Run.holding (h2 env A ρ₁ _ rm p₁.1)) fun y h₂ tk₂ ρ₂ q₂ p₂ => Run.stand ?_
  have ha := p₁.2.reach q₂
  refine Run.bind (P := fun ρ' h' z => (In c fd σ₂ env ρ' h' ∧ VR ρ' a x ∧ VR ρ' b y) ∧ z = false) (fun Q E hq => hs.gip p₂.1.rel ha (hq _ h₂ tk₂ ρ₂ (Reach.refl ..) ⟨⟨p₂.1, ha, p₂.2⟩, rfl⟩)) fun z h₃ tk₃ ρ₃ q₃ p₃ => ?_
  obtain ⟨⟨i₃, ha₃, hb₃⟩, rfl⟩ := p₃
  rw [hsub]
  refine Run.bind (Run.operate (i₃.op (h3 A ρ₃ _ x y rm i₃.rel.none ha₃ hb₃))) fun r h₄ tk₄ ρ₄ q₄ p₄ => ?_
  exact fun Q E hq => wpAny_bind (wpAny_letTemporaryGo (wpAny_pure (hq _ h₄ tk₄ ρ₄ (Reach.refl ..) p₄)))

theorem item_s {x : Str} {i : Int} {ch : Nat} {os : List AO} (hr : (decide (i < -(2 ^ 63 : Int)) || decide (i ≥ 2 ^ 63)) = false) (hc : (seqIndex? i x.length).bind (x.cps[·]?) = some ch) : Op2 c n getItem (.str x) (.int i) os (.str ⟨#[ch]⟩) os :=
  Op2.pure fun _ _ _ _ _ _ _ _ hx hy hq => by obtain ⟨t, rfl⟩ := hx; obtain ⟨u, rfl⟩ := hy; exact P.getItem_str hr hc (hq _ _ ⟨_, rfl⟩)
theorem item_l {i : Nat} {xs : List AV} {k : Int} {v : AV} {os : List AO} (ho : os[i]? = some (.list xs)) (h0 : 0 ≤ k) (hk : k < 2 ^ 63) (hv : xs[k.toNat]? = some v) : Op2 c n getItem (.ref i) (.int k) os v os := fun A ρ s x y rm r hx hy Q E hq => by
  obtain ⟨p, vs, hp, _, rfl, hvs, hpl⟩ := r.list ho hx
  obtain ⟨t, rfl⟩ := hy
  obtain ⟨z, hz, hvz⟩ := hvs.get hv
  exact wpAny_getItem_list hpl.isList h0 hk (by simpa using hz) (hq _ s.heap s.toks ρ (Reach.refl ..) ⟨r, hvz⟩)
theorem item_ln {i : Nat} {xs : List AV} {k : Int} {v : AV} {os : List AO} (ho : os[i]? = some (.list xs)) (h0 : k < 0) (h1 : -(xs.length : Int) ≤ k) (hk : -(2 ^ 63) ≤ k) (hv : xs[(k + xs.length).toNat]? = some v) : Op2 c n getItem (.ref i) (.int k) os v os := fun A ρ s x y rm r hx hy Q E hq => by
  obtain ⟨p, vs, hp, _, rfl, hvs, hpl⟩ := r.list ho hx
  obtain ⟨t, rfl⟩ := hy
  obtain ⟨z, hz, hvz⟩ := hvs.get hv
  have hlen := hvs.length
  exact wpAny_getItem_list_neg hpl.isList h0 (by simpa [← hlen] using h1) hk (by simpa [← hlen] using hz) (hq _ s.heap s.toks ρ (Reach.refl ..) ⟨r, hvz⟩)
theorem item_t {i : Nat} {xs : List AV} {k : Int} {j : Nat} {v : AV} {os : List AO} (ho : os[i]? = some (.tup xs)) (hlo : -(2 ^ 63) ≤ k) (hhi : k < 2 ^ 63) (hj : seqIndex? k xs.length = some j) (hv : xs[j]? = some v) : Op2 c n getItem (.ref i) (.int k) os v os := fun A ρ s x y rm r hx hy Q E hq => by
  obtain ⟨p, vs, hp, _, rfl, hvs, hpl⟩ := r.tup ho hx
  obtain ⟨t, rfl⟩ := hy
  obtain ⟨z, hz, hvz⟩ := hvs.get hv
  have hlen := hvs.length
  exact PyProof.Rows.getItem_tuple hpl.isTup hlo hhi (by simpa [← hlen] using hj) (by simpa using hz) (hq _ s.heap s.toks ρ (Reach.refl ..) ⟨r, hvz⟩)

/-! ### slices -/
noncomputable def PR : Option Int → Value → Prop
  | .none, v => v = .none
  | some i, v => ∃ t, v = .int i t
noncomputable def EvP (c : Cx) (n : Nat) (fd : FD) (e : Option Expr) (σ : S) (v : Option Int) (σ' : S) : Prop :=
  ∀ env A ρ s, Room A n → In c fd σ env ρ s.heap → Run c [env.locals] A ρ s (valueOrNone (evalOpt e env)) fun ρ' h' x => In c fd σ' env ρ' h' ∧ PR v x
theorem EvP.none : EvP c n fd .none σ .none σ := fun _ _ _ _ _ i => Run.pure ⟨i, rfl⟩
theorem EvP.some {e : Expr} {k : Int} (h : Ev c n fd e σ (.int k) σ₁) : EvP c n fd (some e) σ (some k) σ₁ := fun env A ρ s rm i => h env A ρ s rm i

noncomputable def SlOp (c : Cx) (n : Nat) (a : AV) (lo hi st : Option Int) (os : List AO) (v : AV) (os' : List AO) : Prop :=
  ∀ A ρ s x sl vl vu vst, Room A n → Rel c [] os ρ s.heap → VR ρ a x → s.heap.IsSliceOf sl vl vu vst → PR lo vl → PR hi vu → PR st vst → Run c [] A ρ s (getItem x (.ref sl)) fun ρ' h' y => Rel c [] os' ρ' h' ∧ VR ρ' v y

theorem Ev.slice {value : Expr} {lower upper step : Option Expr} {p pos : Pos} {a v : AV} {lo hi st : Option Int} {os : List AO} (h1 : Ev c n fd value σ a σ₁) (h2 : EvP c n fd lower σ₁ lo σ₂) (h3 : EvP c n fd upper σ₂ hi σ₃) (h4 : EvP c n fd step σ₃ st σ₄) (hs : Sq σ₄.os a) (h5 : SlOp c n a lo hi st σ₄.os v os) :
    Ev c n fd (.Subscript value (.Slice lower upper step p) pos) σ v ⟨σ₄.vs, os⟩ := fun env A ρ s rm i => by
  rw [eval_Subscript]
  refine Run.bind (h1 env A ρ s rm i) fun x h₁ tk₁ ρ₁ q₁ p₁ => ?_
  refine Run.bind (P := fun ρ' h' y => ∃ sl vl vu vst, y = .ref sl ∧ In c fd σ₄ env ρ' h' ∧ VR ρ' a x ∧ h'.IsSliceOf sl vl vu vst ∧ PR lo vl ∧ PR hi vu ∧ PR st vst) (Run.holding ?_) fun y h₂ tk₂ ρ₂ q₂ p₂ => Run.stand ?_
  · rw [arm_eval_Slice]
    refine Run.bind (h2 env A ρ₁ _ rm p₁.1) fun vl h₂ tk₂ ρ₂ q₂ p₂ => ?_
    refine Run.bind (Run.holding (h3 env A ρ₂ _ rm p₂.1)) fun vu h₃ tk₃ ρ₃ q₃ p₃ => ?_
    refine Run.bind (Run.holding (h4 env A ρ₃ _ rm p₃.1)) fun vst h₄ tk₄ ρ₄ q₄ p₄ => ?_
    intro Q E hq
    refine wpAny_newObj_type (hq _ _ tk₄ ρ₄ (Reach.waste _ ρ₄ h₄ _) ⟨h₄.objs.size, vl, vu, vst, rfl, p₄.1.lift (Reach.waste [] ρ₄ h₄ _) (p₄.1.rel.none.waste _), ((p₁.2.reach q₂).reach q₃).reach q₄, Heap.IsSliceOf.new h₄ vl vu vst, p₂.2, p₃.2, p₄.2⟩) (by size_fits)
  · obtain ⟨sl, vl, vu, vst, rfl, i₂, ha, hsl, hl, hu, ht⟩ := p₂
    refine Run.bind (P := fun ρ' h' z => (In c fd σ₄ env ρ' h' ∧ VR ρ' a x ∧ h'.IsSliceOf sl vl vu vst) ∧ z = false) (fun Q E hq => hs.gip i₂.rel ha (hq _ _ tk₂ ρ₂ (Reach.refl ..) ⟨⟨i₂, ha, hsl⟩, rfl⟩)) fun z h₃ tk₃ ρ₃ q₃ p₃ => ?_
    obtain ⟨⟨i₃, ha₃, hsl₃⟩, rfl⟩ := p₃
    have hsub : ∃ l, subscripted (.Slice lower upper step p) false x (.ref sl) = PySem.operate l (getItem x (.ref sl)) := by cases step <;> exact ⟨_, rfl⟩
    obtain ⟨l, hl'⟩ := hsub
    rw [hl']
    refine Run.bind (Run.operate (i₃.op (h5 A ρ₃ _ x sl vl vu vst rm i₃.rel.none ha₃ hsl₃ hl hu ht))) fun r h₄ tk₄ ρ₄ q₄ p₄ => ?_
    exact fun Q E hq => wpAny_bind (wpAny_letTemporaryGo (wpAny_pure (hq _ h₄ tk₄ ρ₄ (Reach.refl ..) p₄)))
end
end Mine
end

section
open PySem PySem.W PyProof.Rows
set_option linter.unusedVariables false
namespace Mine

section
variable {c : Cx} {n : Nat} {fd : FD} {σ σ₁ σ₂ σ₃ σ₄ : S} {X : List Addr} {A : Around} {ρ : List Pl} {s : Shared} {os : List AO} {E : Value → Shared → Prop}

theorem VRs.ints : ∀ {ns : List Int} {vs : List Value}, VRs ρ (ns.map .int) vs → IntsAre vs ns
  | [], [], _ => .nil
  | _ :: _, _ :: _, h => by obtain ⟨⟨t, rfl⟩, h⟩ := h; exact .cons _ t (VRs.ints h)
theorem VRs.strs : ∀ {ss : List Str} {vs : List Value}, VRs ρ (ss.map .str) vs → StrsAre vs ss
  | [], [], _ => .nil
  | _ :: _, _ :: _, h => by obtain ⟨⟨t, rfl⟩, h⟩ := h; exact .cons _ t (VRs.strs h)
theorem VRs.ofInts : ∀ {ns : List Int} {vs : List Value}, IntsAre vs ns → VRs ρ (ns.map .int) vs
  | _, _, .nil => trivial
  | _, _, .cons k t r => ⟨⟨t, rfl⟩, VRs.ofInts r⟩
theorem VRs.ofStrs : ∀ {ss : List Str} {vs : List Value}, StrsAre vs ss → VRs ρ (ss.map .str) vs
  | _, _, .nil => trivial
  | _, _, .cons k t r => ⟨⟨t, rfl⟩, VRs.ofStrs r⟩
theorem VRs.pairs : ∀ {ss : List Str} {vs : List Value}, VRs ρ (ss.map .str) vs → ∃ l : List (Str × Tok), vs = strValues l ∧ l.map (·.1) = ss
  | [], [], _ => ⟨[], rfl, rfl⟩
  | x :: _, _ :: _, h => by
    obtain ⟨⟨t, rfl⟩, h⟩ := h
    obtain ⟨l, h1, h2⟩ := VRs.pairs h
    exact ⟨(x, t) :: l, by rw [h1]; rfl, by rw [List.map_cons, h2]⟩

/-- an operation that makes things and keeps all that was -/
theorem Op.keeps {t : List Value → Sem Value} {as : List AV} {v : AV} {os : List AO}
    (h : ∀ (A : Around) (ρ : List Pl) (s : Shared) (xs : List Value) (Q : Value → Shared → Prop) (E : Value → Shared → Prop), Room A n → Rel c [] os ρ s.heap → VRs ρ as xs → (∀ z h' tk, Keeps s.heap h' → VR ρ v z → Q z { s with heap := h', toks := tk }) → wpAny c.M A (t xs) Q E s) :
    Op c n t as os v os := fun A ρ s xs rm r hx => Run.wp fun Q E hq => h A ρ s xs Q E rm r hx fun z h' tk k hz => hq z h' tk ρ fun sz => ⟨Reach.keeps [] ρ k sz, r.keeps k sz, hz⟩

/-! ### lists -/
theorem len_l {i : Nat} {xs : List AV} (ho : os[i]? = some (.list xs)) (hz : xs.length ≤ sizeLine) : CallR c n (.builtin "len") [.ref i] os (.int xs.length) os :=
  Op.keeps fun A ρ s vs Q E rm r hx hq => by
    match vs, hx with
    | [_], ⟨hv, _⟩ =>
      obtain ⟨p, vs, hp, _, rfl, hvs, hpl⟩ := r.list ho hv
      refine Calls.call_len_list hpl.isList ?_ (hq _ s.heap _ (fun _ _ e => e) ⟨s.toks + 1, ?_⟩)
      · rw [List.size_toArray, ← hvs.length]; rw [sizeLine_eq] at hz; omega
      · rw [List.size_toArray, ← hvs.length]
theorem tru_l {i : Nat} {xs : List AV} (ho : os[i]? = some (.list xs)) (hz : xs.length ≤ sizeLine) : Tru c n (.ref i) os (xs.length != 0) := fun A ρ s v rm r hv => Run.wp fun Q E hq => by
  obtain ⟨p, vs, hp, _, rfl, hvs, hpl⟩ := r.list ho hv
  refine wpAny_truthy_list hpl.isList (by rw [List.size_toArray, ← hvs.length]; rw [sizeLine_eq] at hz; omega) (hq _ s.heap _ ρ fun sz => ⟨Reach.refl .., r, ?_⟩)
  rw [hvs.length]; cases vs <;> rfl
theorem tru_t {i : Nat} {xs : List AV} (ho : os[i]? = some (.tup xs)) (hz : xs.length ≤ sizeLine) : Tru c n (.ref i) os (xs.length != 0) := fun A ρ s v rm r hv => Run.wp fun Q E hq => by
  obtain ⟨p, vs, hp, _, rfl, hvs, hpl⟩ := r.tup ho hv
  refine truthy_tuple hpl.isTup (by rw [List.size_toArray, ← hvs.length]; rw [sizeLine_eq] at hz; omega) (hq _ s.heap _ ρ fun sz => ⟨Reach.refl .., r, ?_⟩)
  rw [hvs.length]; cases vs <;> rfl
theorem sum_l {i : Nat} {ns : List Int} (ho : os[i]? = some (.list (ns.map .int))) : CallR c n (.builtin "sum") [.ref i] os (.int ns.sum) os :=
  Op.keeps fun A ρ s vs Q E rm r hx hq => by
    match vs, hx with
    | [_], ⟨hv, _⟩ =>
      obtain ⟨p, vs, hp, _, rfl, hvs, hpl⟩ := r.list ho hv
      have hi := hvs.ints
      obtain ⟨xs, e⟩ := hi.allInts.items
      have hl := hpl.isList
      rw [e] at hl
      refine sum_intListG rm.handled hl fun h' tk t' hk => hq _ h' tk hk ⟨t', ?_⟩
      have e1 : (numsOf (intItems xs).toList).sum = ns.sum := by rw [← e, ← hi.numsOf]
      rw [nums_intItems] at e1
      rw [preSum_eq, List.take_of_length_le (by simp), e1]
theorem ints_items {vs : List Value} {ns : List Int} {xs : Array (Int × Tok)} (hi : IntsAre vs ns) (e : vs.toArray = intItems xs) : ns = xs.toList.map (·.1) := by rw [← hi.numsOf, ← nums_intItems, ← e]
theorem max_l {i : Nat} {ns : List Int} {m : Int} (ho : os[i]? = some (.list (ns.map .int))) (h1 : m ∈ ns) (h2 : ∀ a ∈ ns, a ≤ m) : CallR c n (.builtin "max") [.ref i] os (.int m) os :=
  Op.keeps fun A ρ s vs Q E rm r hx hq => by
    match vs, hx with
    | [_], ⟨hv, _⟩ =>
      obtain ⟨p, vs, hp, _, rfl, hvs, hpl⟩ := r.list ho hv
      have hi := hvs.ints
      obtain ⟨xs, e⟩ := hi.allInts.items
      have hl := hpl.isList
      rw [e] at hl
      have hns := ints_items hi e
      have hsz : 0 < xs.size := by
        have h3 := List.length_pos_of_mem h1; rw [hns, List.length_map, Array.length_toList] at h3; exact h3
      refine max_intList rm.handled hl hsz fun v h' tk hv hk => ?_
      obtain ⟨t, rfl⟩ := intItems_at hv
      obtain ⟨g1, g2⟩ := argBest_gt (numAt xs) (xs.size - 1)
      refine hq _ h' tk hk ⟨t, ?_⟩
      congr 1
      have a1 : numAt xs (argBest (fun i j => decide (numAt xs i > numAt xs j)) (xs.size - 1)) ∈ ns := by
        rw [hns, numAt_eq]; exact getD_mem (by rw [List.length_map, Array.length_toList]; omega)
      have a2 := h2 _ a1
      have a3 : m ≤ numAt xs (argBest (fun i j => decide (numAt xs i > numAt xs j)) (xs.size - 1)) := by
        rw [hns] at h1
        obtain ⟨j, hj, rfl⟩ := mem_getD h1
        rw [List.length_map, Array.length_toList] at hj
        rw [← numAt_eq]; exact g2 j (by omega)
      omega
theorem min_l {i : Nat} {ns : List Int} {m : Int} (ho : os[i]? = some (.list (ns.map .int))) (h1 : m ∈ ns) (h2 : ∀ a ∈ ns, m ≤ a) : CallR c n (.builtin "min") [.ref i] os (.int m) os :=
  Op.keeps fun A ρ s vs Q E rm r hx hq => by
    match vs, hx with
    | [_], ⟨hv, _⟩ =>
      obtain ⟨p, vs, hp, _, rfl, hvs, hpl⟩ := r.list ho hv
      have hi := hvs.ints
      obtain ⟨xs, e⟩ := hi.allInts.items
      have hl := hpl.isList
      rw [e] at hl
      have hns := ints_items hi e
      have hsz : 0 < xs.size := by
        have h3 := List.length_pos_of_mem h1; rw [hns, List.length_map, Array.length_toList] at h3; exact h3
      refine min_intList rm.handled hl hsz fun v h' tk hv hk => ?_
      obtain ⟨t, rfl⟩ := intItems_at hv
      obtain ⟨g1, g2⟩ := argBest_lt (numAt xs) (xs.size - 1)
      refine hq _ h' tk hk ⟨t, ?_⟩
      congr 1
      have a1 : numAt xs (argBest (fun i j => decide (numAt xs i < numAt xs j)) (xs.size - 1)) ∈ ns := by
        rw [hns, numAt_eq]; exact getD_mem (by rw [List.length_map, Array.length_toList]; omega)
      have a2 := h2 _ a1
      have a3 : numAt xs (argBest (fun i j => decide (numAt xs i < numAt xs j)) (xs.size - 1)) ≤ m := by
        rw [hns] at h1
        obtain ⟨j, hj, rfl⟩ := mem_getD h1
        rw [List.length_map, Array.length_toList] at hj
        rw [← numAt_eq]; exact g2 j (by omega)
      omega
theorem strs_get {vs : List Value} {ss : List Str} (h : StrsAre vs ss) : ∀ {k : Nat} {v : Value}, vs[k]? = some v → ∃ z t, v = .str z t ∧ ss[k]? = some z := by
  induction h with
  | nil => intro k v e; simp at e
  | cons y t r ih =>
    intro k v e
    cases k with
    | zero => simp at e; subst e; exact ⟨y, t, rfl, rfl⟩
    | succ k => simp at e; simpa using ih e
noncomputable def isS (x : Str) : Value → Bool
  | .str z _ => decide (z = x)
  | _ => false
/-- the first place of a text in a list of texts -/
theorem index_l {i : Nat} {ss : List Str} {x : Str} {j : Nat} (ho : os[i]? = some (.list (ss.map .str))) (hj : ss[j]? = some x) (hno : ∀ k, k < j → ss[k]? ≠ some x) (hz : ss.length ≤ sizeLine) : CallR c n (.builtin "list.index") [.ref i, .str x] os (.int j) os :=
  Op.keeps fun A ρ s vs Q E rm r hx hq => by
    match vs, hx with
    | [_, _], ⟨hv, ⟨t, rfl⟩, _⟩ =>
      obtain ⟨p, vs, hp, _, rfl, hvs, ⟨k, hpl⟩⟩ := r.list ho hv
      have hS := hvs.strs
      have hlen : vs.length = ss.length := by have := hvs.length; simpa using this.symm
      have hjl : j < vs.length := by rw [hlen]; exact (List.getElem?_eq_some_iff.mp hj).1
      have get : ∀ m (hm : m < vs.toArray.size), isS x vs.toArray[m] = decide (ss[m]? = some x) := fun m hm => by
        have hm' : m < vs.length := by simpa using hm
        obtain ⟨z, t', e1, e2⟩ := strs_get hS (List.getElem?_eq_getElem hm')
        have : vs.toArray[m] = .str z t' := by rw [List.getElem_toArray]; exact e1
        rw [this, e2]; simp [isS]
      refine call_meets F.slot_list_index ⟨_, hpl, rfl⟩ F.entry_list_index (F.args_list_index_2 _ _) (MeetsSeq.list_index p.a vs.toArray k (.str x t) (isS x) (fun y hy => ?_) j (by simpa using hjl) (by rw [sizeLine_eq] at hz; omega) ?_ fun m hm hmj => ?_) ⟨hpl, hq _ s.heap _ (fun _ _ e => e) ⟨_, rfl⟩⟩
      · obtain ⟨m, hm, rfl⟩ := Array.mem_iff_getElem.mp hy
        have hm' : m < vs.length := by simpa using hm
        obtain ⟨z, t', e1, e2⟩ := strs_get hS (List.getElem?_eq_getElem hm')
        have : vs.toArray[m] = .str z t' := by rw [List.getElem_toArray]; exact e1
        rw [this]
        exact fun prog w A E s Q hQ => wpAny_eqBool_str hQ
      · rw [get]; exact decide_eq_true hj
      · rw [get]; exact decide_eq_false (hno m hmj)
theorem add_l {i j : Nat} {xs ys : List AV} (ho : os[i]? = some (.list xs)) (ho' : os[j]? = some (.list ys)) (hz : xs.length + ys.length ≤ sizeLine) : Op2 c n (binaryOp .Add) (.ref i) (.ref j) os (.ref os.length) (os ++ [.list (xs ++ ys)]) := fun A ρ s x y rm r hx hy Q E hq => by
  obtain ⟨p, vs, hp, _, rfl, hvs, ⟨k, hpl⟩⟩ := r.list ho hx
  obtain ⟨p', vs', hp', _, rfl, hvs', ⟨k', hpl'⟩⟩ := r.list ho' hy
  have e : vs.toArray ++ vs'.toArray = (vs ++ vs').toArray := by simp
  refine concat_meets ⟨_, hpl, rfl⟩ ⟨_, hpl', rfl⟩ noFill_list_add seq_list_add PySem.F.slot_list_add PySem.F.entry_list_add (PySem.F.args_list_add_2 _ _) (list_addW p.a p'.a vs.toArray vs'.toArray k k' .none .none #[] #[] (by simpa [← hvs.length, ← hvs'.length] using hz)) ⟨hpl, hpl', ?_⟩
  rw [e]
  exact hq _ _ s.toks _ (Reach.alloc ρ s.heap _) ⟨r.newList (hvs.append hvs'), VR.new r⟩
end
end Mine
end

section
open PySem PySem.W PyProof.Rows PyProof.V PySem.Spec PySem.SeqAt
set_option linter.unusedVariables false
namespace Mine

section
variable {c : Cx} {n : Nat} {fd : FD} {σ σ₁ σ₂ σ₃ σ₄ : S} {X : List Addr} {A : Around} {ρ : List Pl} {s : Shared} {os : List AO} {E : Value → Shared → Prop}

theorem Rel.new {h h' : Heap} {D : Addr} {o : AO} (r : Rel c X os ρ h) (k : Keeps h h') (sz : h.objs.size ≤ h'.objs.size) (hD : h.objs.size ≤ D) (hlt : D < h'.objs.size) (y : OR c (ρ ++ [⟨D, []⟩]) o ⟨D, []⟩ h') : Rel c X (os ++ [o]) (ρ ++ [⟨D, []⟩]) h' := by
  have r' := r.keeps k sz
  have ff : foot (ρ ++ [⟨D, []⟩]) = foot ρ ++ [D] := by rw [foot_append]; rfl
  have nb : c.hb.get? D = Option.none := by
    cases e : c.hb.get? D with
    | none => rfl
    | some o => exact absurd (Heap.lt_size (r.keep _ _ e)) (Nat.not_lt.mpr hD)
  refine ⟨(r'.objs.mono [⟨D, []⟩]).append ⟨y, trivial⟩, ?_, r'.keep, fun a ha => ?_, fun a ha => ?_⟩
  · rw [ff, ← List.append_assoc]
    refine List.nodup_append.mpr ⟨r.nodup, by simp, fun a ha b hb e => ?_⟩
    simp at hb; subst hb
    exact absurd (r.live a ha) (by rw [e]; exact Nat.not_lt.mpr hD)
  · rw [ff, ← List.append_assoc] at ha
    rcases List.mem_append.mp ha with ha | ha
    · exact r.fresh a ha
    · simp at ha; subst ha; exact nb
  · rw [ff, ← List.append_assoc] at ha
    rcases List.mem_append.mp ha with ha | ha
    · exact r'.live a ha
    · simp at ha; subst ha; exact hlt
theorem Reach.new {h h' : Heap} {D : Addr} (k : Keeps h h') (sz : h.objs.size ≤ h'.objs.size) (hD : h.objs.size ≤ D) : Reach [] ρ h (ρ ++ [⟨D, []⟩]) h' :=
  ⟨⟨[⟨D, []⟩], rfl, fun a ha => by simp [foot] at ha; rw [ha]; exact hD⟩, fun a o e _ => k a o e, sz⟩
theorem VR.newAt {h : Heap} {D : Addr} (r : Rel c X os ρ h) : VR (ρ ++ [⟨D, []⟩]) (.ref os.length) (.ref D) := ⟨⟨D, []⟩, by rw [r.objs.length]; simp, rfl⟩

/-- an operation that makes one object -/
theorem Op.makes {t : List Value → Sem Value} {as : List AV} {os : List AO} {o : AO}
    (h : ∀ (A : Around) (ρ : List Pl) (s : Shared) (xs : List Value) (Q : Value → Shared → Prop) (E : Value → Shared → Prop), Room A n → Rel c [] os ρ s.heap → VRs ρ as xs → (∀ D h' tk, Keeps s.heap h' → s.heap.objs.size ≤ D → D < h'.objs.size → OR c (ρ ++ [⟨D, []⟩]) o ⟨D, []⟩ h' → Q (.ref D) { s with heap := h', toks := tk }) → wpAny c.M A (t xs) Q E s) :
    Op c n t as os (.ref os.length) (os ++ [o]) := fun A ρ s xs rm r hx => Run.wp fun Q E hq => h A ρ s xs Q E rm r hx fun D h' tk k hD hlt y => hq _ h' tk (ρ ++ [⟨D, []⟩]) fun sz => ⟨Reach.new k sz hD, r.new k sz hD hlt y, VR.newAt r⟩
/-! ### range, list -/
theorem range1 {k : Int} : CallR c n (.type "range") [.int k] os (.ref os.length) (os ++ [.rng 0 k]) := Op.makes fun A ρ s xs Q E rm r hx hq => by
  match xs, hx with
  | [_], ⟨⟨t, rfl⟩, _⟩ =>
    refine callType_new F.called_range (by decide) (F.typeCall_range_1 _) (F.newCall_range_1 _) (fun obj => F.initArgs_range_1 obj _) F.entry_range_new (AutoRange.range___new___type_int_0 k t F.called_range.sub) ⟨⟨_, Heap.get?_push_size _ rfl, rfl⟩, ?_⟩
    exact hq _ _ _ (fun b o e => Heap.get?_push_of_some _ e) (Nat.le_refl _) (by rw [Heap.size_push]; exact Nat.lt_succ_self _) ⟨rfl, _, _, _, Heap.get?_push_size _ rfl⟩
theorem range2 {j k : Int} : CallR c n (.type "range") [.int j, .int k] os (.ref os.length) (os ++ [.rng j k]) := Op.makes fun A ρ s xs Q E rm r hx hq => by
  match xs, hx with
  | [_, _], ⟨⟨t, rfl⟩, ⟨u, rfl⟩, _⟩ =>
    refine callType_new F.called_range (by decide) (F.typeCall_range_2 _ _) (F.newCall_range_2 _ _) (fun obj => F.initArgs_range_2 obj _ _) F.entry_range_new (AutoRange.range___new___type_int_int_0 j k t u F.called_range.sub) ⟨⟨_, Heap.get?_push_size _ rfl, rfl⟩, ?_⟩
    exact hq _ _ _ (fun b o e => Heap.get?_push_of_some _ e) (Nat.le_refl _) (by rw [Heap.size_push]; exact Nat.lt_succ_self _) ⟨rfl, _, _, _, Heap.get?_push_size _ rfl⟩

theorem VRs.of_get {xs : List AV} : ∀ {vs : List Value}, xs.length = vs.length → (∀ (j : Nat) x v, xs[j]? = some x → vs[j]? = some v → VR ρ x v) → VRs ρ xs vs := by
  induction xs with
  | nil => intro vs h _; cases vs <;> first | exact trivial | cases h
  | cons x xs ih =>
    intro vs h hg
    cases vs with
    | nil => cases h
    | cons v vs => exact ⟨hg 0 x v rfl rfl, ih (by simpa using h) fun j x' v' h1 h2 => hg (j + 1) x' v' (by simpa using h1) (by simpa using h2)⟩

/-- the signs of a text, each a text -/
noncomputable def signs (x : Str) : List Str := x.cps.toList.map fun ch => ⟨#[ch]⟩
theorem list_str {x : Str} (hz : x.length ≤ sizeLine) : CallR c n (.type "list") [.str x] os (.ref os.length) (os ++ [.list ((signs x).map .str)]) := Op.makes fun A ρ s xs Q E rm r hx hq => by
  match xs, hx with
  | [_], ⟨⟨t, rfl⟩, _⟩ =>
    refine call_list_str rm.handled x t (fun h' tk acc k hk hl hi => ?_) hz
    refine hq _ h' tk hk (Nat.le_refl _) (Heap.lt_size hl) ⟨rfl, acc.toList, ?_, k, by simpa using hl⟩
    obtain ⟨h1, h2⟩ := hi
    refine VRs.of_get (by simp [signs, h1]) fun j y v e1 e2 => ?_
    obtain ⟨ch, u, e3, rfl⟩ := h2 j v (by simpa using e2)
    simp [signs, e3] at e1
    subst e1
    exact ⟨u, rfl⟩
theorem list_rng {i : Nat} {lo hi : Int} {m : Nat} (ho : os[i]? = some (.rng lo hi)) (hs : Builtin.Range.small lo hi 1 = true) (hm : Builtin.Range.rangeSize lo hi 1 = m) (hz : m ≤ 2 ^ 24) : CallR c n (.type "list") [.ref i] os (.ref os.length) (os ++ [.list ((List.range m).map fun k : Nat => AV.int (lo + (k : Int)))]) := Op.makes fun A ρ s xs Q E rm r hx hq => by
  match xs, hx with
  | [_], ⟨⟨p, hp, rfl⟩, _⟩ =>
    obtain ⟨p', hp', hm', t, u, w, hr⟩ := r.objs.get ho
    rw [hp] at hp'; cases hp'
    refine call_list_range rm.handled hr hs hm hz fun h' tk acc k hk hl hi => ?_
    refine hq _ h' tk hk (Nat.le_refl _) (Heap.lt_size hl) ⟨rfl, acc.toList, ?_, k, by simpa using hl⟩
    obtain ⟨h1, h2⟩ := hi
    refine VRs.of_get (by simp [h1]) fun j y v e1 e2 => ?_
    obtain ⟨u, rfl⟩ := h2 j v (by simpa using e2)
    rw [List.getElem?_map] at e1
    obtain ⟨k', e3, rfl⟩ := Option.map_eq_some_iff.mp e1
    have : k' = j := by
      rw [List.getElem?_range] at e3
      · cases e3; rfl
      · exact (List.getElem?_eq_some_iff.mp e3).1 |> fun h => by simpa using h
    subst this
    exact ⟨u, by rw [Int.mul_one]⟩

/-! ### sorted -/
theorem sorted_l {i : Nat} {ss ss' : List Str} (ho : os[i]? = some (.list (ss.map .str))) (hz : ss.length < 64) (hs : ∀ zs : List Str, zs.Perm ss → sortedS zs = true → zs = ss') : CallR c n (.builtin "sorted") [.ref i] os (.ref os.length) (os ++ [.list (ss'.map .str)]) := Op.makes fun A ρ s xs Q E rm r hx hq => by
  match xs, hx with
  | [_], ⟨hv, _⟩ =>
    obtain ⟨p, vs, hp, _, rfl, hvs, hpl⟩ := r.list ho hv
    have hlen : vs.length = ss.length := by have := hvs.length; simpa using this.symm
    refine sorted_strs hpl.isList hvs.strs (by omega) fun out zs a1 a2 a3 => ?_
    obtain ⟨k, he⟩ := sortedAll_at s.heap vs out
    have := hs zs a2 a3; subst this
    refine hq _ _ s.toks (fun _ _ => sortedAll_old) (Nat.le_succ _) (Heap.lt_size he) ⟨rfl, out.toList, (VRs.ofStrs a1), k, by simpa [seqObj] using he⟩

/-! ### lists compared -/
theorem shaped_strs {ss : List Str} (h : ss.all PyData.strOk = true) : shaped (.list (ss.map PyData.str)) = true := by
  show (PyData.canLay0 (.list (ss.map PyData.str)) && decide (PyData.depth (.list (ss.map PyData.str)) ≤ 64)) = true
  rw [Bool.and_eq_true]
  refine ⟨by simp only [PyData.canLay0]; rw [canLayAll_strs']; exact h, ?_⟩
  simp only [PyData.depth, depthAll_strs']; decide
theorem noMix_strs : ∀ xs ys : List Str, noMixAll (xs.map PyData.str) (ys.map PyData.str) = true
  | [], [] => by simp [noMixAll]
  | [], _ :: _ => by simp [noMixAll]
  | _ :: _, [] => by simp [noMixAll]
  | _ :: r, _ :: q => by simp [noMixAll, noMix, noMix_strs r q]
theorem same_strs : ∀ xs ys : List Str, PySem.Spec.sameAll (xs.map PyData.str) (ys.map PyData.str) = decide (xs = ys)
  | [], [] => by simp [PySem.Spec.sameAll]
  | [], _ :: _ => by simp [PySem.Spec.sameAll]
  | _ :: _, [] => by simp [PySem.Spec.sameAll]
  | x :: r, y :: q => by
    simp only [List.map_cons, PySem.Spec.sameAll, PySem.Spec.same, same_strs r q]
    by_cases h : x = y <;> simp [h]
theorem Rel.strs {h : Heap} {i : Nat} {ss : List Str} {v : Value} (r : Rel c X os ρ h) (ho : os[i]? = some (.list (ss.map .str))) (hv : VR ρ (.ref i) v) : ∃ a, Reads h v (.list (ss.map PyData.str)) a := by
  obtain ⟨p, vs, hp, _, rfl, hvs, k, hpl⟩ := r.list ho hv
  exact ⟨_, Reads.list hpl rfl rfl (by simpa using hvs.strs.reads h)⟩
theorem eq_ls {i j : Nat} {xs ys : List Str} (ho : os[i]? = some (.list (xs.map .str))) (ho' : os[j]? = some (.list (ys.map .str))) (h1 : xs.all PyData.strOk = true) (h2 : ys.all PyData.strOk = true) : Op2 c n (compareOp .Eq) (.ref i) (.ref j) os (.bool (decide (xs = ys))) os := fun A ρ s x y rm r hx hy Q E hq => by
  obtain ⟨a, ra⟩ := r.strs ho hx
  obtain ⟨b, rb⟩ := r.strs ho' hy
  exact eq_dataH_same ra rb (shaped_strs h1) (shaped_strs h2) (by have := rm.units; omega) (by simp only [noMix]; exact noMix_strs xs ys) (by simp only [PySem.Spec.same]; rw [same_strs]; exact hq _ s.heap s.toks ρ (Reach.refl ..) ⟨r, rfl⟩)
theorem ne_ls {i j : Nat} {xs ys : List Str} (ho : os[i]? = some (.list (xs.map .str))) (ho' : os[j]? = some (.list (ys.map .str))) (h1 : xs.all PyData.strOk = true) (h2 : ys.all PyData.strOk = true) : Op2 c n (compareOp .NotEq) (.ref i) (.ref j) os (.bool (!decide (xs = ys))) os := fun A ρ s x y rm r hx hy Q E hq => by
  obtain ⟨a, ra⟩ := r.strs ho hx
  obtain ⟨b, rb⟩ := r.strs ho' hy
  exact ne_dataH_same ra rb (shaped_strs h1) (shaped_strs h2) (by have := rm.units; omega) (by simp only [noMix]; exact noMix_strs xs ys) (by simp only [PySem.Spec.same]; rw [same_strs]; exact hq _ s.heap s.toks ρ (Reach.refl ..) ⟨r, rfl⟩)
theorem eq_li {i j : Nat} {xs ys : List Int} (ho : os[i]? = some (.list (xs.map .int))) (ho' : os[j]? = some (.list (ys.map .int))) : Op2 c n (compareOp .Eq) (.ref i) (.ref j) os (.bool (decide (xs = ys))) os := fun A ρ s x y rm r hx hy Q E hq => by
  obtain ⟨p, vs, hp, _, rfl, hvs, hpl⟩ := r.list ho hx
  obtain ⟨p', vs', hp', _, rfl, hvs', hpl'⟩ := r.list ho' hy
  exact eq_intsK hpl.isList hvs.ints hpl'.isList hvs'.ints (by have := rm.units; omega) (hq _ s.heap s.toks ρ (Reach.refl ..) ⟨r, rfl⟩)

/-! ### pop -/
theorem pop0_l {i : Nat} {x : AV} {xs : List AV} (ho : os[i]? = some (.list (x :: xs))) (hz : xs.length + 1 ≤ sizeLine) : CallR c n (.builtin "list.pop") [.ref i, .int 0] os x (os.set i (.list xs)) := fun A ρ s zs rm r hx Q E hq => by
  match zs, hx with
  | [a, _], ⟨ha, ⟨u, rfl⟩, _⟩ =>
    obtain ⟨p, vs, hp, hm, rfl, hvs, ⟨k, hl⟩⟩ := r.list ho ha
    cases vs with
    | nil => exact hvs.elim
    | cons v vs =>
      have hlen := hvs.2.length
      refine call_meets PySem.F.slot_list_pop ⟨_, hl, rfl⟩ PySem.F.entry_list_pop (PySem.F.args_list_pop_2 _ _) (PySem.MeetsSeq.list_pop_at p.a _ k 0 u 0 v (by decide) (by simp [seqIndex?]) (by simp) (by simp; omega)) ⟨hl, ?_⟩
      refine hq _ _ s.toks ρ (Reach.set hp (Heap.SameBut.update ..)) ⟨r.setList hp hm ⟨_, Heap.get?_update_self _ hl rfl⟩ (Heap.SameBut.update ..) ?_, hvs.1⟩
      simpa using hvs.2
end
end Mine
end

section
open PySem PySem.W PyProof.Rows PyProof.V PySem.Spec PySem.SeqAt
set_option linter.unusedVariables false
set_option maxRecDepth 100000
namespace Mine

section
variable {c : Cx} {n : Nat} {fd : FD} {σ σ₁ σ₂ σ₃ σ₄ : S} {X : List Addr} {A : Around} {ρ : List Pl} {s : Shared} {os : List AO} {E : Value → Shared → Prop}
open Builtin Builtin.Str

/-! ### split, join, find -/
theorem split_s {x y : Str} (hy : y.length ≠ 0) (hz : x.length ≤ sizeLine) (hz2 : (partsBetween x (occurrences x y 0 x.length (x.length + 1)) y.length).length ≤ sizeLine) :
    CallR c n (.builtin "str.split") [.str x, .str y] os (.ref os.length) (os ++ [.list ((Txt.split x y).map .str)]) := Op.makes fun A ρ s xs Q E rm r hx hq => by
  match xs, hx with
  | [_, _], ⟨⟨t, rfl⟩, ⟨u, rfl⟩, _⟩ =>
    have hy' : (y.length == 0) = false := by simpa using hy
    have fin : ∀ (l : List (Str × Tok)) (tk : Nat), l.map (·.1) = Txt.split x y → Q (.ref s.heap.objs.size) { s with heap := s.heap.push { cls := .type "list", data := .seq (strValues l).toArray }, toks := tk } := fun l tk e => by
      refine hq _ _ tk (fun b o e => Heap.get?_push_of_some _ e) (Nat.le_refl _) (by rw [Heap.size_push]; exact Nat.lt_succ_self _) ⟨rfl, strValues l, ?_, 0, Heap.get?_push_size _ rfl⟩
      rw [← e]
      clear e
      induction l with
      | nil => exact trivial
      | cons q l ih => exact ⟨⟨q.2, rfl⟩, ih⟩
    cases h1 : (decide (x.length < y.length) || decide (strKind x < strKind y))
    · cases hf : (occurrences x y 0 x.length (x.length + 1)).isEmpty
      · refine call_meets F.slot_str_split (typeIs_str _ _ _) F.entry_str_split (F.args_str_split_2 _ _) (meets_str_split_sep x y t u h1 hy' hf hz hz2) ?_
        show wants Q E _ { s with toks := _, heap := s.heap.push { cls := .type "list", data := .seq (strsFrom s.toks (partsBetween x (occurrences x y 0 x.length (x.length + 1)) y.length)).toArray } }
        rw [strsFrom_eq]
        exact fin (numbered s.toks _) _ ((numbered_texts _ _).trans ((if_neg (ne_true_of_eq_false h1)).trans (if_neg (ne_true_of_eq_false hf))).symm)
      · exact call_meets F.slot_str_split (typeIs_str _ _ _) F.entry_str_split (F.args_str_split_2 _ _) (meets_str_split_not_found x y t u h1 hy' hf)
          (fin [(x, t)] s.toks ((if_neg (ne_true_of_eq_false h1)).trans (if_pos hf)).symm)
    · exact call_meets F.slot_str_split (typeIs_str _ _ _) F.entry_str_split (F.args_str_split_2 _ _) (meets_str_split_cannot_occur x y t u h1)
        (fin [(x, t)] s.toks (if_pos h1).symm)

theorem join_s {x : Str} {i : Nat} {ss : List Str} (ho : os[i]? = some (.list (ss.map .str))) (hok : JoinOk x ss = true) : CallR c n (.builtin "str.join") [.str x, .ref i] os (.str (Txt.join x ss)) os := Op.keeps fun A ρ s vs Q E rm r hx hq => by
  match vs, hx with
  | [_, _], ⟨⟨t, rfl⟩, hv, _⟩ =>
    obtain ⟨p, vs, hp, _, rfl, hvs, hpl⟩ := r.list ho hv
    obtain ⟨l, rfl, hl⟩ := hvs.pairs
    exact SC.join hpl.isList hl hok fun t' k => hq _ s.heap k (fun _ _ e => e) ⟨t', rfl⟩

/-- the place of y in x, from lo to hi -/
noncomputable def find4 (x y : Str) (lo hi : Nat) : Int := match occurrences x y lo (min hi x.length) 1 with | k :: _ => (k : Int) | [] => -1
theorem gives_find4 (x y : Str) (i j : Nat) (t u v w : Tok) : Gives («str.find» ⟨[.str x t, .str y u, .int (i : Int) v, .int (j : Int) w], []⟩) (.int (find4 x y i j)) := by
  have e1 : (max (0 : Int) (if ((i : Nat) : Int) < 0 then ((i : Nat) : Int) + (x.length : Int) else ((i : Nat) : Int))).toNat = i := by rw [if_neg (by omega)]; omega
  have e2 : (max (0 : Int) (if ((j : Nat) : Int) < 0 then ((j : Nat) : Int) + (x.length : Int) else ((j : Nat) : Int))).toNat = j := by rw [if_neg (by omega)]; omega
  show Gives (match occurrences x y ((max (0 : Int) (if ((i : Nat) : Int) < 0 then ((i : Nat) : Int) + (x.length : Int) else ((i : Nat) : Int))).toNat) (min ((max (0 : Int) (if ((j : Nat) : Int) < 0 then ((j : Nat) : Int) + (x.length : Int) else ((j : Nat) : Int))).toNat) x.length) 1 with | k :: _ => retInt k | [] => (do rule "str.find.not-found"; retInt (-1))) _
  rw [e1, e2]
  unfold find4
  cases occurrences x y i (min j x.length) 1 with
  | nil => exact .rule (.of_eq rfl)
  | cons k _ => exact .of_eq rfl
theorem find_s {x y : Str} {i j : Nat} : CallR c n (.builtin "str.find") [.str x, .str y, .int (i : Int), .int (j : Int)] os (.int (find4 x y i j)) os := Op.keeps fun A ρ s vs Q E rm r hx hq => by
  match vs, hx with
  | [_, _, _, _], ⟨⟨t, rfl⟩, ⟨u, rfl⟩, ⟨v, rfl⟩, ⟨w, rfl⟩, _⟩ =>
    exact call_gives F.slot_str_find (typeIs_str _ _ _) F.entry_str_find (F.args_str_find_4 _ _ _ _) (gives_find4 x y i j t u v w) (hq _ s.heap _ (fun _ _ e => e) ⟨_, rfl⟩)

/-! ### methods -/
theorem mth_s {x : Str} {name : Str} {id : String} (slot : Slot "str" name id) (ty : typeOf (.builtin id) = Pure.pure (.type "method_descriptor")) : Mth c n (.str x) name os (.builtin id) := fun A ρ s v pl rm r hv Q E hq => by
  obtain ⟨t, rfl⟩ := hv
  exact GM.of (.str x t) (typeIs_str _ _ _) slot ty GM.noRef (hq _ s.heap s.toks ρ (Reach.refl ..) ⟨r, rfl⟩)
theorem mth_split {x : Str} : Mth c n (.str x) "split" os (.builtin "str.split") := mth_s F.slot_str_split F.type_str_split
theorem mth_join {x : Str} : Mth c n (.str x) "join" os (.builtin "str.join") := mth_s F.slot_str_join F.type_str_join
theorem mth_find {x : Str} : Mth c n (.str x) "find" os (.builtin "str.find") := mth_s F.slot_str_find F.type_str_find
theorem mth_count {x : Str} : Mth c n (.str x) "count" os (.builtin "str.count") := mth_s F.slot_str_count F.type_str_count
theorem mth_l {i : Nat} {xs : List AV} {name : Str} {id : String} (ho : os[i]? = some (.list xs)) (slot : Slot "list" name id) (ty : typeOf (.builtin id) = Pure.pure (.type "method_descriptor")) : Mth c n (.ref i) name os (.builtin id) := fun A ρ s v pl rm r hv Q E hq => by
  obtain ⟨p, vs, hp, _, rfl, hvs, k, hpl⟩ := r.list ho hv
  refine getMethod_builtin ⟨_, hpl, rfl⟩ F.plainAttrs_list slot ty (fun a e => ?_) (hq _ s.heap s.toks ρ (Reach.refl ..) ⟨r, rfl⟩)
  cases e
  exact ⟨_, hpl, rfl⟩
theorem mth_append {i : Nat} {xs : List AV} (ho : os[i]? = some (.list xs)) : Mth c n (.ref i) "append" os (.builtin "list.append") := mth_l ho F.slot_list_append F.type_list_append
theorem mth_pop {i : Nat} {xs : List AV} (ho : os[i]? = some (.list xs)) : Mth c n (.ref i) "pop" os (.builtin "list.pop") := mth_l ho F.slot_list_pop F.type_list_pop
theorem mth_index {i : Nat} {xs : List AV} (ho : os[i]? = some (.list xs)) : Mth c n (.ref i) "index" os (.builtin "list.index") := mth_l ho F.slot_list_index F.type_list_index

/-! ### slices -/
noncomputable def cutLo (n : Nat) (lo : Option Int) : Nat := lo.elim 0 (clipAt n)
noncomputable def cutHi (n : Nat) (hi : Option Int) : Nat := hi.elim n (clipAt n)
noncomputable def cut {α : Type} (xs : List α) (lo hi : Option Int) : List α := (xs.drop (cutLo xs.length lo)).take (cutHi xs.length hi - cutLo xs.length lo)
noncomputable def cutS (x : Str) (lo hi : Option Int) : Str := ⟨(cut x.cps.toList lo hi).toArray⟩

theorem VRs.drop : ∀ {xs : List AV} {vs : List Value} (k : Nat), VRs ρ xs vs → VRs ρ (xs.drop k) (vs.drop k)
  | _, _, 0, h => h
  | [], [], _ + 1, _ => trivial
  | _ :: _, _ :: _, k + 1, h => VRs.drop k h.2
theorem VRs.take : ∀ {xs : List AV} {vs : List Value} (k : Nat), VRs ρ xs vs → VRs ρ (xs.take k) (vs.take k)
  | _, _, 0, _ => by simp; exact trivial
  | [], [], _ + 1, _ => trivial
  | _ :: _, _ :: _, k + 1, h => ⟨h.1, VRs.take k h.2⟩
theorem VRs.cut {xs : List AV} {vs : List Value} (h : VRs ρ xs vs) (lo hi : Option Int) : VRs ρ (Mine.cut xs lo hi) (Mine.cut vs lo hi) := by
  unfold Mine.cut
  rw [h.length]
  exact VRs.take _ (VRs.drop _ h)

theorem slice_ls {i : Nat} {xs : List AV} {lo hi : Option Int} (ho : os[i]? = some (.list xs)) (hz : xs.length ≤ sizeLine) : SlOp c n (.ref i) lo hi Option.none os (.ref os.length) (os ++ [.list (cut xs lo hi)]) := fun A ρ s x sl vl vu vst rm r hx hsl hl hu ht Q E hq => by
  obtain ⟨p, vs, hp, _, rfl, hvs, hpl⟩ := r.list ho hx
  have pl : IsPart vl lo := by cases lo <;> (first | (cases hl; exact .none) | (obtain ⟨t, rfl⟩ := hl; exact .int _ t))
  have pu : IsPart vu hi := by cases hi <;> (first | (cases hu; exact .none) | (obtain ⟨t, rfl⟩ := hu; exact .int _ t))
  cases ht
  have hlen := hvs.length
  refine wpAny_getItem_list_slice hpl.isList hsl pl pu .none (by intro e; cases e) ?_ (by rw [List.size_toArray, ← hlen]; exact hz)
  rw [slicePick_plain]
  exact hq _ _ s.toks _ (Reach.alloc ρ s.heap _) ⟨r.newList (by simpa [Mine.cut, cutLo, cutHi] using hvs.cut lo hi), VR.new r⟩

/-- a list of the top's: its cut -/
theorem slice_base {l : Addr} {vs : List Value} {xs : List AV} {lo hi : Option Int} (hb : c.hb.IsList l vs.toArray) (hvs : ∀ ρ, VRs ρ xs vs) (hz : xs.length ≤ sizeLine) : SlOp c n (.lit (.ref l)) lo hi Option.none os (.ref os.length) (os ++ [.list (cut xs lo hi)]) := fun A ρ s x sl vl vu vst rm r hx hsl hl hu ht Q E hq => by
  cases hx
  have pl : IsPart vl lo := by cases lo <;> (first | (cases hl; exact .none) | (obtain ⟨t, rfl⟩ := hl; exact .int _ t))
  have pu : IsPart vu hi := by cases hi <;> (first | (cases hu; exact .none) | (obtain ⟨t, rfl⟩ := hu; exact .int _ t))
  cases ht
  have hlen := (hvs ρ).length
  have hb' : s.heap.IsList l vs.toArray := let ⟨o, ho, q⟩ := hb; ⟨o, r.keep _ _ ho, q⟩
  refine wpAny_getItem_list_slice hb' hsl pl pu .none (by intro e; cases e) ?_ (by rw [List.size_toArray, ← hlen]; exact hz)
  rw [slicePick_plain]
  exact hq _ _ s.toks _ (Reach.alloc ρ s.heap _) ⟨r.newList (by simpa [Mine.cut, cutLo, cutHi] using (hvs ρ).cut lo hi), VR.new r⟩

theorem slice_tf {i : Nat} {xs : List AV} {a : Nat} (ho : os[i]? = some (.tup xs)) (h1 : 1 ≤ a) (ha : a ≤ xs.length) (hz : xs.length ≤ sizeLine) : SlOp c n (.ref i) (some (a : Int)) Option.none Option.none os (.ref os.length) (os ++ [.tup (xs.drop a)]) := fun A ρ s x sl vl vu vst rm r hx hsl hl hu ht Q E hq => by
  obtain ⟨p, vs, hp, _, rfl, hvs, hpl⟩ := r.tup ho hx
  obtain ⟨t, rfl⟩ := hl
  cases hu; cases ht
  have hlen := hvs.length
  refine getItem_tuple_from hpl.isTup hsl h1 (by rw [List.size_toArray, ← hlen]; exact ha) ?_ (by rw [List.size_toArray, ← hlen]; exact hz)
  exact hq _ _ s.toks _ (Reach.alloc ρ s.heap _) ⟨r.newTup (by simpa using hvs.drop a), VR.new r⟩

theorem cutHi_le (n : Nat) (hi : Option Int) : cutHi n hi ≤ n := by
  unfold cutHi
  cases hi with
  | none => exact Nat.le_refl _
  | some i => show clipAt n i ≤ n; unfold clipAt; omega
theorem strIdx (x : Str) (lo hi : Option Int) : strSliceIndices lo hi 1 x.length = (List.range (cutHi x.length hi - cutLo x.length lo)).map (cutLo x.length lo + ·) := by
  have e1 : strSliceIndices lo hi 1 x.length = sliceRange ((cutLo x.length lo : Nat) : Int) ((cutHi x.length hi : Nat) : Int) 1 := by
    unfold strSliceIndices cutLo cutHi
    cases lo <;> cases hi <;> simp [clipAt_cast]
  rw [e1, sliceRange_one]
theorem slice_s {x : Str} {lo hi : Option Int} (hz : x.length ≤ sizeLine) : SlOp c n (.str x) lo hi Option.none os (.str (cutS x lo hi)) os := fun A ρ s v sl vl vu vst rm r hx hsl hl hu ht Q E hq => by
  obtain ⟨t, rfl⟩ := hx
  obtain ⟨o, ho, hc, hd⟩ := hsl
  have pl : ∃ l, vl = partValue l ∧ l.map (·.1) = lo := by
    cases lo with
    | none => cases hl; exact ⟨Option.none, rfl, rfl⟩
    | some i => obtain ⟨t, rfl⟩ := hl; exact ⟨some (i, t), rfl, rfl⟩
  have pu : ∃ l, vu = partValue l ∧ l.map (·.1) = hi := by
    cases hi with
    | none => cases hu; exact ⟨Option.none, rfl, rfl⟩
    | some i => obtain ⟨t, rfl⟩ := hu; exact ⟨some (i, t), rfl, rfl⟩
  obtain ⟨l, rfl, hl'⟩ := pl
  obtain ⟨u, rfl, hu'⟩ := pu
  cases ht
  refine wpAny_getItem_str_slice (l := l) (u := u) (st := Option.none) ⟨o, ho, hc, hd⟩ rfl ?_
  have hp : slicePicked x l u Option.none = (List.range (cutHi x.length hi - cutLo x.length lo)).map (cutLo x.length lo + ·) := by
    unfold slicePicked; rw [hl', hu']; exact strIdx x lo hi
  have hs : (⟨((slicePicked x l u Option.none).filterMap (x.cps[·]?)).toArray⟩ : Str) = cutS x lo hi := by
    rw [hp]; unfold cutS Mine.cut; congr 2
    exact pick_run x.cps _ _
  unfold sliceMade
  have fin : ∀ t' tk, Q (.str (cutS x lo hi) t') { s with toks := tk } := fun t' tk => hq _ s.heap tk ρ (Reach.refl ..) ⟨r, t', rfl⟩
  split
  · rename_i hw
    have hw2 : (slicePicked x l u Option.none).length = x.length := by
      have := (Bool.and_eq_true_iff.mp hw).2; exact beq_iff_eq.mp this
    rw [hp, List.length_map, List.length_range] at hw2
    have hh := cutHi_le x.length hi
    have e : cutS x lo hi = x := by
      unfold cutS Mine.cut
      apply Str.ext'
      by_cases h0 : x.length = 0
      · have : x.cps = #[] := Array.size_eq_zero_iff.mp h0
        rw [this]; simp
      · have a0 : cutLo x.length lo = 0 := by omega
        have b0 : cutHi x.length hi = x.length := by omega
        have hsz : x.cps.toList.length = x.length := by rw [Array.length_toList]; rfl
        rw [hsz, a0, b0]
        rw [List.drop_zero, Nat.sub_zero, List.take_of_length_le (by rw [hsz]; exact Nat.le_refl _)]
    have := fin t s.toks
    rw [e] at this
    exact this
  · rw [hs]
    refine ⟨?_, fin _ _⟩
    show (cutS x lo hi).cps.size ≤ sizeLine
    refine Nat.le_trans ?_ hz
    unfold cutS Mine.cut
    rw [List.size_toArray, List.length_take, List.length_drop, Array.length_toList]
    show min _ (x.length - _) ≤ x.length
    omega
end
end Mine
end

section
open PySem PySem.W PyProof.Rows PyProof.V PySem.Spec PySem.SeqAt
set_option linter.unusedVariables false
set_option maxRecDepth 100000
namespace Mine

section
variable {c : Cx} {n : Nat} {fd : FD} {σ σ₁ σ₂ σ₃ σ₄ : S} {X : List Addr} {A : Around} {ρ : List Pl} {s : Shared} {os : List AO} {E : Value → Shared → Prop}

/-! ### while -/
noncomputable def Wl (c : Cx) (n : Nat) (fd : FD) (test : Expr) (body : List Stmt) (σ : S) (f : AF) (σ' : S) : Prop :=
  ∀ env A ρ s R, Room A n → In c fd σ env ρ s.heap → (∀ fl h' tk' ρ', Reach [env.locals] ρ s.heap ρ' h' → In c fd σ' env ρ' h' → FR ρ' f fl → R (.ok fl) { s with heap := h', toks := tk' }) →
    codeAny c.M A (.whileLoop test body [] env) R s
theorem codeAny_while_turn {R : Result → Shared → Prop} {test : Expr} {body : List Stmt} {env : Env}
    (h : wpAny c.M A (isTrue test env (eval test env)) (fun b s₂ => if b then wpAny c.M A (execs body env) (fun f s₃ => match f with
        | .next | .cont => codeAny c.M A (.whileLoop test body [] env) R s₃
        | .brk => R (.ok .next) s₃
        | .ret v => R (.ok (.ret v)) s₃) (notedBy c.M A env fun e s' => R (.error e) s') s₂ else R (.ok .next) s₂) (notedBy c.M A env fun e s' => R (.error e) s') s) :
    codeAny c.M A (.whileLoop test body [] env) R s := by
  refine codeAny_of_tree ?_
  rw [Around.under_of_weight (by rfl) (by rfl)]
  show wpAny _ A ((whileTurn test body [] env).onRaise (fun x => do noteFrame x env; theTreesLotGoes x)) _ _ s
  refine wpAny_noted ?_
  simp only [whileTurn]
  refine wpAny_bind (wpAny_mono h (fun b s₂ h₂ => ?_) fun _ _ h' => h')
  cases b with
  | false =>
    simp only [Bool.false_eq_true, if_false] at h₂ ⊢
    exact wpAny_bind (wpAny_execs_nil (wpAny_pure h₂))
  | true =>
    simp only [if_true] at h₂ ⊢
    refine wpAny_bind (wpAny_mono h₂ (fun f s₃ h₃ => ?_) fun _ _ h' => h')
    cases f with
    | next => exact wpAny_pure ⟨rfl, h₃⟩
    | cont => exact wpAny_pure ⟨rfl, h₃⟩
    | brk => exact wpAny_pure h₃
    | ret v => exact wpAny_pure h₃
theorem Wl.done {test : Expr} {body : List Stmt} (h : Tst c n fd test σ false σ₁) : Wl c n fd test body σ .next σ₁ := fun env A ρ s R rm i hR => by
  refine codeAny_while_turn (h env A ρ s rm i _ _ fun b h₁ tk₁ ρ₁ q₁ p₁ => ?_)
  obtain ⟨i₁, rfl⟩ := p₁
  exact hR _ h₁ tk₁ ρ₁ q₁ i₁ rfl
theorem Wl.step {test : Expr} {body : List Stmt} {f : AF} (h : Tst c n fd test σ true σ₁) (hb : Exs c n fd body σ₁ .next σ₂) (go : Wl c n fd test body σ₂ f σ₃) : Wl c n fd test body σ f σ₃ := fun env A ρ s R rm i hR => by
  refine codeAny_while_turn (h env A ρ s rm i _ _ fun b h₁ tk₁ ρ₁ q₁ p₁ => ?_)
  obtain ⟨i₁, rfl⟩ := p₁
  refine hb env A ρ₁ { s with heap := h₁, toks := tk₁ } rm i₁ _ _ fun fl h₂ tk₂ ρ₂ q₂ p₂ => ?_
  obtain ⟨i₂, rfl⟩ := p₂
  exact go env A ρ₂ { s with heap := h₂, toks := tk₂ } R rm i₂ fun fl' h' tk' ρ' q' i' hf => hR fl' h' tk' ρ' ((q₁.trans q₂).trans q') i' hf
theorem Ex.while {test : Expr} {body : List Stmt} {pos : Pos} {f : AF} (h : Wl c n fd test body σ f σ₁) : Ex c n fd (.While test body [] pos) σ f σ₁ := fun env A ρ s rm i => by
  rw [exec_While]
  refine Run.stand fun Q E hq => wpAny_runOwn ?_
  exact h env _ ρ s _ rm i fun fl h' tk' ρ' q i' hf => hq fl h' tk' ρ' q ⟨i', hf⟩

/-! ### an expression for its own sake -/
theorem Ex.expr {e : Expr} {pos : Pos} {v : AV} (h : Ev c n fd e σ v σ₁) (hv : v.refs = []) (hl : ∀ u, v ≠ .lit u) (hi : fd.scope.kind = .function := by rfl) (hs : ∀ env, swapsWith e Option.none pos.line env = Pure.pure false := by intro _; rfl) : Ex c n fd (.Expr e pos) σ .next σ₁ := fun env A ρ s rm i => by
  rw [exec_Expr env e pos (by unfold interactive; rw [i.fre.scope, hi]; rfl) (hs env)]
  refine Run.stand (Run.bind (h env A ρ s rm i) fun x h₁ tk₁ ρ₁ q₁ p₁ => ?_)
  have hx : ∀ a, x ≠ .ref a := fun a e => by
    subst e
    have := p₁.2
    cases v with
    | ref i => cases hv
    | lit u => exact hl u rfl
    | int i => obtain ⟨t, e⟩ := this; cases e
    | str i => obtain ⟨t, e⟩ := this; cases e
    | bool b => cases this
    | none => cases this
  rw [dropValue_plain hx]
  exact Run.pure ⟨p₁.1, rfl⟩

/-! ### two names at once -/
theorem unpack2 {i : Nat} {a b : AV} {v : Value} {Q : List Value → Shared → Prop} (hh : A.handled = Option.none) (ho : os[i]? = some (.tup [a, b])) (r : Rel c X os ρ s.heap) (hv : VR ρ (.ref i) v)
    (hQ : ∀ h' x y, Keeps s.heap h' → VR ρ a x → VR ρ b y → Q [x, y] { s with heap := h' }) : wpAny c.M A (unpackItems v 2 Option.none) Q E s := by
  obtain ⟨p, vs, hp, _, rfl, hvs, hpl⟩ := r.tup ho hv
  match vs, hvs with
  | [x, y], ⟨hx, hy, _⟩ =>
    have z : wpAny c.M A (unpackItems (.ref p.a) ([x, y].toArray.size) Option.none) Q E s := unpackItems_tuple hh hpl.isTup fun h' he => hQ h' x y (fun b o e => he b o (fun q => by subst q; exact absurd (Heap.lt_size e) (Nat.lt_irrefl _)) e) hx hy
    exact z

theorem Ex.assign2 {x y : Str} {px py tp pos : Pos} {k i : Nat} {value : Expr} {a b : AV} (h : Ev c n fd value σ (.ref i) σ₁) (ho : σ₁.os[i]? = some (.tup [a, b])) (h1 : Sto fd y b σ₁ σ₂) (h2 : Sto fd x a σ₂ σ₃)
    (hs : ∀ env, swapsWithSole [.Tuple [.Name x px, .Name y py] k tp] value pos.line env = Pure.pure false) (hw : ∀ env, env.scope = fd.scope → swappedStores [.Tuple [.Name x px, .Name y py] k tp] value env = Pure.pure (some [x, y])) (hk : fd.scope.kind = .function := by rfl) :
    Ex c n fd (.Assign [.Tuple [.Name x px, .Name y py] k tp] value pos) σ .next σ₃ := fun env A ρ s rm ii => Run.wp fun Q E hq => by
  refine Assign_Tuple_swapped (names := [x, y]) ?_ (hs env) (hw env ii.fre.scope)
  refine wpAny_size (h env A ρ s rm ii _ _ fun v h₁ tk₁ ρ₁ q₁ p₁ => fun sz => ?_)
  refine wpAny_size (unpack2 rm.handled ho p₁.1.rel p₁.2 fun h₂ u w hk₂ hu hw' => fun sz₂ => ?_)
  dsimp only at hk₂ sz₂
  have i₂ : In c fd σ₁ env ρ₁ h₂ := p₁.1.lift (Reach.keeps [] ρ₁ hk₂ sz₂) (p₁.1.rel.none.keeps hk₂ sz₂)
  show wpAny c.M A (do PySem.holding [u] (bindName env y w); assignInOrder [bindName env x] [u]) _ _ _
  refine wpAny_bind (wpAny_holding (wpAny_bindName (h1.run (s := { s with heap := h₂, toks := tk₁ }) i₂ hw' hk _ _ fun _ h₃ tk₃ ρ₃ q₃ i₃ => ?_)))
  show wpAny c.M A (do PySem.holding [] (bindName env x u); Pure.pure ()) _ _ _
  refine wpAny_bind (wpAny_holding (wpAny_bindName (h2.run (s := { s with heap := h₃, toks := tk₃ }) i₃ (hu.reach q₃) hk _ _ fun _ h₄ tk₄ ρ₄ q₄ i₄ => wpAny_pure ?_)))
  refine hq _ h₄ tk₄ ρ₄ fun sz₄ => ⟨((q₁.trans (Reach.keeps _ ρ₁ hk₂ sz₂)).trans q₃).trans q₄, i₄, rfl⟩

/-! ### star -/
theorem Evs.star {e : Expr} {p : Pos} {es : List Expr} {i : Nat} {xs vs : List AV} (h1 : Ev c n fd e σ (.ref i) σ₁) (ho : σ₁.os[i]? = some (.list xs)) (hz : xs.length ≤ sizeLine) (h2 : Evs c n fd es σ₁ vs σ₂) :
    Evs c n fd (.Starred e p :: es) σ (xs ++ vs) σ₂ := fun pos env A ρ s rm ii => Run.wp fun Q E hq => by
  refine items_star ?_
  refine h1 env A ρ s rm ii _ _ fun v h₁ tk₁ ρ₁ q₁ p₁ => ?_
  obtain ⟨q, ws, hp, _, rfl, hvs, ⟨k, hpl⟩⟩ := p₁.1.rel.list ho p₁.2
  have hT : ({ s with heap := h₁, toks := tk₁ } : Shared).TypeIs (.ref q.a) "list" := ⟨_, hpl, rfl⟩
  unfold StarOf notIterableAtAll
  refine wpAny_bind (wpAny_specialOf hT PySem.F.slot_list_iter.lookup (wpAny_pure ⟨rfl, ?_⟩))
  refine wpAny_size (wpAny_collect_seq (s := { s with heap := h₁, toks := tk₁ }) q.a (.inl rfl) hpl rfl rfl (fun h₂ hk => fun sz₂ => ?_) (by rw [List.size_toArray, ← hvs.length]; exact hz))
  dsimp only at sz₂ hk
  have i₂ : In c fd σ₁ env ρ₁ h₂ := p₁.1.lift (Reach.keeps [] ρ₁ hk sz₂) (p₁.1.rel.none.keeps hk sz₂)
  refine h2 pos env A ρ₁ { s with heap := h₂, toks := tk₁ } rm i₂ _ _ fun ys h₃ tk₃ ρ₃ q₃ p₃ => ?_
  refine hq _ h₃ tk₃ ρ₃ fun sz => ⟨(q₁.trans (Reach.keeps _ ρ₁ hk sz₂)).trans q₃, p₃.1, (hvs.reach q₃).append p₃.2⟩

/-! ### and, as a value -/
noncomputable def Ands (c : Cx) (n : Nat) (fd : FD) (es : List Expr) (σ : S) (b : Bool) (σ' : S) : Prop :=
  ∀ pos env A ρ s, Room A n → In c fd σ env ρ s.heap → Run c [env.locals] A ρ s (boolOp pos .And (evalEach es env)) fun ρ' h' x => In c fd σ' env ρ' h' ∧ x = .bool b
theorem Ands.last {e : Expr} {b : Bool} (h : Ev c n fd e σ (.bool b) σ₁) : Ands c n fd [e] σ b σ₁ := fun pos env A ρ s rm i => h env A ρ s rm i
theorem Ands.cons {e e' : Expr} {es : List Expr} {b b' : Bool} (h : Ev c n fd e σ (.bool b) σ₁) (h1 : b = true → Ands c n fd (e' :: es) σ₁ b' σ₂) (h2 : b = false → b' = false ∧ σ₂ = σ₁) : Ands c n fd (e :: e' :: es) σ b' σ₂ := fun pos env A ρ s rm i => by
  show Run c _ A ρ s (do
    let v ← eval e env
    PySem.standAt pos
    let t ← PySem.holding [v] (truthy v)
    match BoolOp.And, t with
    | .And, false | .Or, true => Pure.pure v
    | _, _ => boolOp pos .And (evalEach (e' :: es) env)) _
  refine Run.bind (h env A ρ s rm i) fun x h₁ tk₁ ρ₁ q₁ p₁ => Run.stand ?_
  obtain ⟨i₁, rfl⟩ := p₁
  refine Run.bind (P := fun ρ' h' t => In c fd σ₁ env ρ' h' ∧ t = b) (Run.holding (Run.tell (fun _ _ hq => wpAny_truthy_bool (hq tk₁)) ⟨i₁, rfl⟩)) fun t h₂ tk₂ ρ₂ q₂ p₂ => ?_
  obtain ⟨i₂, rfl⟩ := p₂
  cases t with
  | true => exact h1 rfl pos env A ρ₂ _ rm i₂
  | false => obtain ⟨rfl, rfl⟩ := h2 rfl; exact Run.pure ⟨i₂, rfl⟩
theorem Ev.and {es : List Expr} {pos : Pos} {b : Bool} (h : Ands c n fd es σ b σ₁) : Ev c n fd (.BoolOp .And es pos) σ (.bool b) σ₁ := fun env A ρ s rm i => h pos env A ρ s rm i

/-! ### a text said n times -/
noncomputable def rep (x : Str) (k : Nat) : Str := ⟨(List.replicate k x.cps.toList).flatten.toArray⟩
theorem mul_s {x : Str} {k : Nat} (hx : x.length = 1) (hk : k ≤ 1000) : Op2 c n (binaryOp .Mult) (.str x) (.int (k : Int)) os (.str (rep x k)) os :=
  Op2.pure fun A s ρ a b Q E rm ha hb hq => by
    obtain ⟨t, rfl⟩ := ha; obtain ⟨u, rfl⟩ := hb
    have key : (k : Int) ≤ 1000 := by omega
    refine P.mul_str ?_ (fun h1 _ => ?_) (fun h1 _ => ?_) ?_
    · rw [decide_eq_false (by omega), decide_eq_false (by omega)]; rfl
    · rw [hx]
      have : (1 : Int) ≤ (2 ^ 63 - 1) / (k : Int) := by
        rw [Int.le_ediv_iff_mul_le (by omega)]; omega
      omega
    · rw [hx]
      unfold Builtin.Str.tooLong
      simp
      rw [sizeLine_eq]; omega
    · obtain ⟨ch, hch⟩ : ∃ ch, x.cps.toList = [ch] := by
        have h1 : x.cps.toList.length = 1 := by rw [Array.length_toList]; exact hx
        match hh : x.cps.toList, h1 with
        | [ch], _ => exact ⟨ch, rfl⟩
      have hcps : x.cps = #[ch] := by rw [← Array.toList_inj]; exact hch
      have hx0 : (x.length == 0) = false := by rw [hx]; rfl
      by_cases h1 : (k : Int) < 1
      · rw [if_pos h1]
        have : k = 0 := by omega
        subst this
        exact ⟨by decide, hq _ _ ⟨_, rfl⟩⟩
      · rw [if_neg h1]
        by_cases h2 : ((k : Int) == 1 || x.length == 0) = true
        · rw [if_pos h2]
          have : k = 1 := by
            rw [hx0, Bool.or_false] at h2
            have := beq_iff_eq.mp h2; omega
          subst this
          refine hq _ s.toks ⟨t, ?_⟩
          congr 1
          apply Str.ext'
          unfold rep
          rw [hch, hcps]; rfl
        · rw [if_neg h2]
          have e : (⟨(List.replicate (k : Int).toNat x.cps).foldl (· ++ ·) #[]⟩ : Str) = rep x k := by
            apply Str.ext'
            unfold rep
            rw [hch, hcps, Int.toNat_natCast]
            show (List.replicate k #[ch]).foldl (· ++ ·) #[] = ((List.replicate k [ch]).flatten).toArray
            have gen : ∀ (k : Nat) (acc : Array Nat), (List.replicate k #[ch]).foldl (· ++ ·) acc = acc ++ ((List.replicate k [ch]).flatten).toArray := by
              intro k
              induction k with
              | zero => intro acc; simp
              | succ k ih => intro acc; rw [List.replicate_succ, List.foldl_cons, ih, ← Array.toList_inj]; simp [List.replicate_succ]
            rw [gen]; simp
          rw [e]
          refine ⟨?_, hq _ _ ⟨_, rfl⟩⟩
          show (rep x k).cps.size ≤ sizeLine
          unfold rep
          rw [hch]
          simp
          rw [sizeLine_eq]; omega
end
end Mine
end

section
open PySem PySem.W PyProof.Rows PyProof.V PySem.Spec PySem.SeqAt
set_option linter.unusedVariables false
set_option maxRecDepth 100000
namespace Mine

theorem DefAt.of {c : Cx} {K : Frag} (hK : c.K = K) {a : Addr} {oc : Value} {od : Option Addr} {osl : Array (Option Value)} {d : FuncData} {body : List Stmt} (ho : K.lookup a = some ⟨oc, od, .func d, osl⟩) (hcd : codeIn K d.code d.qualname = true) (hb : d.body = .stmts body)
    (hg : d.globals = mainGlobals) (hbl : d.builtins = builtinsNs) (h1 : d.scope.isCoroutine = false) (h2 : d.scope.isGenerator = false) (h3 : d.scope.kind = .function) : DefAt c a d body := by
  subst hK
  exact ⟨⟨_, c.inK _ _ ho, rfl⟩, codeRec_of c.inK hcd, hb, hg, hbl, h1, h2, h3⟩

section
variable {c : Cx} {n : Nat} {fd : FD} {σ σ₁ σ₂ : S} {os : List AO} {K : Frag}
theorem Ex.ifF {t : Expr} {b o : List Stmt} {pos} {z : Bool} {f : AF} (h : Tst c n fd t σ z σ₁) (hz : z = false) (h2 : Exs c n fd o σ₁ f σ₂) : Ex c n fd (.If t b o pos) σ f σ₂ := Ex.ife h (fun e => by rw [hz] at e; cases e) fun _ => h2
/-- -1 and its like -/
theorem Ev.neg {k : Int} {kk : Nat} {pos pos'} : Ev c n fd (.UnaryOp .USub (.Constant (.int k) kk pos') pos) σ (.int (-k)) σ := fun env A ρ s rm i => by
  rw [arm_eval_UnaryOp]
  refine Run.bind (P := fun ρ' h' x => In c fd σ env ρ' h' ∧ VR ρ' (.int k) x) (Ev.int env A ρ s rm i) fun x h₁ tk₁ ρ₁ q₁ p₁ => Run.stand (Run.holding ?_)
  obtain ⟨i₁, t, rfl⟩ := p₁
  exact fun Q E hq => PyProof.Rows.neg_int (hq _ h₁ _ ρ₁ (Reach.refl ..) ⟨i₁, _, rfl⟩)

theorem Ex.assign' {x : Str} {pos' pos} {e : Expr} {v : AV} (h : Ev c n fd e σ v σ₁) (hs : Sto fd x v σ₁ σ₂) (hw : ∀ env, swapsWith e (some (.Name x pos')) pos.line env = Pure.pure false := by intro _; rfl) (hk : fd.scope.kind = .function := by rfl) :
    Ex c n fd (.Assign [.Name x pos'] e pos) σ .next σ₂ := Ex.assign h hs (fun env _ => hw env) hk

end
end Mine
end

section
open PySem PySem.W PyProof.Rows PyProof.V PySem.Spec PySem.SeqAt
set_option linter.unusedVariables false
namespace Mine

/-! ### renaming -/
theorem VR.ren {ρ ρ' : List Pl} {f : Nat → Nat} {x : AV} {v : Value} (h : VR ρ x v) (e : ∀ i ∈ x.refs, ∀ p, ρ[i]? = some p → ρ'[f i]? = some p) : VR ρ' (x.ren f) v := by
  cases x with
  | ref i => obtain ⟨p, hp, rfl⟩ := h; exact ⟨p, e i List.mem_cons_self p hp, rfl⟩
  | _ => exact h
theorem VRs.ren {ρ ρ' : List Pl} {f : Nat → Nat} : ∀ {xs : List AV} {vs : List Value}, VRs ρ xs vs → (∀ i ∈ AVs.refs xs, ∀ p, ρ[i]? = some p → ρ'[f i]? = some p) → VRs ρ' (xs.map (AV.ren f)) vs
  | [], [], _, _ => trivial
  | _ :: _, _ :: _, h, e => ⟨h.1.ren fun i hi => e i (List.mem_append_left _ hi), VRs.ren h.2 fun i hi => e i (List.mem_append_right _ hi)⟩
theorem OR.ren {c : Cx} {ρ ρ' : List Pl} {f : Nat → Nat} {o : AO} {p : Pl} {h : Heap} (x : OR c ρ o p h) (e : ∀ i ∈ o.refs, ∀ p, ρ[i]? = some p → ρ'[f i]? = some p) : OR c ρ' (o.ren f) p h := by
  cases o with
  | list xs => obtain ⟨e', vs, h1, h2⟩ := x; exact ⟨e', vs, h1.ren e, h2⟩
  | tup xs => obtain ⟨e', vs, h1, h2⟩ := x; exact ⟨e', vs, h1.ren e, h2⟩
  | cell v =>
    obtain ⟨e', v', h1, h2⟩ := x
    refine ⟨e', v', ?_, h2⟩
    cases v <;> cases v' <;> first | exact h1 | exact VR.ren h1 e
  | rng lo hi => exact x
  | x k => exact c.XR_map f x e

/-- the other way: an inner name for an outer one -/
theorem VR.unren {ρ ρ' : List Pl} {f : Nat → Nat} {x : AV} {v : Value} (h : VR ρ' (x.ren f) v) (e : ∀ i p, ρ'[f i]? = some p → ρ[i]? = some p) : VR ρ x v := by
  cases x with
  | ref i => obtain ⟨p, hp, rfl⟩ := h; exact ⟨p, e i p hp, rfl⟩
  | _ => exact h
theorem VRs.unren {ρ ρ' : List Pl} {f : Nat → Nat} (e : ∀ i p, ρ'[f i]? = some p → ρ[i]? = some p) : ∀ {xs : List AV} {vs : List Value}, VRs ρ' (xs.map (AV.ren f)) vs → VRs ρ xs vs
  | [], [], _ => trivial
  | _ :: _, _ :: _, h => ⟨h.1.unren e, VRs.unren e h.2⟩

/-- the outer index of an inner object -/
noncomputable def out (π : List Nat) (m j : Nat) : Nat := if j < π.length then π.getD j 0 else m + (j - π.length)

/-- the inner objects put into their outer places -/
noncomputable def upd (r : Nat → Nat) : List Nat → List AO → List AO → List AO
  | i :: π, o :: os', os => upd r π os' (os.set i (o.ren r))
  | _, _, os => os

/-- the outer places hold what the inner ones say -/
noncomputable def Held (r : Nat → Nat) (os : List AO) : List Nat → List AO → Prop
  | [], [] => True
  | i :: π, o :: os₀ => os[i]? = some (o.ren r) ∧ Held r os π os₀
  | _, _ => False

noncomputable def plc (ρ : List Pl) : List Nat → List Pl
  | [] => []
  | i :: π => (match ρ[i]? with | some p => p | none => ⟨0, []⟩) :: plc ρ π

theorem plc_length (ρ : List Pl) : ∀ π, (plc ρ π).length = π.length
  | [] => rfl
  | _ :: π => congrArg (· + 1) (plc_length ρ π)
theorem plc_get {ρ : List Pl} : ∀ {π : List Nat} {j i : Nat} {p : Pl}, π[j]? = some i → ρ[i]? = some p → (plc ρ π)[j]? = some p
  | i :: π, 0, _, p, h, hp => by simp at h; subst h; simp [plc, hp]
  | _ :: π, j + 1, _, p, h, hp => by simp at h; simpa [plc] using plc_get (ρ := ρ) h hp
theorem plc_get' {ρ : List Pl} : ∀ {π : List Nat} {j : Nat} {p : Pl}, (∀ i ∈ π, i < ρ.length) → (plc ρ π)[j]? = some p → ∃ i, π[j]? = some i ∧ ρ[i]? = some p
  | i :: π, 0, p, hl, h => by
    have := hl i List.mem_cons_self
    simp [plc, this] at h
    exact ⟨i, rfl, by rw [← h]; exact List.getElem?_eq_getElem this⟩
  | _ :: π, j + 1, p, hl, h => by
    simp [plc] at h
    obtain ⟨i, h1, h2⟩ := plc_get' (fun i hi => hl i (List.mem_cons_of_mem _ hi)) h
    exact ⟨i, by simpa using h1, h2⟩

/-- two different places have nothing in common -/
theorem foot_apart {ρ : List Pl} (nd : (foot ρ).Nodup) : ∀ {i j : Nat} {p q : Pl}, ρ[i]? = some p → ρ[j]? = some q → i ≠ j → ∀ a ∈ p.a :: p.more, a ∉ q.a :: q.more := by
  induction ρ with
  | nil => intro i j p q h; simp at h
  | cons r ρ ih =>
    intro i j p q hi hj ne a ha hb
    have nd' := List.nodup_append.mp nd
    cases i with
    | zero =>
      cases j with
      | zero => exact ne rfl
      | succ j => simp at hi hj; subst hi; exact nd'.2.2 a ha a (foot_mem_of_get hj a hb) rfl
    | succ i =>
      cases j with
      | zero => simp at hi hj; subst hj; exact nd'.2.2 a hb a (foot_mem_of_get hi a ha) rfl
      | succ j => simp at hi hj; exact ih nd'.2.1 hi hj (fun e => ne (congrArg _ e)) a ha hb
theorem foot_get {ρ : List Pl} {a : Addr} : a ∈ foot ρ → ∃ (i : Nat) (p : Pl), ρ[i]? = some p ∧ a ∈ p.a :: p.more := by
  induction ρ with
  | nil => intro h; cases h
  | cons r ρ ih =>
    intro h
    rcases List.mem_append.mp h with h | h
    · exact ⟨0, r, rfl, h⟩
    · obtain ⟨i, p, h1, h2⟩ := ih h; exact ⟨i + 1, p, by simp [h1], h2⟩
theorem foot_nodup_get {ρ : List Pl} (nd : (foot ρ).Nodup) {i : Nat} {p : Pl} (h : ρ[i]? = some p) : (p.a :: p.more).Nodup := (foot_pick h).nodup nd

theorem plc_nodup {ρ : List Pl} (nd : (foot ρ).Nodup) : ∀ {π : List Nat}, π.Nodup → (∀ i ∈ π, i < ρ.length) → (foot (plc ρ π)).Nodup
  | [], _, _ => List.nodup_nil
  | i :: π, h, hl => by
    have hi := hl i List.mem_cons_self
    have hi' := List.getElem?_eq_getElem hi
    have hl' := fun j hj => hl j (List.mem_cons_of_mem _ hj)
    refine List.nodup_append.mpr ⟨?_, plc_nodup nd (List.nodup_cons.mp h).2 hl', fun a ha b hb e => ?_⟩
    · rw [hi']; exact foot_nodup_get nd hi'
    · subst e
      rw [hi'] at ha
      obtain ⟨j, q, hq, hb'⟩ := foot_get hb
      obtain ⟨k, hk, hkq⟩ := plc_get' hl' hq
      refine foot_apart nd hi' hkq (fun e => ?_) a ha hb'
      subst e
      exact (List.nodup_cons.mp h).1 (List.mem_of_getElem? hk)
theorem plc_sub {ρ : List Pl} {π : List Nat} (hl : ∀ i ∈ π, i < ρ.length) {a : Addr} (h : a ∈ foot (plc ρ π)) : a ∈ foot ρ := by
  obtain ⟨j, q, hq, hb'⟩ := foot_get h
  obtain ⟨k, hk, hkq⟩ := plc_get' hl hq
  exact foot_mem_of_get hkq a hb'

theorem Held.lt {r : Nat → Nat} {os : List AO} : ∀ {π : List Nat} {os₀ : List AO}, Held r os π os₀ → ∀ i ∈ π, i < os.length
  | [], [], _ => fun _ h => nomatch h
  | i :: π, _ :: _, h => fun j hj => (List.mem_cons.mp hj).elim (fun e => by subst e; exact (List.getElem?_eq_some_iff.mp h.1).1) (Held.lt h.2 j)
theorem Held.length {r : Nat → Nat} {os : List AO} : ∀ {π : List Nat} {os₀ : List AO}, Held r os π os₀ → π.length = os₀.length
  | [], [], _ => rfl
  | _ :: _, _ :: _, h => congrArg (· + 1) h.2.length
theorem Held.get {r : Nat → Nat} {os : List AO} : ∀ {π : List Nat} {os₀ : List AO}, Held r os π os₀ → ∀ {j : Nat} {o : AO}, os₀[j]? = some o → ∃ i, π[j]? = some i ∧ os[i]? = some (o.ren r)
  | [], [], _, j, o, e => by simp at e
  | i :: π, _ :: _, h, 0, o, e => by simp at e; subst e; exact ⟨i, rfl, h.1⟩
  | _ :: π, _ :: _, h, j + 1, o, e => by simp at e; simpa using h.2.get e

theorem AVs.refs_ren {f : Nat → Nat} : ∀ {xs : List AV}, AVs.refs (xs.map (AV.ren f)) = (AVs.refs xs).map f
  | [] => rfl
  | x :: xs => by
    show (x.ren f).refs ++ AVs.refs (xs.map _) = _
    rw [AVs.refs_ren, show AVs.refs (x :: xs) = x.refs ++ AVs.refs xs from rfl, List.map_append]
    congr 1
    cases x <;> rfl

theorem XO.refs_ren {f : Nat → Nat} {k : XO} {i : Nat} (hi : i ∈ (k.ren f).refs) : ∃ j ∈ k.refs, f j = i := by
  cases k with
  | tab cs => obtain ⟨j, hj, e⟩ := List.mem_map.mp hi; exact ⟨j, hj, e⟩
  | code j => cases hi
  | fn j cl t rd =>
    rcases List.mem_append.mp hi with hi | hi
    · cases rd with
      | none => cases hi
      | some r =>
        have e : i = f r := by simpa using hi
        exact ⟨r, List.mem_append_left _ (by simp), e.symm⟩
    · rcases List.mem_cons.mp hi with rfl | hi
      · exact ⟨t, List.mem_append_right _ List.mem_cons_self, rfl⟩
      · rw [List.map_map] at hi
        obtain ⟨q, hq, rfl⟩ := List.mem_map.mp hi
        exact ⟨q.2, List.mem_append_right _ (List.mem_cons_of_mem _ (List.mem_map.mpr ⟨q, hq, rfl⟩)), rfl⟩
  | inst m =>
    have : AVs.refs ((m.map fun q => (q.1, q.2.ren f)).map (·.2)) = (AVs.refs (m.map (·.2))).map f := by
      rw [← AVs.refs_ren, List.map_map, List.map_map]; rfl
    have hi : i ∈ AVs.refs ((m.map fun q => (q.1, q.2.ren f)).map (·.2)) := hi
    rw [this] at hi
    obtain ⟨j, hj, rfl⟩ := List.mem_map.mp hi
    exact ⟨j, hj, rfl⟩
  | citer y =>
    rcases List.mem_cons.mp hi with rfl | hi
    · exact ⟨y, List.mem_cons_self, rfl⟩
    · cases hi
  | meth y =>
    rcases List.mem_cons.mp hi with rfl | hi
    · exact ⟨y, List.mem_cons_self, rfl⟩
    · cases hi
  | junk => cases hi
  | rdict y =>
    rcases List.mem_cons.mp hi with rfl | hi
    · exact ⟨y, List.mem_cons_self, rfl⟩
    · cases hi
theorem AV.ren_ren {f g : Nat → Nat} {v : AV} (hg : ∀ i ∈ v.refs, g (f i) = i) : (v.ren f).ren g = v := by
  cases v <;> first | rfl | (exact congrArg AV.ref (hg _ List.mem_cons_self))
theorem XO.ren_ren {f g : Nat → Nat} {k : XO} (hg : ∀ i ∈ k.refs, g (f i) = i) : (k.ren f).ren g = k := by
  cases k with
  | tab cs =>
    have : (cs.map f).map g = cs := by
      rw [List.map_map]
      conv => rhs; rw [← List.map_id cs]
      exact List.map_congr_left fun q hq => hg q hq
    show XO.tab _ = _
    rw [this]
  | code j => rfl
  | fn j cl t rd =>
    have h1 : (cl.map fun q => (q.1, f q.2)).map (fun q => (q.1, g q.2)) = cl := by
      rw [List.map_map]
      conv => rhs; rw [← List.map_id cl]
      refine List.map_congr_left fun q hq => ?_
      show (q.1, g (f q.2)) = q
      rw [hg q.2 (List.mem_append_right _ (List.mem_cons_of_mem _ (List.mem_map.mpr ⟨q, hq, rfl⟩)))]
    have h2 : g (f t) = t := hg t (List.mem_append_right _ List.mem_cons_self)
    have h3 : (rd.map f).map g = rd := by
      cases rd with
      | none => rfl
      | some r => exact congrArg some (hg r (List.mem_append_left _ (by simp)))
    show XO.fn j _ _ _ = _
    rw [h1, h2, h3]
  | inst m =>
    replace hg : ∀ i ∈ AVs.refs (m.map (·.2)), g (f i) = i := hg
    have : (m.map fun q => (q.1, q.2.ren f)).map (fun q => (q.1, q.2.ren g)) = m := by
      induction m with
      | nil => rfl
      | cons q m ih =>
        rw [List.map_cons, List.map_cons, ih (fun i hi => hg i (List.mem_append_right _ hi)), AV.ren_ren (fun i hi => hg i (List.mem_append_left _ hi))]
    show XO.inst _ = _
    rw [this]
  | citer y => exact congrArg XO.citer (hg y List.mem_cons_self)
  | meth y => exact congrArg XO.meth (hg y List.mem_cons_self)
  | junk => rfl
  | rdict y => exact congrArg XO.rdict (hg y List.mem_cons_self)

theorem OR.unren {c : Cx} {ρ ρ' : List Pl} {f g : Nat → Nat} {o : AO} {p : Pl} {h : Heap} (x : OR c ρ' (o.ren f) p h) (hg : ∀ i ∈ o.refs, g (f i) = i) (e : ∀ i ∈ o.refs, ∀ p, ρ'[f i]? = some p → ρ[i]? = some p) : OR c ρ o p h := by
  cases o with
  | list xs =>
    obtain ⟨e', vs, h1, h2⟩ := x
    refine ⟨e', vs, ?_, h2⟩
    have := h1.ren (f := g) (ρ' := ρ) (by
      rw [AVs.refs_ren]; intro i hi p hp
      obtain ⟨j, hj, rfl⟩ := List.mem_map.mp hi
      rw [hg j hj]; exact e j hj p hp)
    rw [List.map_map] at this
    have q : ∀ ys : List AV, (∀ i ∈ AVs.refs ys, g (f i) = i) → ys.map (AV.ren g ∘ AV.ren f) = ys := by
      intro ys; induction ys with
      | nil => intro _; rfl
      | cons y ys ih =>
        intro hh
        rw [List.map_cons, ih fun i hi => hh i (List.mem_append_right _ hi)]
        congr 1
        cases y <;> first | rfl | (exact congrArg AV.ref (hh _ (List.mem_append_left _ List.mem_cons_self)))
    rwa [q xs hg] at this
  | tup xs =>
    obtain ⟨e', vs, h1, h2⟩ := x
    refine ⟨e', vs, ?_, h2⟩
    have := h1.ren (f := g) (ρ' := ρ) (by
      rw [AVs.refs_ren]; intro i hi p hp
      obtain ⟨j, hj, rfl⟩ := List.mem_map.mp hi
      rw [hg j hj]; exact e j hj p hp)
    rw [List.map_map] at this
    have q : ∀ ys : List AV, (∀ i ∈ AVs.refs ys, g (f i) = i) → ys.map (AV.ren g ∘ AV.ren f) = ys := by
      intro ys; induction ys with
      | nil => intro _; rfl
      | cons y ys ih =>
        intro hh
        rw [List.map_cons, ih fun i hi => hh i (List.mem_append_right _ hi)]
        congr 1
        cases y <;> first | rfl | (exact congrArg AV.ref (hh _ (List.mem_append_left _ List.mem_cons_self)))
    rwa [q xs hg] at this
  | cell v =>
    obtain ⟨e', v', h1, h2⟩ := x
    refine ⟨e', v', ?_, h2⟩
    cases v with
    | none => cases v' <;> exact h1
    | some v =>
      cases v' with
      | none => exact h1.elim
      | some v' =>
        have h1 : VR ρ' (v.ren f) v' := h1
        show VR ρ v v'
        cases v with
        | ref i => obtain ⟨p, hp, rfl⟩ := h1; exact ⟨p, e i List.mem_cons_self p hp, rfl⟩
        | _ => exact h1
  | rng lo hi => exact x
  | x k =>
    have := c.XR_map (ρ' := ρ) g x (by
      intro i hi p hp
      have : ∃ j ∈ k.refs, f j = i := XO.refs_ren hi
      obtain ⟨j, hj, rfl⟩ := this
      rw [hg j hj]; exact e j hj p hp)
    have q : (k.ren f).ren g = k := XO.ren_ren hg
    rwa [q] at this

/-- updates, seen index by index -/
theorem upd_length (r : Nat → Nat) : ∀ (π : List Nat) (os' os : List AO), (upd r π os' os).length = os.length
  | [], _, _ => rfl
  | _ :: _, [], _ => rfl
  | i :: π, o :: os', os => by show (upd r π os' (os.set i _)).length = _; rw [upd_length r π os']; simp
theorem upd_miss (r : Nat → Nat) : ∀ {π : List Nat} {os' os : List AO} {i : Nat}, i ∉ π → (upd r π os' os)[i]? = os[i]?
  | [], _, _, _, _ => rfl
  | _ :: _, [], _, _, _ => rfl
  | j :: π, o :: os', os, i, h => by
    show (upd r π os' (os.set j _))[i]? = _
    rw [upd_miss r fun hm => h (List.mem_cons_of_mem _ hm), List.getElem?_set_ne (fun e => h (by rw [← e]; exact List.mem_cons_self))]
theorem upd_hit (r : Nat → Nat) : ∀ {π : List Nat} {os' os : List AO} {i j : Nat} {o : AO}, π.Nodup → (∀ i ∈ π, i < os.length) → π[j]? = some i → os'[j]? = some o → (upd r π os' os)[i]? = some (o.ren r)
  | k :: π, o' :: os', os, i, 0, o, nd, hl, h1, h2 => by
    simp at h1 h2; subst h1; subst h2
    show (upd r π os' (os.set k _))[k]? = _
    rw [upd_miss r (List.nodup_cons.mp nd).1, List.getElem?_set_self (hl k List.mem_cons_self)]
  | k :: π, o' :: os', os, i, j + 1, o, nd, hl, h1, h2 => by
    simp at h1 h2
    show (upd r π os' (os.set k _))[i]? = _
    exact upd_hit r (List.nodup_cons.mp nd).2 (fun i hi => by rw [List.length_set]; exact hl i (List.mem_cons_of_mem _ hi)) h1 h2

theorem ORs.of_get {c : Cx} {ρ : List Pl} {h : Heap} : ∀ {os : List AO} {ps : List Pl}, os.length = ps.length → (∀ (i : Nat) (o : AO) (p : Pl), os[i]? = some o → ps[i]? = some p → OR c ρ o p h) → ORs c ρ os ps h
  | [], [], _, _ => trivial
  | o :: os, p :: ps, hl, g => ⟨g 0 o p rfl rfl, ORs.of_get (by simpa using hl) fun i o p h1 h2 => g (i + 1) o p (by simpa using h1) (by simpa using h2)⟩

section
variable {c : Cx} {n : Nat}

theorem Op.frame {t : List Value → Sem Value} {args : List AV} {os₀ os₀' new os : List AO} {v : AV} {π : List Nat} (h : Op c n t args os₀ v (os₀' ++ new)) (hl : os₀'.length = os₀.length) (nd : π.Nodup)
    (hd : Held (out π os.length) os π os₀) (hc : ∀ o ∈ os₀, ∀ i ∈ o.refs, i < os₀.length) :
    Op c n t (args.map (AV.ren (out π os.length))) os (v.ren (out π os.length)) (upd (out π os.length) π os₀' os ++ new.map (AO.ren (out π os.length))) := fun A ρ s xs rm r hx => by
  have hlen := r.objs.length
  have hπl := hd.length
  have hlt : ∀ i ∈ π, i < ρ.length := fun i hi => hlen ▸ hd.lt i hi
  -- outer to inner places
  have o2i : ∀ j p, ρ[out π os.length j]? = some p → (plc ρ π)[j]? = some p := fun j p e => by
    unfold out at e
    by_cases hj : j < π.length
    · rw [if_pos hj] at e
      have : π[j]? = some (π.getD j 0) := by rw [List.getD_eq_getElem?_getD, List.getElem?_eq_getElem hj]; rfl
      exact plc_get this e
    · rw [if_neg hj, hlen] at e
      have := (List.getElem?_eq_some_iff.mp e).1
      omega
  have i2o : ∀ (nw : List Pl) j p, (plc ρ π ++ nw)[j]? = some p → (ρ ++ nw)[out π os.length j]? = some p := fun nw j p e => by
    unfold out
    by_cases hj : j < π.length
    · rw [if_pos hj]
      rw [List.getElem?_append_left (by rw [plc_length]; exact hj)] at e
      obtain ⟨i, h1, h2⟩ := plc_get' hlt e
      have : π.getD j 0 = i := by rw [List.getD_eq_getElem?_getD, h1]; rfl
      rw [this]; exact getElem?_mono h2
    · rw [if_neg hj, hlen, List.getElem?_append_right (Nat.le_add_right _ _), Nat.add_sub_cancel_left]
      rw [List.getElem?_append_right (by rw [plc_length]; omega), plc_length] at e
      exact e
  -- a way back from outer to inner names
  let g : Nat → Nat := fun i => π.idxOf i
  have hg : ∀ j, j < π.length → g (out π os.length j) = j := fun j hj => by
    show π.idxOf (out π os.length j) = j
    unfold out
    rw [if_pos hj, List.getD_eq_getElem?_getD, List.getElem?_eq_getElem hj]
    exact nd.idxOf_getElem j hj
  have r0 : Rel c [] os₀ (plc ρ π) s.heap := by
    refine ⟨ORs.of_get (by rw [plc_length, hπl]) fun j o p h1 h2 => ?_, by simpa using plc_nodup (by simpa using r.nodup) nd hlt, r.keep, fun a ha => r.fresh a (by simpa using plc_sub hlt (by simpa using ha)), fun a ha => r.live a (by simpa using plc_sub hlt (by simpa using ha))⟩
    obtain ⟨i, h3, h4⟩ := hd.get h1
    obtain ⟨q, h5, h6⟩ := r.objs.get h4
    have h7 := plc_get h3 h5
    rw [h2] at h7; cases h7
    refine h6.unren (g := g) (fun k hk => hg k ?_) fun k hk p hp => o2i k p hp
    have := hc o (List.mem_of_getElem? h1) k hk
    omega
  intro Q E hq
  refine h A (plc ρ π) s xs rm r0 (VRs.unren (fun i p hp => o2i i p hp) hx) Q E fun y h' tk' ρ' q p => ?_
  obtain ⟨nw, rfl, hf⟩ := q.grow
  have hll := p.1.objs.length
  rw [List.length_append, List.length_append, plc_length, hl, hπl] at hll
  have hnl : new.length = nw.length := by omega
  refine hq y h' tk' (ρ ++ nw) ⟨⟨nw, rfl, hf⟩, fun a o e ha => q.keep a o e fun hm => ha (by simpa using plc_sub hlt (by simpa using hm)), q.size⟩ ⟨⟨?_, ?_, p.1.keep, fun a ha => ?_, fun a ha => ?_⟩, p.2.ren fun i _ p hp => i2o nw i p hp⟩
  · refine ORs.of_get (by simp [upd_length, hlen, hnl]) fun i o pl h1 h2 => ?_
    by_cases hi : i < ρ.length
    · rw [List.getElem?_append_left (by rw [upd_length, hlen]; exact hi)] at h1
      rw [List.getElem?_append_left hi] at h2
      by_cases hm : i ∈ π
      · obtain ⟨j, hj, e⟩ := List.getElem_of_mem hm
        have hj' : π[j]? = some i := by rw [List.getElem?_eq_getElem hj, e]
        have hjo : j < os₀'.length := by omega
        have ho' := List.getElem?_eq_getElem hjo
        rw [upd_hit _ nd (fun i hi => hd.lt i hi) hj' ho'] at h1
        cases h1
        obtain ⟨pl', h3, h4⟩ := p.1.objs.get (i := j) (o := os₀'[j]) (by rw [List.getElem?_append_left hjo]; exact ho')
        rw [List.getElem?_append_left (by rw [plc_length]; exact hj), plc_get hj' h2] at h3
        cases h3
        exact h4.ren fun i _ p hp => i2o nw i p hp
      · rw [upd_miss _ hm] at h1
        obtain ⟨pl', h3, h4⟩ := r.objs.get h1
        rw [h2] at h3; cases h3
        refine (h4.mono nw).loc p.1.keep fun a ha ob e => q.keep a ob e fun hmem => ?_
        obtain ⟨j, pq, h5, h6⟩ := foot_get (by simpa using hmem : a ∈ foot (plc ρ π))
        obtain ⟨k, h7, h8⟩ := plc_get' hlt h5
        exact foot_apart (by simpa using r.nodup) h2 h8 (fun e => hm (e ▸ List.mem_of_getElem? h7)) a ha h6
    · rw [List.getElem?_append_right (by rw [upd_length, hlen]; omega), upd_length, hlen] at h1
      rw [List.getElem?_append_right (by omega)] at h2
      rw [List.getElem?_map] at h1
      cases hn : new[i - ρ.length]? with
      | none => rw [hn] at h1; cases h1
      | some o' =>
        rw [hn] at h1; cases h1
        obtain ⟨pl', h3, h4⟩ := p.1.objs.get (i := os₀'.length + (i - ρ.length)) (o := o') (by rw [List.getElem?_append_right (Nat.le_add_right _ _), Nat.add_sub_cancel_left]; exact hn)
        rw [List.getElem?_append_right (by rw [plc_length]; omega), plc_length, show os₀'.length + (i - ρ.length) - π.length = i - ρ.length by omega, h2] at h3
        cases h3
        exact h4.ren fun i _ p hp => by have := i2o nw i p hp; rw [hlen] at this; exact this
  · have n1 : (foot ρ).Nodup := by simpa using r.nodup
    have n2 : (foot nw).Nodup := by
      have := p.1.nodup
      rw [foot_append] at this
      exact (List.nodup_append.mp (List.nodup_append.mp this).2.1).2.1
    rw [foot_append]
    refine List.nodup_append.mpr ⟨List.nodup_nil, List.nodup_append.mpr ⟨n1, n2, fun a ha b hb e => ?_⟩, fun a ha => by cases ha⟩
    subst e
    exact absurd (r.live a (by simpa using ha)) (Nat.not_lt.mpr (hf a hb))
  · rw [foot_append] at ha
    rcases List.mem_append.mp (by simpa using ha : a ∈ foot ρ ++ foot nw) with ha | ha
    · exact r.fresh a (by simpa using ha)
    · exact p.1.fresh a (by rw [foot_append]; simp [ha])
  · rw [foot_append] at ha
    rcases List.mem_append.mp (by simpa using ha : a ∈ foot ρ ++ foot nw) with ha | ha
    · exact Nat.lt_of_lt_of_le (r.live a (by simpa using ha)) q.size
    · exact p.1.live a (by rw [foot_append]; simp [ha])
end
end Mine
end

section
open PySem PySem.W PyProof.Rows PyProof.V PySem.Spec PySem.SeqAt
set_option linter.unusedVariables false
namespace Mine

/-! ### what an operation gives, where that is plain -/

noncomputable def listOf : Option AO → Option (List AV)
  | some (.list xs) => some xs
  | _ => none
theorem listOf_ok {o : Option AO} {xs : List AV} (h : listOf o = some xs) : o = some (.list xs) := by
  cases o with
  | none => cases h
  | some o => cases o with
    | list xs => cases h; rfl
    | _ => cases h
noncomputable def addRef (i j : Nat) (os : List AO) : Option (AV × List AO × Prop) := (listOf os[i]?).bind fun xs => (listOf os[j]?).bind fun ys => some (.ref os.length, os ++ [.list (xs ++ ys)], xs.length + ys.length ≤ sizeLine)
noncomputable def autoBin (op : Operator) (a b : AV) (os : List AO) : Option (AV × List AO × Prop) :=
  match op with
  | .Add => (match a with
    | .int i => (match b with | .int j => some (.int (i + j), os, True) | _ => none)
    | .str x => (match b with | .str y => some (.str (x ++ y), os, x.length + y.length ≤ sizeLine) | _ => none)
    | .ref i => (match b with | .ref j => addRef i j os | _ => none)
    | _ => none)
  | .Sub => (match a with | .int i => (match b with | .int j => some (.int (i - j), os, True) | _ => none) | _ => none)
  | .Mod => (match a with | .int i => (match b with | .int j => some (.int (i.fmod j), os, j ≠ 0) | _ => none) | _ => none)
  | .Mult => (match a with | .int i => (match b with | .int j => some (.int (i * j), os, IntMulOk i j) | _ => none) | _ => none)
  | _ => none
noncomputable def autoInp (op : Operator) (a b : AV) (os : List AO) : Option (AV × List AO × Prop) :=
  match op with
  | .Add => (match a with
    | .int i => (match b with | .int j => some (.int (i + j), os, True) | _ => none)
    | .str x => (match b with | .str y => some (.str (x ++ y), os, x.length + y.length ≤ sizeLine) | _ => none)
    | _ => none)
  | _ => none
noncomputable def cmpI (op : CmpOp) (i j : Int) : Option Bool := match op with
  | .Eq => some (i == j)
  | .NotEq => some (i != j)
  | .Lt => some (decide (i < j))
  | .Gt => some (decide (j < i))
  | .GtE => some (decide (j ≤ i))
  | _ => none
noncomputable def cmpS (op : CmpOp) (x y : Str) : Option Bool := match op with
  | .Eq => some (x == y)
  | .NotEq => some (x != y)
  | .In => some (inS y x)
  | .NotIn => some (!inS y x)
  | _ => none
noncomputable def cmpB (op : CmpOp) (i j : Bool) : Option Bool := match op with
  | .Eq => some (i == j)
  | _ => none
noncomputable def cmpV (op : CmpOp) (a b : AV) : Option Bool := match a with
  | .int i => (match b with | .int j => cmpI op i j | _ => none)
  | .str x => (match b with | .str y => cmpS op x y | _ => none)
  | .bool i => (match b with | .bool j => cmpB op i j | _ => none)
  | _ => none
noncomputable def autoCmp (op : CmpOp) (a b : AV) (os : List AO) : Option (AV × List AO × Prop) := match cmpV op a b with
  | some z => some (.bool z, os, True)
  | none => none

noncomputable def callLen (vs : List AV) (os : List AO) : Option (AV × List AO × Prop) := match vs with
  | [] => none
  | a :: vs => (match vs with
    | [] => (match a with
      | .str x => some (.int x.length, os, x.length ≤ sizeLine)
      | .ref i => (listOf os[i]?).bind fun xs => some (.int xs.length, os, xs.length ≤ sizeLine)
      | _ => none)
    | _ :: _ => none)
noncomputable def two2 (vs : List AV) : Option (AV × AV) := match vs with
  | [] => none
  | a :: vs => (match vs with
    | [] => none
    | b :: vs => (match vs with
      | [] => some (a, b)
      | _ :: _ => none))
theorem two2_ok {vs : List AV} {p : AV × AV} (h : two2 vs = some p) : vs = [p.1, p.2] := by
  cases vs with
  | nil => cases h
  | cons a vs => cases vs with
    | nil => cases h
    | cons b vs => cases vs with
      | nil => cases h; rfl
      | cons d vs => cases h
noncomputable def callCount (vs : List AV) (os : List AO) : Option (AV × List AO × Prop) := (two2 vs).bind fun p => match p.1 with
  | .str x => (match p.2 with | .str y => some (.int (Txt.count x y), os, True) | _ => none)
  | _ => none
noncomputable def callApp (vs : List AV) (os : List AO) : Option (AV × List AO × Prop) := (two2 vs).bind fun p => match p.1 with
  | .ref i => (listOf os[i]?).bind fun xs => some (.none, os.set i (.list (xs ++ [p.2])), xs.length ≤ sizeLine)
  | _ => none
noncomputable def callRng (vs : List AV) (os : List AO) : Option (AV × List AO × Prop) := match vs with
  | [] => none
  | a :: vs => (match a with
    | .int j => (match vs with
      | [] => some (.ref os.length, os ++ [.rng 0 j], True)
      | b :: vs => (match b with
        | .int k => (match vs with | [] => some (.ref os.length, os ++ [.rng j k], True) | _ :: _ => none)
        | _ => none))
    | _ => none)
noncomputable def autoCall (f : Value) (vs : List AV) (os : List AO) : Option (AV × List AO × Prop) :=
  match f with
  | .builtin id => if id = "len" then callLen vs os else if id = "str.count" then callCount vs os else if id = "list.append" then callApp vs os else none
  | .type T => if T = "range" then callRng vs os else none
  | _ => none

noncomputable def OkO {α : Type} (r : Option α) (P : α → Prop) : Prop := match r with
  | none => True
  | some a => P a
theorem OkO.get {α : Type} {r : Option α} {P : α → Prop} (h : OkO r P) {a : α} (e : r = some a) : P a := by subst e; exact h
noncomputable def OkR (r : Option (AV × List AO × Prop)) (P : AV → List AO → Prop) : Prop := match r with
  | none => True
  | some r => r.2.2 → P r.1 r.2.1
theorem OkR.bind {α : Type} {o : Option α} {f : α → Option (AV × List AO × Prop)} {P : AV → List AO → Prop} (h : ∀ x, o = some x → OkR (f x) P) : OkR (o.bind f) P := by
  cases o with
  | none => exact True.intro
  | some x => exact h x rfl

section
variable {c : Cx} {n : Nat}
theorem addRef_ok {i j : Nat} {os : List AO} : OkR (addRef i j os) (Op2 c n (binaryOp .Add) (.ref i) (.ref j) os) := OkR.bind fun xs h1 => OkR.bind fun ys h2 hφ => add_l (listOf_ok h1) (listOf_ok h2) hφ
theorem autoBin_ok (op : Operator) (a b : AV) (os : List AO) : OkR (autoBin op a b os) (Op2 c n (binaryOp op) a b os) := by
  cases op with
  | Add => cases a with
    | int i => cases b with
      | int j => exact fun _ => add_i
      | _ => exact True.intro
    | str x => cases b with
      | str y => exact fun hφ => add_s hφ
      | _ => exact True.intro
    | ref i => cases b with
      | ref j => exact addRef_ok
      | _ => exact True.intro
    | _ => exact True.intro
  | Sub => cases a with
    | int i => cases b with
      | int j => exact fun _ => sub_i
      | _ => exact True.intro
    | _ => exact True.intro
  | Mod => cases a with
    | int i => cases b with
      | int j => exact fun hφ => mod_i hφ
      | _ => exact True.intro
    | _ => exact True.intro
  | Mult => cases a with
    | int i => cases b with
      | int j => exact fun hφ => mul_i hφ
      | _ => exact True.intro
    | _ => exact True.intro
  | _ => exact True.intro
theorem autoInp_ok (op : Operator) (a b : AV) (os : List AO) : OkR (autoInp op a b os) (Op2 c n (inplaceOp op) a b os) := by
  cases op with
  | Add => cases a with
    | int i => cases b with
      | int j => exact fun _ => iadd_i
      | _ => exact True.intro
    | str x => cases b with
      | str y => exact fun hφ => iadd_s hφ
      | _ => exact True.intro
    | _ => exact True.intro
  | _ => exact True.intro
theorem cmpI_ok (op : CmpOp) (i j : Int) (os : List AO) : OkO (cmpI op i j) fun z => Op2 c n (compareOp op) (.int i) (.int j) os (.bool z) os := by
  cases op with
  | Eq => exact eq_i
  | NotEq => exact ne_i
  | Lt => exact lt_i
  | Gt => exact gt_i
  | GtE => exact ge_i
  | _ => exact True.intro
theorem cmpS_ok (op : CmpOp) (i j : Str) (os : List AO) : OkO (cmpS op i j) fun z => Op2 c n (compareOp op) (.str i) (.str j) os (.bool z) os := by
  cases op with
  | Eq => exact eq_s
  | NotEq => exact ne_s
  | In => exact in_s
  | NotIn => exact notin_s
  | _ => exact True.intro
theorem cmpB_ok (op : CmpOp) (i j : Bool) (os : List AO) : OkO (cmpB op i j) fun z => Op2 c n (compareOp op) (.bool i) (.bool j) os (.bool z) os := by
  cases op with
  | Eq => exact eq_b
  | _ => exact True.intro
theorem cmpV_ok (op : CmpOp) (a b : AV) (os : List AO) : OkO (cmpV op a b) fun z => Op2 c n (compareOp op) a b os (.bool z) os := by
  cases a with
  | int i => cases b with
    | int j => exact cmpI_ok op i j os
    | _ => exact True.intro
  | str i => cases b with
    | str j => exact cmpS_ok op i j os
    | _ => exact True.intro
  | bool i => cases b with
    | bool j => exact cmpB_ok op i j os
    | _ => exact True.intro
  | _ => exact True.intro
theorem autoCmp_ok (op : CmpOp) (a b : AV) (os : List AO) : OkR (autoCmp op a b os) (Op2 c n (compareOp op) a b os) := by
  have h := cmpV_ok (c := c) (n := n) op a b os
  unfold autoCmp
  cases hz : cmpV op a b with
  | none => exact True.intro
  | some z => rw [hz] at h; exact fun _ => h
theorem callLen_ok (vs : List AV) (os : List AO) : OkR (callLen vs os) (CallR c n (.builtin "len") vs os) := by
  cases vs with
  | nil => exact True.intro
  | cons a vs => cases vs with
    | nil => cases a with
      | str x => exact fun hφ => len_s hφ
      | ref i => exact OkR.bind fun xs h1 hφ => len_l (listOf_ok h1) hφ
      | _ => exact True.intro
    | cons b vs => exact True.intro
theorem callCount_ok (vs : List AV) (os : List AO) : OkR (callCount vs os) (CallR c n (.builtin "str.count") vs os) := OkR.bind fun p h1 => by
  obtain ⟨a, b⟩ := p
  rw [two2_ok h1]
  cases a with
  | str x => cases b with
    | str y => exact fun _ => count_s
    | _ => exact True.intro
  | _ => exact True.intro
theorem callApp_ok (vs : List AV) (os : List AO) : OkR (callApp vs os) (CallR c n (.builtin "list.append") vs os) := OkR.bind fun p h1 => by
  obtain ⟨a, b⟩ := p
  rw [two2_ok h1]
  cases a with
  | ref i => exact OkR.bind fun xs h2 hφ => append_l (listOf_ok h2) hφ
  | _ => exact True.intro
theorem callRng_ok (vs : List AV) (os : List AO) : OkR (callRng vs os) (CallR c n (.type "range") vs os) := by
  cases vs with
  | nil => exact True.intro
  | cons a vs => cases a with
    | int j => cases vs with
      | nil => exact fun _ => range1
      | cons b vs => cases b with
        | int k => cases vs with
          | nil => exact fun _ => range2
          | cons d vs => exact True.intro
        | _ => exact True.intro
    | _ => exact True.intro
theorem OkR.ite {p : Prop} [Decidable p] {a b : Option (AV × List AO × Prop)} {P : AV → List AO → Prop} (h1 : p → OkR a P) (h2 : OkR b P) : OkR (if p then a else b) P := by
  by_cases e : p
  · rw [if_pos e]; exact h1 e
  · rw [if_neg e]; exact h2
theorem autoCall_ok (f : Value) (vs : List AV) (os : List AO) : OkR (autoCall f vs os) (CallR c n f vs os) := by
  cases f with
  | builtin id => exact OkR.ite (fun e => e ▸ callLen_ok vs os) (OkR.ite (fun e => e ▸ callCount_ok vs os) (OkR.ite (fun e => e ▸ callApp_ok vs os) True.intro))
  | type T => exact OkR.ite (fun e => e ▸ callRng_ok vs os) True.intro
  | _ => exact True.intro

noncomputable def mthS (name : Str) : Option Value := if name = "split" then some (.builtin "str.split") else if name = "join" then some (.builtin "str.join") else if name = "find" then some (.builtin "str.find") else if name = "count" then some (.builtin "str.count") else none
noncomputable def mthL (name : Str) : Option Value := if name = "append" then some (.builtin "list.append") else if name = "pop" then some (.builtin "list.pop") else if name = "index" then some (.builtin "list.index") else none
noncomputable def autoMth (a : AV) (name : Str) (os : List AO) : Option Value :=
  match a with
  | .str _ => mthS name
  | .ref i => (listOf os[i]?).bind fun _ => mthL name
  | _ => none
theorem OkO.ite {p : Prop} [Decidable p] {a b : Option Value} {P : Value → Prop} (h1 : p → OkO a P) (h2 : OkO b P) : OkO (if p then a else b) P := by
  by_cases e : p
  · rw [if_pos e]; exact h1 e
  · rw [if_neg e]; exact h2
theorem autoMth_ok (a : AV) (name : Str) (os : List AO) : OkO (autoMth a name os) fun f => Mth c n a name os f ∧ Callee c f := by
  cases a with
  | str x => exact OkO.ite (fun e => ⟨e ▸ mth_split, .bi _⟩) (OkO.ite (fun e => ⟨e ▸ mth_join, .bi _⟩) (OkO.ite (fun e => ⟨e ▸ mth_find, .bi _⟩) (OkO.ite (fun e => ⟨e ▸ mth_count, .bi _⟩) True.intro)))
  | ref i =>
    have key : ∀ o, listOf os[i]? = o → OkO (o.bind fun _ => mthL name) fun f => Mth c n (.ref i) name os f ∧ Callee c f := fun o ho => by
      cases o with
      | none => exact True.intro
      | some xs =>
        have ho := listOf_ok ho
        exact OkO.ite (fun e => ⟨e ▸ mth_append ho, .bi _⟩) (OkO.ite (fun e => ⟨e ▸ mth_pop ho, .bi _⟩) (OkO.ite (fun e => ⟨e ▸ mth_index ho, .bi _⟩) True.intro))
    exact key _ rfl
  | _ => exact True.intro

noncomputable def sqO : Option AO → Bool
  | none => false
  | some o => match o with | .list _ => true | .tup _ => true | _ => false
noncomputable def autoSq (a : AV) (os : List AO) : Bool := match a with
  | .str _ => true
  | .ref i => sqO os[i]?
  | _ => false
theorem autoSq_ok {a : AV} {os : List AO} (h : autoSq a os = true) : Sq os a := by
  cases a with
  | str x => exact .str
  | ref i =>
    have h : sqO os[i]? = true := h
    cases ho : os[i]? with
    | none => rw [ho] at h; cases h
    | some o =>
      rw [ho] at h
      cases o with
      | list xs => exact .list ho
      | tup xs => exact .tup ho
      | _ => cases h
  | _ => cases h

noncomputable def itemL (xs : List AV) (k : Int) (os : List AO) : Option (AV × List AO × Prop) := match decide (0 ≤ k) with
  | true => xs[k.toNat]?.bind fun v => some (v, os, k < 2 ^ 63)
  | false => xs[(k + xs.length).toNat]?.bind fun v => some (v, os, -(xs.length : Int) ≤ k ∧ -(2 ^ 63) ≤ k)
noncomputable def itemT (xs : List AV) (k : Int) (os : List AO) : Option (AV × List AO × Prop) := (seqIndex? k xs.length).bind fun j => xs[j]?.bind fun v => some (v, os, -(2 ^ 63) ≤ k ∧ k < 2 ^ 63)
noncomputable def itemO (k : Int) (os : List AO) : Option AO → Option (AV × List AO × Prop)
  | none => none
  | some o => match o with
    | .list xs => itemL xs k os
    | .tup xs => itemT xs k os
    | _ => none
noncomputable def autoItem (a b : AV) (os : List AO) : Option (AV × List AO × Prop) :=
  match a with
  | .ref i => (match b with | .int k => itemO k os os[i]? | _ => none)
  | _ => none
theorem itemL_ok {i : Nat} {xs : List AV} {k : Int} {os : List AO} (ho : os[i]? = some (.list xs)) : OkR (itemL xs k os) (Op2 c n getItem (.ref i) (.int k) os) := by
  unfold itemL
  cases hk : decide (0 ≤ k) with
  | true => exact OkR.bind fun v h1 hφ => item_l ho (of_decide_eq_true hk) hφ h1
  | false => exact OkR.bind fun v h1 hφ => item_ln ho (Int.not_le.mp (of_decide_eq_false hk)) hφ.1 hφ.2 h1
theorem itemT_ok {i : Nat} {xs : List AV} {k : Int} {os : List AO} (ho : os[i]? = some (.tup xs)) : OkR (itemT xs k os) (Op2 c n getItem (.ref i) (.int k) os) := OkR.bind fun j h1 => OkR.bind fun v h2 hφ => item_t ho hφ.1 hφ.2 h1 h2
theorem itemO_ok {i : Nat} {k : Int} {os : List AO} {o : Option AO} (ho : os[i]? = o) : OkR (itemO k os o) (Op2 c n getItem (.ref i) (.int k) os) := by
  cases o with
  | none => exact True.intro
  | some o => cases o with
    | list xs => exact itemL_ok ho
    | tup xs => exact itemT_ok ho
    | _ => exact True.intro
theorem autoItem_ok (a b : AV) (os : List AO) : OkR (autoItem a b os) (Op2 c n getItem a b os) := by
  cases a with
  | ref i => cases b with
    | int k => exact itemO_ok rfl
    | _ => exact True.intro
  | _ => exact True.intro

noncomputable def autoSlice (a : AV) (lo hi st : Option Int) (os : List AO) : Option (AV × List AO × Prop) :=
  match st with
  | none => (match a with
    | .str x => some (.str (cutS x lo hi), os, x.length ≤ sizeLine)
    | .ref i => (listOf os[i]?).bind fun xs => some (.ref os.length, os ++ [.list (cut xs lo hi)], xs.length ≤ sizeLine)
    | _ => none)
  | some _ => none
theorem autoSlice_ok (a : AV) (lo hi st : Option Int) (os : List AO) : OkR (autoSlice a lo hi st os) (SlOp c n a lo hi st os) := by
  cases st with
  | some _ => exact True.intro
  | none => cases a with
    | str x => exact fun hφ => slice_s hφ
    | ref i => exact OkR.bind fun xs h1 hφ => slice_ls (listOf_ok h1) hφ
    | _ => exact True.intro

noncomputable def truO : Option AO → Option (Bool × Prop)
  | none => none
  | some o => match o with
    | .list xs => some (xs.length != 0, xs.length ≤ sizeLine)
    | .tup xs => some (xs.length != 0, xs.length ≤ sizeLine)
    | _ => none
noncomputable def autoTru (a : AV) (os : List AO) : Option (Bool × Prop) :=
  match a with
  | .bool b => some (b, True)
  | .str x => some (x.length != 0, x.length ≤ sizeLine)
  | .ref i => truO os[i]?
  | _ => none
noncomputable def OkT (r : Option (Bool × Prop)) (P : Bool → Prop) : Prop := match r with
  | none => True
  | some r => r.2 → P r.1
theorem truO_ok {i : Nat} {os : List AO} {o : Option AO} (ho : os[i]? = o) : OkT (truO o) (Tru c n (.ref i) os) := by
  cases o with
  | none => exact True.intro
  | some o => cases o with
    | list xs => exact fun hφ => tru_l ho hφ
    | tup xs => exact fun hφ => tru_t ho hφ
    | _ => exact True.intro
theorem autoTru_ok (a : AV) (os : List AO) : OkT (autoTru a os) (Tru c n a os) := by
  cases a with
  | bool z => exact fun _ => tru_b
  | str x => exact fun hφ => tru_s hφ
  | ref i => exact truO_ok rfl
  | _ => exact True.intro

/-! ### the evaluator: what cannot be told is asked -/

structure St where
  σ : S
  q : List (AV × List AO)
  φ : Prop

noncomputable def ask (st : St) (P : AV → List AO → Prop) : Option (AV × St) := match st.q with
  | (v, os') :: q => some (v, ⟨⟨st.σ.vs, os'⟩, q, st.φ ∧ P v os'⟩)
  | [] => none
noncomputable def fin (st : St) (r : Option (AV × List AO × Prop)) (P : AV → List AO → Prop) : Option (AV × St) := match r with
  | some (v, os', φ) => some (v, ⟨⟨st.σ.vs, os'⟩, st.q, st.φ ∧ φ⟩)
  | none => ask st P
abbrev also (st : St) (p : Prop) : St := ⟨st.σ, st.q, st.φ ∧ p⟩

/-- what is given holds, if what is left to be shown is so -/
noncomputable def OkE {α : Type} (r : Option (α × St)) (st : St) (Q : α → S → Prop) : Prop := match r with
  | none => True
  | some r => r.2.φ → st.φ ∧ Q r.1 r.2.σ
theorem OkE.get {α : Type} {r : Option (α × St)} {st st' : St} {Q : α → S → Prop} {v : α} (h : OkE r st Q) (e : r = some (v, st')) (hφ : st'.φ) : st.φ ∧ Q v st'.σ := by
  subst e; exact h hφ
theorem OkE.step {α β : Type} {r : Option (α × St)} {x : α × St} {o : Option (β × St)} {st : St} {P : α → S → Prop} {Q : β → S → Prop} (h1 : OkE r st P) (e : r = some x) (h2 : OkE o x.2 fun v σ' => P x.1 x.2.σ → Q v σ') : OkE o st Q := by
  subst e
  cases o with
  | none => exact True.intro
  | some p => exact fun hφ => ⟨(h1 (h2 hφ).1).1, (h2 hφ).2 (h1 (h2 hφ).1).2⟩
theorem OkE.bind {α β : Type} {r : Option (α × St)} {f : α × St → Option (β × St)} {st : St} {P : α → S → Prop} {Q : β → S → Prop} (h1 : OkE r st P) (h2 : ∀ a st1, OkE (f (a, st1)) st1 fun v σ' => P a st1.σ → Q v σ') : OkE (r.bind f) st Q := by
  cases hr : r with
  | none => exact True.intro
  | some x => exact OkE.step h1 hr (h2 x.1 x.2)
theorem OkE.bindO {α β : Type} {o : Option α} {f : α → Option (β × St)} {st : St} {Q : β → S → Prop} (h : ∀ x, o = some x → OkE (f x) st Q) : OkE (o.bind f) st Q := by
  cases o with
  | none => exact True.intro
  | some x => exact h x rfl
theorem OkE.bindP {α β : Type} {o : Option α} {P : α → Prop} {f : α → Option (β × St)} {st : St} {Q : β → S → Prop} (ho : OkO o P) (h : ∀ x, P x → OkE (f x) st Q) : OkE (o.bind f) st Q := by
  cases o with
  | none => exact True.intro
  | some x => exact h x ho
theorem OkE.mono {α : Type} {r : Option (α × St)} {st : St} {P Q : α → S → Prop} (h : OkE r st P) (hq : ∀ v σ', P v σ' → Q v σ') : OkE r st Q := by
  cases r with
  | none => exact True.intro
  | some r => exact fun hφ => ⟨(h hφ).1, hq _ _ (h hφ).2⟩
theorem OkE.more {α : Type} {r : Option (α × St)} {st : St} {p : Prop} {Q : α → S → Prop} (h : OkE r (also st p) fun v σ' => p → Q v σ') : OkE r st Q := by
  cases r with
  | none => exact True.intro
  | some r => exact fun hφ => ⟨(h hφ).1.1, (h hφ).2 (h hφ).1.2⟩
theorem ask_ok {st : St} {P : AV → List AO → Prop} {Q : AV → S → Prop} (h : ∀ v os', P v os' → Q v ⟨st.σ.vs, os'⟩) : OkE (ask st P) st Q := by
  obtain ⟨σ, q, φ⟩ := st
  cases q with
  | nil => exact True.intro
  | cons r q => exact fun hφ => ⟨hφ.1, h _ _ hφ.2⟩
theorem fin_ok {st : St} {r : Option (AV × List AO × Prop)} {P : AV → List AO → Prop} {Q : AV → S → Prop} (hr : OkR r P) (h : ∀ v os', P v os' → Q v ⟨st.σ.vs, os'⟩) : OkE (fin st r P) st Q := by
  cases r with
  | some r => exact fun hφ => ⟨hφ.1, h _ _ (hr hφ.2)⟩
  | none => exact ask_ok h

inductive GOK (c : Cx) : List (Str × AV) → Prop
  | nil : GOK c []
  | glob {x : Str} {a : AV} {v : Value} {G : List (Str × AV)} (e : nsIn c.K mainGlobals x = some (some v)) (ha : ∀ ρ, VR ρ a v) (r : GOK c G) : GOK c ((x, a) :: G)
  | blt {x : Str} {v : Value} {G : List (Str × AV)} (e : nsIn c.K mainGlobals x = some Option.none) (hv : bootBuiltins x = some v) (hx : x ≠ "__name__") (r : GOK c G) : GOK c ((x, .lit v) :: G)

variable {fd : FD} {σ : S}
theorem GOK.ev {G : List (Str × AV)} (h : GOK c G) {x : Str} {v : AV} (e : G.lookup x = some v) (hl : fd.scope.names.lookup x = some .globalImplicit) (hk : fd.scope.kind = .function) (hd : (x == ("__debug__" : Str)) = false) {pos : Pos} : Ev c n fd (.Name x pos) σ v σ := by
  induction h with
  | nil => cases e
  | @glob y a w G e' ha r ih =>
    rw [List.lookup_cons] at e
    cases hy : x == y with
    | true => rw [hy] at e; cases e; obtain rfl := eq_of_beq hy; exact Ev.glob e' ha hl hk hd
    | false => rw [hy] at e; exact ih e
  | @blt y w G e' hv hx r ih =>
    rw [List.lookup_cons] at e
    cases hy : x == y with
    | true => rw [hy] at e; cases e; obtain rfl := eq_of_beq hy; exact Ev.blt e' hv hl hk hd hx
    | false => rw [hy] at e; exact ih e

noncomputable def cellOf : Option AO → Option AV
  | none => none
  | some o => match o with | .cell v => v | _ => none
theorem cellOf_ok {o : Option AO} {v : AV} (h : cellOf o = some v) : o = some (.cell (some v)) := by
  cases o with
  | none => cases h
  | some o => cases o with
    | cell w => have h : w = some v := h; rw [h]
    | _ => cases h
noncomputable def nmC (fd : FD) (x : Str) (σ : S) : Option AV := (fd.cells.lookup x).bind fun k => cellOf σ.os[k]?
noncomputable def nmK (fd : FD) (G : List (Str × AV)) (x : Str) (σ : S) : Option NameKind → Option AV
  | none => none
  | some s => match s with
    | .local => σ.vs.lookup x
    | .cell => nmC fd x σ
    | .free => (match x == ("__classdict__" : Str) with | false => nmC fd x σ | true => none)
    | .globalImplicit => G.lookup x
    | _ => none
noncomputable def nm (fd : FD) (G : List (Str × AV)) (x : Str) (σ : S) : Option AV := match x == ("__debug__" : Str) with
  | true => none
  | false => nmK fd G x σ (fd.scope.names.lookup x)
theorem nm_ok {G : List (Str × AV)} (hG : GOK c G) (hk : fd.scope.kind = .function) {x : Str} {v : AV} {pos : Pos} (h : nm fd G x σ = some v) : Ev c n fd (.Name x pos) σ v σ := by
  unfold nm at h
  cases hd : x == ("__debug__" : Str) with
  | true => rw [hd] at h; cases h
  | false =>
    rw [hd] at h
    have h : nmK fd G x σ (fd.scope.names.lookup x) = some v := h
    cases hl : fd.scope.names.lookup x with
    | none => rw [hl] at h; cases h
    | some s =>
      rw [hl] at h
      cases s with
      | «local» => exact Ev.loc h hl hk hd
      | cell =>
        obtain ⟨k, h1, h2⟩ := Option.bind_eq_some_iff.mp h
        exact Ev.cel h1 (cellOf_ok h2) hl hk hd
      | free =>
        have h : (match x == ("__classdict__" : Str) with | false => nmC fd x σ | true => none) = some v := h
        cases he : x == ("__classdict__" : Str) with
        | true => rw [he] at h; cases h
        | false =>
          rw [he] at h
          obtain ⟨k, h1, h2⟩ := Option.bind_eq_some_iff.mp h
          exact Ev.free h1 (cellOf_ok h2) hl hk hd he
      | globalImplicit => exact hG.ev h hl hk hd
      | _ => cases h

noncomputable def isStar : Expr → Bool
  | .Starred _ _ => true
  | _ => false
theorem isStar_no {e : Expr} (h : isStar e = false) (es : List Expr) (env : Env) : starEach (e :: es) env = (false, eval e env) :: starEach es env := by
  cases e <;> first | (cases h; done) | rfl
noncomputable def evs (ev : Expr → St → Option (AV × St)) : List Expr → St → Option (List AV × St)
  | [], st => some ([], st)
  | e :: es, st => match isStar e with
    | true => none
    | false => (ev e st).bind fun r => (evs ev es r.2).bind fun q => some (r.1 :: q.1, q.2)

noncomputable def isPlain : List Expr → Bool
  | [] => true
  | e :: es => match isStar e with | true => false | false => isPlain es
theorem isPlain_all {es : List Expr} (h : isPlain es = true) : Plain1 es ∧ ∀ env, (starEach es env).any (·.1) = false := by
  induction es with
  | nil => exact ⟨.nil, fun _ => rfl⟩
  | cons e es ih =>
    unfold isPlain at h
    cases he : isStar e with
    | true => rw [he] at h; cases h
    | false =>
      rw [he] at h
      refine ⟨.cons (isStar_no he es), fun env => ?_⟩
      rw [isStar_no he es env]; exact (ih h).2 env
theorem isPlain_star {es : List Expr} (h : isPlain es = true) : ∀ env, (starEach es env).any (·.1) = false := (isPlain_all h).2
theorem isPlain_p1 {es : List Expr} (h : isPlain es = true) : Plain1 es := (isPlain_all h).1

theorem evs_ok {ev : Expr → St → Option (AV × St)} (hev : ∀ e st, OkE (ev e st) st (Ev c n fd e st.σ)) (es : List Expr) : ∀ st, OkE (evs ev es st) st (Evs c n fd es st.σ) := by
  induction es with
  | nil => exact fun st hφ => ⟨hφ, Evs.nil⟩
  | cons e es ih =>
    intro st
    unfold evs
    cases he : isStar e with
    | true => exact True.intro
    | false => exact OkE.bind (hev e st) fun v st1 => OkE.bind (ih st1) fun ws st2 hφ => ⟨hφ, fun b a => Evs.cons a b (isStar_no he es)⟩

noncomputable def toInt : AV → Option Int
  | .int i => some i
  | _ => none
theorem toInt_ok (a : AV) : OkO (toInt a) fun i => a = .int i := by
  cases a with
  | int j => exact rfl
  | _ => exact True.intro
noncomputable def evp (ev : Expr → St → Option (AV × St)) : Option Expr → St → Option (Option Int × St)
  | none, st => some (none, st)
  | some e, st => (ev e st).bind fun r => (toInt r.1).bind fun i => some (some i, r.2)
theorem evp_ok {ev : Expr → St → Option (AV × St)} (hev : ∀ e st, OkE (ev e st) st (Ev c n fd e st.σ)) (e : Option Expr) (st : St) : OkE (evp ev e st) st (EvP c n fd e st.σ) := by
  cases e with
  | none => exact fun hφ => ⟨hφ, EvP.none⟩
  | some e => exact OkE.bind (hev e st) fun v st1 => OkE.bindP (toInt_ok v) fun i h hφ => ⟨hφ, fun a => EvP.some (h ▸ a)⟩

end
end Mine
end

section
open PySem PySem.W PyProof.Rows PyProof.V PySem.Spec PySem.SeqAt
set_option linter.unusedVariables false
namespace Mine

section
variable {c : Cx} {n : Nat} {fd : FD} {σ : S}

noncomputable def isCell : Option AO → Option (Option AV)
  | none => none
  | some o => match o with | .cell u => some u | _ => none
theorem isCell_ok {o : Option AO} {u : Option AV} (h : isCell o = some u) : o = some (.cell u) := by
  cases o with
  | none => cases h
  | some o => cases o with
    | cell w => cases h; rfl
    | _ => cases h
noncomputable def stoK (fd : FD) (x : Str) (v : AV) (σ : S) : Option NameKind → Option S
  | none => none
  | some s => match s with
    | .local => some ⟨put x v σ.vs, σ.os⟩
    | .cell => (fd.cells.lookup x).bind fun k => (isCell σ.os[k]?).bind fun _ => some ⟨σ.vs, σ.os.set k (.cell (some v))⟩
    | _ => none
noncomputable def sto (fd : FD) (x : Str) (v : AV) (σ : S) : Option S := stoK fd x v σ (fd.scope.names.lookup x)
theorem sto_ok {x : Str} {v : AV} {σ' : S} (h : sto fd x v σ = some σ') : Sto fd x v σ σ' := by
  unfold sto at h
  cases hl : fd.scope.names.lookup x with
  | none => rw [hl] at h; cases h
  | some s =>
    rw [hl] at h
    cases s with
    | «local» => cases h; exact .loc hl
    | cell =>
      obtain ⟨k, h1, h⟩ := Option.bind_eq_some_iff.mp h
      obtain ⟨u, h2, h⟩ := Option.bind_eq_some_iff.mp h
      cases h; exact .cel h1 (isCell_ok h2) hl
    | _ => cases h

noncomputable def plainV : AV → Bool
  | .int _ | .str _ | .bool _ | .none => true
  | _ => false

theorem sz1000 : 1000 ≤ sizeLine := by rw [sizeLine_eq]; decide

/-- fewer names known -/
noncomputable def Sub : List (Str × AV) → List (Str × AV) → Prop
  | [], _ => True
  | (x, v) :: r, vs => vs.lookup x = some v ∧ Sub r vs
theorem Sub.lookup {vs' : List (Str × AV)} : ∀ {vs : List (Str × AV)}, Sub vs vs' → ∀ {x : Str} {v : AV}, vs.lookup x = some v → vs'.lookup x = some v
  | [], _, _, _, e => by cases e
  | (y, w) :: r, h, x, v, e => by
    rw [List.lookup_cons] at e
    cases hy : x == y with
    | true => rw [hy] at e; cases e; obtain rfl := eq_of_beq hy; exact h.1
    | false => rw [hy] at e; exact h.2.lookup e
theorem In.fewer {σ' : S} {env : Env} {ρ : List Pl} {h : Heap} (i : In c fd σ env ρ h) (hs : Sub σ'.vs σ.vs) (ho : σ.os = σ'.os) : In c fd σ' env ρ h := by
  refine ⟨ho ▸ i.rel, i.fre.scope, i.fre.glob, i.fre.blt, i.fre.cq, i.fre.cells, ?_⟩
  obtain ⟨m, hn, hm⟩ := i.fre.ns
  exact ⟨m, hn, fun x v e => hm x v (hs.lookup e)⟩
theorem Exs.fewer {σ₁ σ' : S} {f : AF} {sts : List Stmt} (hs : Sub σ₁.vs σ.vs) (ho : σ.os = σ₁.os) (go : Exs c n fd sts σ₁ f σ') : Exs c n fd sts σ f σ' := fun env A ρ s rm i => go env A ρ s rm (i.fewer hs ho)
theorem Lp.fewer {σ₁ σ' : S} {f : AF} {x : Str} {body : List Stmt} {src : Src} {k : Nat} (hs : Sub σ₁.vs σ.vs) (ho : σ.os = σ₁.os) (go : Lp c n fd x body src k σ₁ f σ') : Lp c n fd x body src k σ f σ' := fun env A ρ s it px R rm i => go env A ρ s it px R rm (i.fewer hs ho)

theorem Exs.less {σ₁ σ' : S} {f : AF} {sts : List Stmt} (go : Exs c n fd sts σ f σ₁) (hs : Sub σ'.vs σ₁.vs) (ho : σ₁.os = σ'.os) : Exs c n fd sts σ f σ' := fun env A ρ s rm i => (go env A ρ s rm i).mono fun x h₁ ρ₁ q p => ⟨p.1.fewer hs ho, p.2⟩
theorem Lp.less {σ₁ σ' : S} {f : AF} {x : Str} {body : List Stmt} {src : Src} {k : Nat} (go : Lp c n fd x body src k σ f σ₁) (hs : Sub σ'.vs σ₁.vs) (ho : σ₁.os = σ'.os) : Lp c n fd x body src k σ f σ' := fun env A ρ s it px R rm i hi hn hb hR => go env A ρ s it px R rm i hi hn hb fun fl h' tk' ρ' q ii hf => hR fl h' tk' ρ' q (ii.fewer hs ho) hf

theorem execs_append (env : Env) (b : List Stmt) : ∀ rest : List Stmt, execs (b ++ rest) env = (do match ← execs b env with | .next => execs rest env | f => Pure.pure f) := by
  induction b with
  | nil => intro rest; show execs rest env = _; rw [show execs [] env = Pure.pure Flow.next from rfl, pure_bind]
  | cons s b ih =>
    intro rest
    rw [List.cons_append, execs_cons, execs_cons, bind_assoc]
    congr 1; funext f
    cases f with
    | next => exact ih rest
    | _ => simp

theorem Exs.ite (z : Bool) {t : Expr} {b o rest : List Stmt} {pos} {f : AF} {σ₁ σ₂ : S} (h : Tst c n fd t σ z σ₁) (h1 : Exs c n fd ((bif z then b else o) ++ rest) σ₁ f σ₂) : Exs c n fd (.If t b o pos :: rest) σ f σ₂ := fun env A ρ s rm i => by
  rw [execs_cons, exec_If]
  have : Run c [env.locals] A ρ s (do standAt pos; let z ← isTrue t env (eval t env); execs ((bif z then b else o) ++ rest) env) (fun ρ' h' x => In c fd σ₂ env ρ' h' ∧ FR ρ' f x) := by
    refine Run.stand (Run.bind (h env A ρ s rm i) fun x hx tk ρ₁ q₁ p₁ => ?_)
    obtain ⟨i₁, rfl⟩ := p₁
    exact h1 env A ρ₁ _ rm i₁
  refine Run.of_eq ?_ this
  simp only [bind_assoc]
  congr 1; funext _; congr 1; funext z
  rw [execs_append]
  cases z <;> rfl
end
end Mine
end

section
open PySem PySem.W PyProof.Rows
/-! these names are taken so that the head's tool lays no twins: twins would make the compiled text three times as big and are not needed -/
def PySem.W.Fast.tw10007627690174824804 : Nat := 0
def PySem.W.Fast.tw10010936943081839664 : Nat := 0
def PySem.W.Fast.tw10227693086864044499 : Nat := 0
def PySem.W.Fast.tw10833955939284561965 : Nat := 0
def PySem.W.Fast.tw10948738476641704880 : Nat := 0
def PySem.W.Fast.tw11420187438672877268 : Nat := 0
def PySem.W.Fast.tw11729385059970357855 : Nat := 0
def PySem.W.Fast.tw11985326045990495214 : Nat := 0
def PySem.W.Fast.tw12233582284571471492 : Nat := 0
def PySem.W.Fast.tw1258717718454355964 : Nat := 0
def PySem.W.Fast.tw12866136484021002089 : Nat := 0
def PySem.W.Fast.tw1291980286583624508 : Nat := 0
def PySem.W.Fast.tw13016732220969518872 : Nat := 0
def PySem.W.Fast.tw13215998728584607739 : Nat := 0
def PySem.W.Fast.tw13236226663087606529 : Nat := 0
def PySem.W.Fast.tw1333364371103165705 : Nat := 0
def PySem.W.Fast.tw13607416678640721797 : Nat := 0
def PySem.W.Fast.tw13900631225919944168 : Nat := 0
def PySem.W.Fast.tw14108194823987119177 : Nat := 0
def PySem.W.Fast.tw1414301608579184545 : Nat := 0
def PySem.W.Fast.tw14333388528381170442 : Nat := 0
def PySem.W.Fast.tw14537914154153760125 : Nat := 0
def PySem.W.Fast.tw14714103240675001986 : Nat := 0
def PySem.W.Fast.tw14834023430324568649 : Nat := 0
def PySem.W.Fast.tw14979626087600564940 : Nat := 0
def PySem.W.Fast.tw15112985482279097393 : Nat := 0
def PySem.W.Fast.tw151948405760981731 : Nat := 0
def PySem.W.Fast.tw15475462885187679331 : Nat := 0
def PySem.W.Fast.tw15480198773659482676 : Nat := 0
def PySem.W.Fast.tw15916391134991225584 : Nat := 0
def PySem.W.Fast.tw15980859228951719591 : Nat := 0
def PySem.W.Fast.tw16018607276475445134 : Nat := 0
def PySem.W.Fast.tw16049961110935095269 : Nat := 0
def PySem.W.Fast.tw16531745337717519161 : Nat := 0
def PySem.W.Fast.tw16916688483869632129 : Nat := 0
def PySem.W.Fast.tw17000458434675057986 : Nat := 0
def PySem.W.Fast.tw17018628822417861297 : Nat := 0
def PySem.W.Fast.tw1702518465993881591 : Nat := 0
def PySem.W.Fast.tw17068924515734577466 : Nat := 0
def PySem.W.Fast.tw17069979004554194336 : Nat := 0
def PySem.W.Fast.tw17100903815162463580 : Nat := 0
def PySem.W.Fast.tw17111948838632640456 : Nat := 0
def PySem.W.Fast.tw17476080006546285661 : Nat := 0
def PySem.W.Fast.tw17730428716208468724 : Nat := 0
def PySem.W.Fast.tw17975652961387846372 : Nat := 0
def PySem.W.Fast.tw17988542015724977305 : Nat := 0
def PySem.W.Fast.tw18056578402003937789 : Nat := 0
def PySem.W.Fast.tw18259523713253429126 : Nat := 0
def PySem.W.Fast.tw1829445100760108279 : Nat := 0
def PySem.W.Fast.tw18340240734955500558 : Nat := 0
def PySem.W.Fast.tw18345786424863182364 : Nat := 0
def PySem.W.Fast.tw1962928258387122110 : Nat := 0
def PySem.W.Fast.tw2283851925072248500 : Nat := 0
def PySem.W.Fast.tw282004115355043989 : Nat := 0
def PySem.W.Fast.tw2862820112641550484 : Nat := 0
def PySem.W.Fast.tw3152983702415266003 : Nat := 0
def PySem.W.Fast.tw3282434896037501709 : Nat := 0
def PySem.W.Fast.tw3636048126100218174 : Nat := 0
def PySem.W.Fast.tw3764465048917985505 : Nat := 0
def PySem.W.Fast.tw3778451253796500701 : Nat := 0
def PySem.W.Fast.tw3891137856419664920 : Nat := 0
def PySem.W.Fast.tw392140993173905013 : Nat := 0
def PySem.W.Fast.tw3972328310683599613 : Nat := 0
def PySem.W.Fast.tw4011157648589011858 : Nat := 0
def PySem.W.Fast.tw4090926877573551719 : Nat := 0
def PySem.W.Fast.tw4302124980754421698 : Nat := 0
def PySem.W.Fast.tw4399146608968889760 : Nat := 0
def PySem.W.Fast.tw4797165386629745026 : Nat := 0
def PySem.W.Fast.tw5902227825499142635 : Nat := 0
def PySem.W.Fast.tw6304074678678980437 : Nat := 0
def PySem.W.Fast.tw6380047634161181297 : Nat := 0
def PySem.W.Fast.tw6448080314894763839 : Nat := 0
def PySem.W.Fast.tw6589095468515690095 : Nat := 0
def PySem.W.Fast.tw6679490504615227074 : Nat := 0
def PySem.W.Fast.tw704327219915372674 : Nat := 0
def PySem.W.Fast.tw7269565832213808900 : Nat := 0
def PySem.W.Fast.tw7275051467321613617 : Nat := 0
def PySem.W.Fast.tw7276740287692124622 : Nat := 0
def PySem.W.Fast.tw7745614565497352828 : Nat := 0
def PySem.W.Fast.tw7892128664451923741 : Nat := 0
def PySem.W.Fast.tw8075568018651887793 : Nat := 0
def PySem.W.Fast.tw8206430501311747189 : Nat := 0
def PySem.W.Fast.tw8376441433122354887 : Nat := 0
def PySem.W.Fast.tw8424611434330503625 : Nat := 0
def PySem.W.Fast.tw8579058602437062094 : Nat := 0
def PySem.W.Fast.tw8603108125212654177 : Nat := 0
def PySem.W.Fast.tw8753696776887207221 : Nat := 0
def PySem.W.Fast.tw8860024209350480642 : Nat := 0
def PySem.W.Fast.tw9011979029575296479 : Nat := 0
def PySem.W.Fast.tw9315938663221665524 : Nat := 0
def PySem.W.Fast.tw9467589175468403638 : Nat := 0
def PySem.W.Fast.tw951843321253372498 : Nat := 0
def PySem.W.Fast.tw9564595351457756722 : Nat := 0
def PySem.W.Fast.tw9697512110049397445 : Nat := 0
def PySem.W.Fast.tw9908251947323293946 : Nat := 0
def PySem.W.Fast.tw9948023125614773506 : Nat := 0
namespace Mine
set_option maxRecDepth 100000 in
set_option maxHeartbeats 8000000 in
open_top hd for PySem.Challenge.rw_pe0095_01
end Mine
end

section
open PySem PySem.W PyProof.Rows PyProof.V PySem.Spec PySem.SeqAt Builtin Builtin.ObjectAttr
set_option linter.unusedVariables false
set_option maxRecDepth 100000
namespace Mine

theorem slot_fn_sa : Slot "function" "__setattr__" "object.__setattr__" := .of (owner := "object") (n := "__setattr__") (by rw [typeLookup_type, builtinLookup_eq_fast]; kernel_rfl) (by decide +kernel) (by decide +kernel) (by decide +kernel)
    (by first | exact .inl (by decide +kernel) | exact .inr (by decide +kernel)) (by rw [isSubtype_type]; kernel_rfl)
theorem fn_mro : mroOf (.type "function") = pure [.type "function", .type "object"] := by kernel_rfl
theorem fn_passes (self : Value) : refuseLoop self "__setattr__" [.type "function", .type "object"] = pure () := by kernel_rfl
theorem fn_read : typeLookup (.type "function") "read" = pure none := by rw [typeLookup_type, builtinLookup_eq_fast]; kernel_rfl
theorem fn_getattr : typeLookup (.type "function") "__getattr__" = pure none := by rw [typeLookup_type, builtinLookup_eq_fast]; kernel_rfl
theorem fn_ga : typeLookup (.type "function") "__getattribute__" = pure (some (.builtin "object.__getattribute__")) := by rw [typeLookup_type, builtinLookup_eq_fast]; kernel_rfl

section
variable {prog : Program} {w : World} {A : Around} {E : Value → Shared → Prop} {s : Shared} {f D : Addr} {d : FuncData} {sl : Array (Option Value)} {v : Value}

theorem fn_set {Q : Unit → Shared → Prop} (ho : s.heap.get? f = some { cls := .type "function", dict := none, data := .func d, slots := sl })
    (hQ : ∀ h' tk, (∀ b o, b ≠ f → s.heap.get? b = some o → h'.get? b = some o) → h'.get? f = some { cls := .type "function", dict := some s.heap.objs.size, data := .func d, slots := sl } →
      h'.Ns1 s.heap.objs.size (fun y => if y = "read" then some v else none) → h'.objs.size = s.heap.objs.size + 1 → Q () { s with heap := h', toks := tk }) : wpAny (model prog w) A (setAttr (.ref f) "read" v) Q E s := by
  have hT : ∀ tk, ({ s with toks := tk } : Shared).TypeIs (.ref f) "function" := fun tk => ⟨_, ho, rfl⟩
  obtain ⟨h, g, dr, t, os⟩ := s
  dsimp only at ho hQ hT
  unfold setAttr
  refine wpAny_bind (wpAny_mkText (wpAny_bind (wpAny_callSpecial?_slot (hT _) slot_fn_sa (wpAny_call_entry slot_fn_sa (hT _) F.entry_object_sa ?_ (F.store_object.args _ _ _)))))
  rw [osa_eq, refuse_eq]
  refine wpAny_bind (wpAny_bind (wpAny_typeOf (hT _) ?_))
  rw [fn_mro]
  refine wpAny_bind (wpAny_pure ?_)
  rw [fn_passes]
  refine wpAny_pure (wpAny_bind (wpAny_typeOf (hT _) ?_))
  rw [fn_read]
  refine wpAny_bind (wpAny_pure (wpAny_bind (wpAny_pure ?_)))
  dsimp only
  unfold storeInOwnDict
  have e1 : ownStreamTells (.ref f) (.type "function") = pure () := by kernel_rfl
  rw [e1]
  refine wpAny_bind (wpAny_pure ?_)
  rw [if_neg (by decide)]
  refine wpAny_bind ?_
  show wpAny _ _ (instanceDict f true) _ _ _
  unfold instanceDict
  have hx₁ : (h.push { cls := .type "dict", data := .dict #[] }).get? f = some { cls := .type "function", dict := none, data := .func d, slots := sl } := Heap.get?_push_of_some _ ho
  have hxs : f ≠ h.objs.size := Nat.ne_of_lt (Heap.lt_size ho)
  refine wpAny_bind (wpAny_loadPart ho ?_)
  dsimp only
  have e2 : typeHasDict (.type "function") = true := by decide +kernel
  rw [e2]
  rw [if_neg (by decide)]
  have hgd : ((h.push { cls := .type "dict", data := .dict #[] }).update f fun o => { cls := o.cls, dict := some h.objs.size, data := o.data, slots := o.slots }).get? h.objs.size = some { cls := .type "dict", data := .dict #[] } :=
    (Heap.get?_update_ne _ _ _ _ hxs.symm).trans (Heap.get?_push_at rfl rfl)
  have hnd : ((h.push { cls := .type "dict", data := .dict #[] }).update f fun o => { cls := o.cls, dict := some h.objs.size, data := o.data, slots := o.slots }).Ns h.objs.size (fun _ => none) :=
    ⟨_, #[], _, hgd, rfl, fun e he => absurd he (by simp), fun _ => rfl⟩
  refine wpAny_bind (wpAny_alloc' (wpAny_bind (wpAny_update' hx₁ ?_)))
  have e3 : dictMade (.type "function") f h.objs.size = pure (some h.objs.size) := by
    unfold dictMade
    exact if_neg (by decide)
  rw [e3]
  refine wpAny_pure ?_
  dsimp only
  unfold storeInDict newKeyGuard
  refine wpAny_bind (wpAny_pure (wpAny_bind (wpAny_nsSet1 (Heap.Ns1.of_empty hnd) fun h' hn' hs => ?_)))
  obtain ⟨oD, esD, epD, hoD, hdD, hcD⟩ := hn'.count (Within.cons (Str.ofString "read") v Within.nil)
  refine wpAny_bind (wpAny_lookBehind hoD (by rw [hdD]; exact pastItsLine_dict (Nat.le_trans hcD (by rw [List.length_cons, List.length_nil, sizeLine_eq]; omega))) ?_)
  refine wpAny_pure ⟨_, rfl, wpAny_pure ?_⟩
  refine hQ h' _ (fun b o hb e => ?_) ?_ hn' ?_
  · exact (hs.2 b (Nat.ne_of_lt (Heap.lt_size e))).trans ((Heap.get?_update_ne _ _ _ _ hb).trans (Heap.get?_push_of_some _ e))
  · exact (hs.2 f hxs).trans (Heap.get?_update_self _ hx₁ rfl)
  · rw [hs.1, Heap.size_update, Heap.size_push]

theorem Ns.look {h : Heap} {a : Addr} {m : Str → Option Value} (hn : h.Ns a m) : ∃ o, h.get? a = some o ∧ ∀ name, lookIn name o = some (m name) := by
  obtain ⟨o, es, ep, ho, hd, hk, hm⟩ := hn
  refine ⟨o, ho, fun name => ?_⟩
  unfold lookIn
  rw [hd]
  dsimp only
  have hm' := hm name
  unfold nsFind findBy at hm'
  rw [← hm', ← Array.find?_toList]
  cases hf : es.toList.find? (fun e => e.key.isStr name) with
  | some e => rfl
  | none =>
    have : es.toList.any (·.refKey) = false := by
      rw [List.any_eq_false]
      intro e he
      obtain ⟨n, t, hkey⟩ := hk e (Array.mem_toList_iff.mp he)
      simp [DictEntry.refKey, hkey]
    simp only [this, Option.map_none]
    rfl

theorem slot_fn_ga : Slot "function" "__getattribute__" "object.__getattribute__" := .of (owner := "object") (n := "__getattribute__") (by rw [typeLookup_type, builtinLookup_eq_fast]; kernel_rfl) (by decide +kernel) (by decide +kernel) (by decide +kernel)
    (by first | exact .inl (by decide +kernel) | exact .inr (by decide +kernel)) (by rw [isSubtype_type]; kernel_rfl)
theorem ga_args (a b : Value) : argsOk "object.__getattribute__" ⟨[a, b], []⟩ := by unfold argsOk; kernel_rfl

theorem fn_get {Q : Value → Shared → Prop} {m : Str → Option Value} {expr : Bool} (ho : s.heap.get? f = some { cls := .type "function", dict := some D, data := .func d, slots := sl }) (hD : s.heap.Ns D m) (hm : m "read" = some v) (hh : handedIn v = true)
    (hQ : ∀ tk, Q v { s with toks := tk }) : wpAny (model prog w) A (getAttr (.ref f) "read" expr) Q E s := by
  have hT : ∀ tk, ({ s with toks := tk } : Shared).TypeIs (.ref f) "function" := fun tk => ⟨_, ho, rfl⟩
  obtain ⟨od, hod, hlk⟩ := Ns.look hD
  obtain ⟨h, g, dr, t, os⟩ := s
  dsimp only at ho hQ hT hod
  unfold getAttr getAttrBy
  refine wpAny_bind (wpAny_mkText (wpAny_holding (wpAny_bind (wpAny_typeOf (hT _) ?_))))
  rw [fn_ga]
  refine wpAny_bind (wpAny_pure ?_)
  show wpAny _ _ (getAttrByItsOwn (.ref f) (.str "read" t) (.type "function") (.builtin "object.__getattribute__") true expr) _ _ _
  unfold getAttrByItsOwn hookBefore callGetattribute boundAndCalled
  refine wpAny_bind (wpAny_pure (wpAny_bind (wpAny_attempt (wpAny_holding ?_))))
  rw [show (expr && onTheHeap (Value.builtin "object.__getattribute__")) = false by simp [onTheHeap], if_neg (by decide)]
  rw [slot_fn_ga.bind]
  refine wpAny_bind (wpAny_pure (wpAny_call_entry slot_fn_ga (hT _) F.entry_object_getattribute ?_ (ga_args _ _)))
  have hfind : Looks (model prog w) h (find (.ref f) (.type "function") "read") (.value v) := by
    unfold find
    rw [fn_read]
    refine Looks.now.andThen (Looks.now.andThen (Looks.now.andThen ?_))
    show Looks _ _ (ownThenClass (.ref f) "read" none none) _
    unfold ownThenClass inOwnDict ObjectAttr.ownDict
    refine Looks.andThen (a := some v) ?_ (Looks.tag .now)
    refine Looks.andThen (a := some D) ?_ ?_
    · refine (Looks.ld ho).andThen ?_
      dsimp only
      unfold instanceDict
      refine (Looks.ld ho).andThen ?_
      exact .now
    · show Looks _ _ (nsGet D "read") _
      unfold nsGet
      refine (Looks.ld hod).andThen ?_
      rw [nsLook_of ((hlk "read").trans (by rw [hm]))]
      exact .now
  show wpAny _ _ (Builtin.«object.__getattribute__» ⟨[.ref f, .str "read" t], []⟩) _ _ _
  unfold Builtin.«object.__getattribute__»
  have e1 : slotArgs "__getattribute__" 1 ⟨[.ref f, .str "read" t], []⟩ = pure (.ref f, [.str "read" t]) := by kernel_rfl
  rw [e1]
  refine wpAny_bind (wpAny_pure ?_)
  dsimp only
  have e2 : attrName (.str "read" t) = pure (Str.ofString "read") := by kernel_rfl
  rw [e2]
  refine wpAny_bind (wpAny_pure (wpAny_bind (wpAny_typeOf (hT _) (wpAny_bind (hfind.at ?_)))))
  refine wpAny_pure ⟨_, rfl, ?_⟩
  rw [handedOut_of hh]
  exact wpAny_pure (hQ _)
end
end Mine
end

section
open PySem PySem.W PyProof.Rows PyProof.V PySem.Spec PySem.SeqAt Builtin Builtin.ObjectAttr
set_option linter.unusedVariables false
set_option maxRecDepth 100000
namespace Mine

section
variable {prog : Program} {w : World} {A : Around} {E : Value → Shared → Prop} {s : Shared} {x dx C : Addr} {v : Value} {K : Frag} {m : Str → Option Value} {name : Str} {cd : ClassData}

/-- an instance with its attributes -/
structure InstN (h : Heap) (x dx C : Addr) (m : Str → Option Value) : Prop where
  at_ : h.get? x = some (instObj C dx)
  ns : h.Ns1 dx m

theorem InstN.k {h : Heap} (I : InstN h x dx C m) : ∃ od, InstAt h x (instObj C dx) C (some od) ∧ (∀ name, lookIn name od = some (m name)) := by
  obtain ⟨od, ho, hl⟩ := Ns.look I.ns.ns
  exact ⟨od, ⟨I.at_, rfl, rfl, ho⟩, hl⟩

theorem findObj_own {od : Obj} (hc : clsIn K C = some cd) (hd : cd.hasDict = true) (hf : findIn K (.ref C) name = some none) (hl : lookIn name od = some (some v)) : findObj K C (some od) name = some (.value v) := by
  unfold findObj W.ownOf
  rw [hc, hf]
  simp [hd, hl]

theorem inst_get {Q : Value → Shared → Prop} {expr : Bool} (X : K.In s.heap) (I : InstN s.heap x dx C m) (hc : clsIn K C = some cd) (hd : cd.hasDict = true) (hga : findIn K (.ref C) "__getattribute__" = some (some (.builtin "object.__getattribute__"))) (hf : findIn K (.ref C) name = some none)
    (hm : m name = some v) (hh : handedIn v = true) (h : Q v { s with toks := s.toks + 1 }) : wpAny (model prog w) A (getAttr (.ref x) name expr) Q E s := by
  obtain ⟨od, J, hl⟩ := I.k
  exact get_value X J hga (findObj_own hc hd hf ((hl name).trans (by rw [hm]))) hh h

theorem inst_set {Q : Unit → Shared → Prop} {ns : List Str} (X : K.In s.heap) (I : InstN s.heap x dx C m) (hc : clsIn K C = some cd) (hd : cd.hasDict = true) (hs : findIn K (.ref C) "__setattr__" = some (some (.builtin "object.__setattr__"))) (hp : plainOver K C = true)
    (ht : takerIn K C name = some none) (hw : Within m ns) (hz : ns.length ≤ 1000) (hxd : x ≠ dx)
    (hQ : ∀ h' tk, InstN h' x dx C (fun y => if y = name then some v else m y) → Heap.SameBut dx s.heap h' → Q () { s with heap := h', toks := tk }) : wpAny (model prog w) A (setAttr (.ref x) name v) Q E s := by
  obtain ⟨h, g, dr, t, os⟩ := s
  obtain ⟨od, J, hl⟩ := I.k
  refine set_plain X J hs ?_
  refine osa_open X J hp ht fun b => ?_
  show wpAny _ _ (storeInOwnDict (.ref x) (.ref C) (.str name t) name v b) _ _ _
  unfold storeInOwnDict
  refine wpAny_bind (wpAny_pure ?_)
  rw [if_neg (show ¬ (Value.ref C == Value.type "module") = true from by intro e; cases e)]
  refine wpAny_bind ?_
  show wpAny _ _ (instanceDict x true) _ _ _
  unfold instanceDict
  refine wpAny_bind (wpAny_loadPart I.at_ ?_)
  refine wpAny_bind ((looks_clsIn (h := h) X hc).at ?_)
  rw [hd]
  refine wpAny_pure ?_
  show wpAny _ _ (storeInDict dx (.str name t) name v) _ _ _
  unfold storeInDict newKeyGuard
  refine wpAny_bind (wpAny_pure (wpAny_bind (wpAny_nsSet1 I.ns fun h' hn' hs => ?_)))
  obtain ⟨oD, esD, epD, hoD, hdD, hcD⟩ := hn'.count (Within.cons name v hw)
  refine wpAny_bind (wpAny_lookBehind hoD (by rw [hdD]; exact pastItsLine_dict (Nat.le_trans hcD (by rw [List.length_cons, sizeLine_eq]; omega))) ?_)
  refine wpAny_pure ?_
  exact hQ h' _ ⟨(hs.2 x hxd).trans I.at_, hn'⟩ hs
end
end Mine
end

section
open PySem PySem.W PyProof.Rows PyProof.V PySem.Spec PySem.SeqAt
set_option linter.unusedVariables false
set_option maxRecDepth 100000
namespace Mine

/-- a function that is made in a call -/
structure Nst where
  name : Str
  qual : Str
  params : Arguments
  body : FuncBody
  scope : Scope
  pos : Pos

noncomputable def mkF (N : Nst) (clos : List (Str × Addr)) (doc pm cv ctv : Value) : FuncData :=
  { name := N.name, qualname := N.qual, params := N.params, body := N.body, scope := N.scope, globals := mainGlobals, closure := clos, defaults := .none, kwdefaults := .none, doc, pyModule := pm, annotations := none, code := cv, closureTuple := ctv, builtins := builtinsNs }

noncomputable def tabVals (N : Nat → Nst) : Nat → List Addr → List Value
  | i, c :: cs => rawInt (N i).pos.line :: rawInt (N i).pos.col :: .ref c :: tabVals N (i + 1) cs
  | _, [] => []

/-- cells by their places -/
noncomputable def CL (ρ : List Pl) : List (Str × Nat) → List (Str × Addr) → Prop
  | [], [] => True
  | x :: xs, y :: ys => x.1 = y.1 ∧ (∃ p, ρ[x.2]? = some p ∧ y.2 = p.a) ∧ CL ρ xs ys
  | _, _ => False

/-- addresses by their places -/
noncomputable def PA (ρ : List Pl) : List Nat → List Addr → Prop
  | [], [] => True
  | x :: xs, y :: ys => (∃ p, ρ[x]? = some p ∧ y = p.a) ∧ PA ρ xs ys
  | _, _ => False
theorem PA.ren {ρ ρ' : List Pl} {f : Nat → Nat} : ∀ {cs : List Nat} {as : List Addr}, PA ρ cs as → (∀ i ∈ cs, ∀ p, ρ[i]? = some p → ρ'[f i]? = some p) → PA ρ' (cs.map f) as
  | [], [], _, _ => trivial
  | x :: xs, y :: ys, h, e => by
    obtain ⟨⟨p, h2, h3⟩, h4⟩ := h
    exact ⟨⟨p, e x (by simp) p h2, h3⟩, PA.ren h4 fun i hi => e i (List.mem_cons_of_mem _ hi)⟩
theorem PA.lt {ρ : List Pl} : ∀ {cs : List Nat} {as : List Addr}, PA ρ cs as → ∀ i ∈ cs, i < ρ.length
  | [], [], _ => fun _ h => nomatch h
  | x :: xs, y :: ys, h => fun i hi => by
    obtain ⟨⟨p, h2, h3⟩, h4⟩ := h
    rcases List.mem_cons.mp hi with rfl | hi
    · exact (List.getElem?_eq_some_iff.mp h2).1
    · exact PA.lt h4 i hi

/-- attributes -/
noncomputable def MR (ρ : List Pl) (m : List (Str × AV)) (m' : Str → Option Value) : Prop := ∀ x, VRo ρ (m.lookup x) (m' x)

structure Law where
  N : Nat → Nst
  tb : Addr
  C : Addr
  fR : Addr

noncomputable def fnObj (d : FuncData) (dict : Option Addr) : Obj := { cls := .type "function", dict := dict, data := .func d }

noncomputable def RdR (ρ : List Pl) (p : Pl) (h : Heap) (d : FuncData) : Option Nat → Prop
  | .none => p.more = [] ∧ h.get? p.a = some (fnObj d .none)
  | some r => ∃ pr, p.more = [] ∧ ρ[r]? = some pr ∧ h.get? p.a = some (fnObj d (some pr.a))

noncomputable def XRof (L : Law) : XO → List Pl → Pl → Heap → Prop
  | .tab cs, ρ, p, h => ∃ as, p.a = L.tb ∧ p.more = [] ∧ PA ρ cs as ∧ h.get? L.tb = some (tabObj (tabVals L.N 0 as).toArray)
  | .code j, ρ, p, h => p.more = [] ∧ h.CodeRec (.ref p.a) (L.N j).qual
  | .fn j cl t rd, ρ, p, h => ∃ pt doc pm ctv clos, ρ[t]? = some pt ∧ CL ρ cl clos ∧ RdR ρ p h (mkF (L.N j) clos doc pm (.ref pt.a) ctv) rd
  | .inst m, ρ, p, h => ∃ dx m', p.more = [dx] ∧ InstN h p.a dx L.C m' ∧ MR ρ m m' ∧ ∀ i ∈ AVs.refs (m.map (·.2)), i < ρ.length
  | .citer x, ρ, p, h => ∃ px t, p.more = [] ∧ ρ[x]? = some px ∧ h.get? p.a = some { cls := .type "callable_iterator", data := .fields #[.ref px.a, .str "" t, .bool false] }
  | .meth x, ρ, p, h => ∃ px, p.more = [] ∧ ρ[x]? = some px ∧ h.get? p.a = some (methodObj (.ref L.fR) (.ref px.a))
  | .junk, _, _, _ => True
  | .rdict q, ρ, p, h => ∃ pq, p.more = [] ∧ ρ[q]? = some pq ∧ h.Ns1 p.a (fun y => if y = "read" then some (.ref pq.a) else .none)

theorem CL.ren {ρ ρ' : List Pl} {f : Nat → Nat} : ∀ {cl : List (Str × Nat)} {clos : List (Str × Addr)}, CL ρ cl clos → (∀ i ∈ cl.map (·.2), ∀ p, ρ[i]? = some p → ρ'[f i]? = some p) → CL ρ' (cl.map fun q => (q.1, f q.2)) clos
  | [], [], _, _ => trivial
  | x :: xs, y :: ys, h, e => by
    obtain ⟨h1, ⟨p, h2, h3⟩, h4⟩ := h
    exact ⟨h1, ⟨p, e x.2 (by simp) p h2, h3⟩, CL.ren h4 fun i hi => e i (List.mem_cons_of_mem _ hi)⟩
theorem CL.lt {ρ : List Pl} : ∀ {cl : List (Str × Nat)} {clos : List (Str × Addr)}, CL ρ cl clos → ∀ i ∈ cl.map (·.2), i < ρ.length
  | [], [], _ => fun _ h => nomatch h
  | x :: xs, y :: ys, h => fun i hi => by
    obtain ⟨h1, ⟨p, h2, h3⟩, h4⟩ := h
    rcases List.mem_cons.mp hi with rfl | hi
    · exact (List.getElem?_eq_some_iff.mp h2).1
    · exact CL.lt h4 i hi

theorem lookup_ren {f : Nat → Nat} {x : Str} : ∀ {m : List (Str × AV)}, (m.map fun q => (q.1, q.2.ren f)).lookup x = (m.lookup x).map (AV.ren f)
  | [] => rfl
  | (y, v) :: m => by
    rw [List.map_cons, List.lookup_cons, List.lookup_cons]
    cases x == y with
    | true => rfl
    | false => exact lookup_ren
theorem refs_lookup {x : Str} {v : AV} : ∀ {m : List (Str × AV)}, m.lookup x = some v → ∀ i ∈ v.refs, i ∈ AVs.refs (m.map (·.2))
  | (y, w) :: m, h, i, hi => by
    rw [List.lookup_cons] at h
    cases hy : x == y with
    | true => rw [hy] at h; cases h; exact List.mem_append_left _ hi
    | false => rw [hy] at h; exact List.mem_append_right _ (refs_lookup h i hi)
theorem MR.ren {ρ ρ' : List Pl} {f : Nat → Nat} {m : List (Str × AV)} {m' : Str → Option Value} (h : MR ρ m m') (e : ∀ i ∈ AVs.refs (m.map (·.2)), ∀ p, ρ[i]? = some p → ρ'[f i]? = some p) : MR ρ' (m.map fun q => (q.1, q.2.ren f)) m' := fun x => by
  have hx := h x
  rw [lookup_ren]
  cases hm : m.lookup x with
  | none => rw [hm] at hx; cases hx' : m' x <;> rw [hx'] at hx <;> first | exact hx | exact hx.elim
  | some v =>
    rw [hm] at hx
    cases hx' : m' x with
    | none => rw [hx'] at hx; exact hx.elim
    | some v' => rw [hx'] at hx; exact VR.ren hx fun i hi => e i (refs_lookup hm i hi)

theorem AVs.mem_refs {i : Nat} : ∀ {m : List (Str × AV)}, i ∈ AVs.refs (m.map (·.2)) → ∃ q ∈ m, i ∈ q.2.refs
  | q :: m, h => (List.mem_append.mp h).elim (fun h => ⟨q, List.mem_cons_self, h⟩) fun h => let ⟨q', h1, h2⟩ := AVs.mem_refs h; ⟨q', List.mem_cons_of_mem _ h1, h2⟩

theorem RdR.ren {ρ ρ' : List Pl} {f : Nat → Nat} {p : Pl} {h : Heap} {d : FuncData} {rd : Option Nat} (x : RdR ρ p h d rd) (e : ∀ i ∈ rd.toList, ∀ p, ρ[i]? = some p → ρ'[f i]? = some p) : RdR ρ' p h d (rd.map f) := by
  cases rd with
  | none => exact x
  | some r => obtain ⟨pr, h1, h2, h3⟩ := x; exact ⟨pr, h1, e r (by simp) pr h2, h3⟩

theorem XRof.map {L : Law} {k : XO} {ρ ρ' : List Pl} {p : Pl} {h : Heap} (f : Nat → Nat) (x : XRof L k ρ p h) (e : ∀ i ∈ k.refs, ∀ p, ρ[i]? = some p → ρ'[f i]? = some p) : XRof L (k.ren f) ρ' p h := by
  cases k with
  | tab cs => obtain ⟨as, h1, h2, h3, h4⟩ := x; exact ⟨as, h1, h2, h3.ren e, h4⟩
  | code j => exact x
  | fn j cl t rd =>
    obtain ⟨pt, doc, pm, ctv, clos, h1, h3, h4⟩ := x
    exact ⟨pt, doc, pm, ctv, clos, e t (List.mem_append_right _ List.mem_cons_self) pt h1, h3.ren fun i hi => e i (List.mem_append_right _ (List.mem_cons_of_mem _ hi)), h4.ren fun i hi => e i (List.mem_append_left _ hi)⟩
  | inst m =>
    obtain ⟨dx, m', h1, h2, h3, h4⟩ := x
    refine ⟨dx, m', h1, h2, h3.ren e, fun i hi => ?_⟩
    obtain ⟨j, hj, rfl⟩ := XO.refs_ren (k := .inst m) (f := f) hi
    have := List.getElem?_eq_getElem (h4 j hj)
    exact (List.getElem?_eq_some_iff.mp (e j hj _ this)).1
  | citer y => obtain ⟨px, t, h1, h2, h3⟩ := x; exact ⟨px, t, h1, e y List.mem_cons_self px h2, h3⟩
  | meth y => obtain ⟨px, h1, h2, h3⟩ := x; exact ⟨px, h1, e y List.mem_cons_self px h2, h3⟩
  | junk => trivial
  | rdict y => obtain ⟨px, h1, h2, h3⟩ := x; exact ⟨px, h1, e y List.mem_cons_self px h2, h3⟩

theorem XRof.lt {L : Law} {k : XO} {ρ : List Pl} {p : Pl} {h : Heap} (x : XRof L k ρ p h) : ∀ i ∈ k.refs, i < ρ.length := by
  intro i hi
  cases k with
  | tab cs => obtain ⟨as, h1, h2, h3, h4⟩ := x; exact h3.lt i hi
  | code j => cases hi
  | fn j cl t rd =>
    obtain ⟨pt, doc, pm, ctv, clos, h1, h3, h4⟩ := x
    rcases List.mem_append.mp hi with hi | hi
    · cases rd with
      | none => cases hi
      | some r =>
        have e : i = r := by simpa using hi
        subst e
        obtain ⟨pr, q1, q2, q3⟩ := h4
        exact (List.getElem?_eq_some_iff.mp q2).1
    · rcases List.mem_cons.mp hi with rfl | hi
      · exact (List.getElem?_eq_some_iff.mp h1).1
      · exact h3.lt i hi
  | inst m => obtain ⟨dx, m', h1, h2, h3, h4⟩ := x; exact h4 i hi
  | citer y =>
    obtain ⟨px, t, h1, h2, h3⟩ := x
    rcases List.mem_cons.mp hi with rfl | hi
    · exact (List.getElem?_eq_some_iff.mp h2).1
    · cases hi
  | meth y =>
    obtain ⟨px, h1, h2, h3⟩ := x
    rcases List.mem_cons.mp hi with rfl | hi
    · exact (List.getElem?_eq_some_iff.mp h2).1
    · cases hi
  | junk => cases hi
  | rdict y =>
    obtain ⟨px, h1, h2, h3⟩ := x
    rcases List.mem_cons.mp hi with rfl | hi
    · exact (List.getElem?_eq_some_iff.mp h2).1
    · cases hi

theorem XRof.loc {L : Law} {k : XO} {ρ : List Pl} {p : Pl} {h h' : Heap} (x : XRof L k ρ p h) (l : ∀ a ∈ p.a :: p.more, ∀ o, h.get? a = some o → h'.get? a = some o) : XRof L k ρ p h' := by
  have l0 := l p.a List.mem_cons_self
  cases k with
  | tab cs =>
    obtain ⟨as, h1, h2, h3, h4⟩ := x
    exact ⟨as, h1, h2, h3, h1 ▸ l0 _ (h1.symm ▸ h4)⟩
  | code j =>
    obtain ⟨h1, c', o, vs, t, e, g, r⟩ := x
    cases e
    exact ⟨h1, _, o, vs, t, rfl, l0 _ g, r⟩
  | fn j cl t rd =>
    obtain ⟨pt, doc, pm, ctv, clos, h1, h3, h4⟩ := x
    refine ⟨pt, doc, pm, ctv, clos, h1, h3, ?_⟩
    cases rd with
    | none => exact ⟨h4.1, l0 _ h4.2⟩
    | some r =>
      obtain ⟨pr, q1, q2, q3⟩ := h4
      exact ⟨pr, q1, q2, l0 _ q3⟩
  | inst m =>
    obtain ⟨dx, m', h1, h2, h3⟩ := x
    exact ⟨dx, m', h1, ⟨l0 _ h2.at_, h2.ns.at (l dx (by rw [h1]; simp))⟩, h3⟩
  | citer y => obtain ⟨px, t, h1, h2, h3⟩ := x; exact ⟨px, t, h1, h2, l0 _ h3⟩
  | meth y => obtain ⟨px, h1, h2, h3⟩ := x; exact ⟨px, h1, h2, l0 _ h3⟩
  | junk => trivial
  | rdict y => obtain ⟨px, h1, h2, h3⟩ := x; exact ⟨px, h1, h2, h3.at l0⟩

end Mine
end

section
open PySem PySem.W PyProof.Rows PyProof.V PySem.Spec PySem.SeqAt
set_option linter.unusedVariables false
set_option maxRecDepth 100000
namespace Mine

structure Lc (c : Cx) (L : Law) : Prop where
  xr : c.XR = XRof L
  cls : ∃ cd, clsIn c.K L.C = some cd ∧ cd.hasDict = true
  ga : findIn c.K (.ref L.C) "__getattribute__" = some (some (.builtin "object.__getattribute__"))
  gt : findIn c.K (.ref L.C) "__getattr__" = some none
  sa : findIn c.K (.ref L.C) "__setattr__" = some (some (.builtin "object.__setattr__"))
  po : plainOver c.K L.C = true
  mks : makesIn c.K L.C = true

section
variable {c : Cx} {n : Nat} {fd : FD} {σ σ₁ σ₂ σ₃ : S} {X : List Addr} {A : Around} {ρ : List Pl} {s : Shared} {os : List AO} {L : Law} {E : Value → Shared → Prop}

theorem Rel.inst (H : Lc c L) {h : Heap} {i : Nat} {m : List (Str × AV)} {v : Value} (r : Rel c X os ρ h) (ho : os[i]? = some (.x (.inst m))) (hv : VR ρ (.ref i) v) :
    ∃ p dx m', ρ[i]? = some p ∧ v = .ref p.a ∧ p.more = [dx] ∧ InstN h p.a dx L.C m' ∧ MR ρ m m' ∧ p.a ≠ dx := by
  obtain ⟨p, hp, rfl⟩ := hv
  obtain ⟨p', hp', hx⟩ := r.objs.get ho
  rw [hp] at hp'; cases hp'
  have hx : XRof L (.inst m) ρ p h := H.xr ▸ hx
  obtain ⟨dx, m', h1, h2, h3, h4⟩ := hx
  refine ⟨p, dx, m', hp, rfl, h1, h2, h3, ?_⟩
  have nd := foot_nodup_get ((List.nodup_append.mp r.nodup).2.1) hp
  rw [h1] at nd
  exact fun e => (List.nodup_cons.mp nd).1 (by rw [e]; exact List.mem_cons_self)

theorem Rel.inK {h : Heap} (r : Rel c X os ρ h) : c.K.In h := c.inK.keeps r.keep

noncomputable def notLit : AV → Bool
  | .lit _ => false
  | _ => true
theorem handed_of {v : AV} {v' : Value} (h : VR ρ v v') (hl : notLit v = true) : handedIn v' = true := by
  cases v with
  | int i => obtain ⟨t, rfl⟩ := h; rfl
  | str x => obtain ⟨t, rfl⟩ := h; rfl
  | bool b => cases h; rfl
  | none => cases h; rfl
  | lit u => cases hl
  | ref i => obtain ⟨p, _, rfl⟩ := h; rfl

theorem get_i (H : Lc c L) {i : Nat} {m : List (Str × AV)} {name : Str} {v : AV} {ex : Bool} (ho : os[i]? = some (.x (.inst m))) (hm : m.lookup name = some v) (hl : notLit v = true) (hf : findIn c.K (.ref L.C) name = some Option.none) :
    Op1 c n (fun x => getAttr x name ex) (.ref i) os v os := fun A ρ s x rm r hx Q E hq => by
  obtain ⟨p, dx, m', hp, rfl, h1, h2, h3, h4⟩ := r.inst H ho hx
  obtain ⟨cd, hc, hd⟩ := H.cls
  have hv := h3 name
  rw [hm] at hv
  cases e : m' name with
  | none => rw [e] at hv; exact hv.elim
  | some v' =>
    rw [e] at hv
    exact inst_get r.inK h2 hc hd H.ga hf e (handed_of hv hl) (hq v' s.heap _ ρ (Reach.refl ..) ⟨r, hv⟩)

theorem Ev.attr (H : Lc c L) {e : Expr} {name : Str} {pos : Pos} {i : Nat} {m : List (Str × AV)} {v : AV} (h1 : Ev c n fd e σ (.ref i) σ₁) (ho : σ₁.os[i]? = some (.x (.inst m))) (hm : m.lookup name = some v) (hl : notLit v = true) (hf : findIn c.K (.ref L.C) name = some Option.none)
    (hb : ∀ env, attributeBase e name env (eval e env) = eval e env) : Ev c n fd (.Attribute e name pos) σ v σ₁ := fun env A ρ s rm ii => by
  rw [arm_eval_Attribute, hb]
  refine Run.bind (h1 env A ρ s rm ii) fun x h₁ tk₁ ρ₁ q₁ p₁ => Run.stand ?_
  refine Run.bind (Run.holding (p₁.1.op (get_i (n := n) H ho hm hl hf A ρ₁ _ x rm p₁.1.rel.none p₁.2))) fun y h₂ tk₂ ρ₂ q₂ p₂ => ?_
  exact fun Q E hq => wpAny_bind (wpAny_letTemporaryGo (wpAny_pure (hq _ h₂ tk₂ ρ₂ (Reach.refl ..) p₂)))

theorem mth_i (H : Lc c L) {i : Nat} {m : List (Str × AV)} {name : Str} {f : Addr} (ho : os[i]? = some (.x (.inst m))) (hm : m.lookup name = Option.none) (hf : findIn c.K (.ref L.C) name = some (some (.ref f))) (ht : typeIn c.K (.ref f) = some (.type "function")) :
    Mth c n (.ref i) name os (.ref f) := fun A ρ s x pl rm r hx Q E hq => by
  obtain ⟨p, dx, m', hp, rfl, h1, h2, h3, h4⟩ := r.inst H ho hx
  obtain ⟨od, J, hl⟩ := h2.k
  have hv := h3 name
  rw [hm] at hv
  have e : m' name = Option.none := by cases e : m' name with | none => rfl | some _ => rw [e] at hv; exact hv.elim
  refine method_fn r.inK J H.ga H.gt hf ht ?_ (hq _ s.heap _ ρ (Reach.refl ..) ⟨r, rfl⟩)
  unfold shadowIn
  dsimp only
  rw [hl, e]; rfl

/-- a name's new value, in its place -/
noncomputable def putIn (x : Str) (v : AV) : List (Str × AV) → List (Str × AV)
  | [] => [(x, v)]
  | (y, w) :: r => if x == y then (x, v) :: r else (y, w) :: putIn x v r
theorem lookup_putIn (x y : Str) (v : AV) : ∀ vs : List (Str × AV), (putIn x v vs).lookup y = if y = x then some v else vs.lookup y
  | [] => by
    rw [putIn, List.lookup_cons]
    by_cases h : y = x
    · subst h; simp
    · rw [beq_eq_false_iff_ne.mpr h]; simp [h]
  | (z, w) :: r => by
    rw [putIn]
    cases hz : x == z with
    | true =>
      rw [if_pos rfl]
      have := eq_of_beq hz; subst this
      rw [List.lookup_cons, List.lookup_cons]
      by_cases h : y = x
      · subst h; simp
      · rw [beq_eq_false_iff_ne.mpr h]; simp [h]
    | false =>
      rw [if_neg (by decide), List.lookup_cons, List.lookup_cons, lookup_putIn x y v r]
      cases hy : y == z with
      | true =>
        have hyz := eq_of_beq hy
        have : y ≠ x := fun e => by rw [← e, hyz] at hz; simp at hz
        simp [this]
      | false => rfl
theorem mem_putIn {x : Str} {v : AV} {q : Str × AV} : ∀ {vs : List (Str × AV)}, q ∈ putIn x v vs → q = (x, v) ∨ q ∈ vs
  | [], h => by simpa [putIn] using h
  | (y, w) :: r, h => by
    rw [putIn] at h
    cases hz : x == y with
    | true =>
      rw [hz, if_pos rfl] at h
      rcases List.mem_cons.mp h with h | h
      · exact .inl h
      · exact .inr (List.mem_cons_of_mem _ h)
    | false =>
      rw [hz, if_neg (by decide)] at h
      rcases List.mem_cons.mp h with h | h
      · exact .inr (h ▸ List.mem_cons_self)
      · exact (mem_putIn h).imp id fun h => List.mem_cons_of_mem _ h

theorem MR.put {m : List (Str × AV)} {m' : Str → Option Value} {name : Str} {v : AV} {v' : Value} (h : MR ρ m m') (hv : VR ρ v v') : MR ρ (putIn name v m) (fun y => if y = name then some v' else m' y) := fun y => by
  rw [lookup_putIn]
  by_cases hy : y = name
  · simp only [hy, if_true]; exact hv
  · simp only [hy, if_false]; exact h y
theorem MR.within {m : List (Str × AV)} {m' : Str → Option Value} (h : MR ρ m m') : PySem.Within m' (m.map (·.1)) := by
  intro y hy
  have := h y
  cases hm : m.lookup y with
  | none =>
    rw [hm] at this
    cases e : m' y with
    | none => exact absurd e hy
    | some _ => rw [e] at this; exact this.elim
  | some v =>
    have key : ∀ l : List (Str × AV), l.lookup y = some v → y ∈ l.map (·.1) := by
      intro l
      induction l with
      | nil => intro e; cases e
      | cons q l ih =>
        intro e
        obtain ⟨a, b⟩ := q
        rw [List.lookup_cons] at e
        cases hy : y == a with
        | true => exact List.mem_cons.mpr (.inl (eq_of_beq hy))
        | false => rw [hy] at e; exact List.mem_cons_of_mem _ (ih e)
    exact key m hm

theorem AVs.of_mem {q : Str × AV} {j : Nat} : ∀ {m : List (Str × AV)}, q ∈ m → j ∈ q.2.refs → j ∈ AVs.refs (m.map (·.2))
  | p :: m, h, hj => (List.mem_cons.mp h).elim (fun e => List.mem_append_left _ (by subst e; exact hj)) fun h => List.mem_append_right _ (AVs.of_mem h hj)

theorem set_i (H : Lc c L) {i : Nat} {m : List (Str × AV)} {name : Str} {v : AV} {x v' : Value} {Q : Unit → Shared → Prop} (r : Rel c X os ρ s.heap) (ho : os[i]? = some (.x (.inst m))) (hx : VR ρ (.ref i) x) (hv : VR ρ v v') (ht : takerIn c.K L.C name = some Option.none) (hz : m.length ≤ 1000)
    (hQ : ∀ h' tk, Reach [] ρ s.heap ρ h' → Rel c X (os.set i (.x (.inst (putIn name v m)))) ρ h' → Q () { s with heap := h', toks := tk }) : wpAny c.M A (setAttr x name v') Q E s := by
  obtain ⟨p, dx, m', hp, rfl, h1, h2, h3, h4⟩ := r.inst H ho hx
  obtain ⟨cd, hc, hd⟩ := H.cls
  refine inst_set r.inK h2 hc hd H.sa H.po ht h3.within (by rw [List.length_map]; exact hz) h4 fun h' tk I' hs => hQ h' tk ⟨⟨[], by simp, by simp [foot]⟩, fun a o e ha => ?_, Nat.le_of_eq hs.1.symm⟩ ?_
  · exact (hs.2 a fun e' => ha (by subst e'; exact List.mem_append_right _ (foot_mem_of_get hp _ (by rw [h1]; simp)))).trans e
  · refine r.setObj hp (fun a ha => hs.2 a fun e => ha (by subst e; rw [h1]; simp)) hs.1 ?_
    show c.XR _ _ _ _
    rw [H.xr]
    refine ⟨dx, _, h1, I', h3.put hv, fun j hj => ?_⟩
    obtain ⟨q, hq, hjq⟩ := AVs.mem_refs hj
    rcases mem_putIn hq with rfl | hq
    · exact hv.lt j hjq
    · obtain ⟨p', hp', hxx⟩ := r.objs.get ho
      have hxx : XRof L (.inst m) ρ p' s.heap := H.xr ▸ hxx
      obtain ⟨_, _, _, _, _, h9⟩ := hxx
      refine h9 j ?_
      exact AVs.of_mem hq hjq

/-- o.name = e -/
theorem Ex.setAttr (H : Lc c L) {o value : Expr} {name : Str} {pos' pos : Pos} {i : Nat} {m : List (Str × AV)} {v : AV} (h1 : Ev c n fd value σ v σ₁) (h2 : Ev c n fd o σ₁ (.ref i) σ₂) (ho : σ₂.os[i]? = some (.x (.inst m))) (ht : takerIn c.K L.C name = some Option.none) (hz : m.length ≤ 1000)
    (hs : ∀ env, swapsWith value (some (.Attribute o name pos')) pos.line env = Pure.pure false) : Ex c n fd (.Assign [.Attribute o name pos'] value pos) σ .next ⟨σ₂.vs, σ₂.os.set i (.x (.inst (putIn name v m)))⟩ := fun env A ρ s rm ii => by
  rw [plainObj_exec_Assign_Attribute o name pos' value pos (hs env)]
  refine Run.stand (Run.bind (h1 env A ρ s rm ii) fun x h₁ tk₁ ρ₁ q₁ p₁ => ?_)
  refine Run.bind (P := fun ρ' h' _ => In c fd ⟨σ₂.vs, σ₂.os.set i (.x (.inst (putIn name v m)))⟩ env ρ' h') ?_ fun _ h₂ tk₂ ρ₂ q₂ p₂ => Run.pure ⟨p₂, rfl⟩
  rw [assign_Attribute]
  refine Run.bind (Run.holding (h2 env A ρ₁ _ rm p₁.1)) fun y h₂ tk₂ ρ₂ q₂ p₂ => Run.stand ?_
  refine Run.bind (P := fun ρ' h' _ => In c fd ⟨σ₂.vs, σ₂.os.set i (.x (.inst (putIn name v m)))⟩ env ρ' h') (Run.holding ?_) fun _ h₃ tk₃ ρ₃ q₃ p₃ => Run.release p₃
  intro Q E hq
  refine set_i (s := { s with heap := h₂, toks := tk₂ }) H p₂.1.rel.none ho p₂.2 (p₁.2.reach q₂) ht hz fun h' tk q r => hq () h' tk ρ₂ (q.more (by simp)) (p₂.1.lift q r)

/-- o.name op= e -/
theorem Ex.augAttr (H : Lc c L) {o value : Expr} {name : Str} {op : Operator} {tpos pos : Pos} {i : Nat} {m : List (Str × AV)} {a b v : AV} (h1 : Ev c n fd o σ (.ref i) σ) (ho : σ.os[i]? = some (.x (.inst m))) (hm : m.lookup name = some a) (hl : notLit a = true)
    (hf : findIn c.K (.ref L.C) name = some Option.none) (h2 : Ev c n fd value σ b σ) (h3 : Op2 c n (inplaceOp op) a b σ.os v σ.os) (ht : takerIn c.K L.C name = some Option.none) (hz : m.length ≤ 1000) :
    Ex c n fd (.AugAssign (.Attribute o name tpos) op value pos) σ .next ⟨σ.vs, σ.os.set i (.x (.inst (putIn name v m)))⟩ := fun env A ρ s rm ii => by
  rw [arm_exec_AugAssign_2]
  refine Run.stand (Run.bind (h1 env A ρ s rm ii) fun x h₁ tk₁ ρ₁ q₁ p₁ => ?_)
  refine Run.bind (P := fun ρ' h' y => (In c fd σ env ρ' h' ∧ VR ρ' v y) ∧ VR ρ' (.ref i) x) (Run.holding (Run.stand ?_)) fun y h₂ tk₂ ρ₂ q₂ p₂ => Run.stand ?_
  · refine Run.bind (p₁.1.op (get_i (n := n) H ho hm hl hf A ρ₁ _ x rm p₁.1.rel.none p₁.2)) fun u h₂ tk₂ ρ₂ q₂ p₂ => ?_
    refine Run.bind (Run.holding (h2 env A ρ₂ _ rm p₂.1)) fun z h₃ tk₃ ρ₃ q₃ p₃ => Run.stand ?_
    refine (Run.operate (p₃.1.op (h3 A ρ₃ _ u z rm p₃.1.rel.none (p₂.2.reach q₃) p₃.2))).mono fun y h₄ ρ₄ q₄ p₄ => ⟨p₄, ((p₁.2.reach q₂).reach q₃).reach q₄⟩
  · refine Run.bind (P := fun ρ' h' _ => In c fd ⟨σ.vs, σ.os.set i (.x (.inst (putIn name v m)))⟩ env ρ' h') (Run.holding ?_) fun _ h₃ tk₃ ρ₃ q₃ p₃ => Run.bind (P := fun ρ' h' _ => In c fd ⟨σ.vs, σ.os.set i (.x (.inst (putIn name v m)))⟩ env ρ' h') (Run.release p₃) fun _ h₄ tk₄ ρ₄ q₄ p₄ => Run.pure ⟨p₄, rfl⟩
    intro Q E hq
    refine set_i (s := { s with heap := h₂, toks := tk₂ }) H p₂.1.1.rel.none ho p₂.2 p₂.1.2 ht hz fun h' tk q r => hq () h' tk ρ₂ (q.more (by simp)) (p₂.1.1.lift q r)
end
end Mine
end

section
open PySem PySem.W PyProof.Rows PyProof.V PySem.Spec PySem.SeqAt
set_option linter.unusedVariables false
set_option maxRecDepth 100000
namespace Mine

section
variable {c : Cx} {n : Nat} {fd : FD} {σ σ' σ₁ σ₂ σ₃ : S} {X : List Addr} {A : Around} {ρ : List Pl} {s : Shared} {os os' : List AO} {L : Law} {E : Value → Shared → Prop} {v v' : AV}

/-- calling a value -/
noncomputable def CallV (c : Cx) (n : Nat) (f : AV) (args : List AV) (os : List AO) (v : AV) (os' : List AO) : Prop :=
  ∀ A ρ s x xs, Room A n → Rel c [] os ρ s.heap → VR ρ f x → VRs ρ args xs → Run c [] A ρ s (call x xs) fun ρ' h' y => Rel c [] os' ρ' h' ∧ VR ρ' v y

theorem CL.lookup : ∀ {cl : List (Str × Nat)} {clos : List (Str × Addr)}, CL ρ cl clos → ∀ {x : Str} {i : Nat}, cl.lookup x = some i → ∃ p, ρ[i]? = some p ∧ clos.lookup x = some p.a
  | (a, j) :: xs, (b, q) :: ys, h, x, i, e => by
    obtain ⟨h1, ⟨p, h2, h3⟩, h4⟩ := h
    dsimp only at h1 h2 h3; subst h1; subst h3
    rw [List.lookup_cons] at e ⊢
    cases hx : x == a with
    | true => rw [hx] at e; cases e; exact ⟨p, h2, rfl⟩
    | false => rw [hx] at e; exact CL.lookup h4 e

theorem Rel.fn (H : Lc c L) {h : Heap} {i j t : Nat} {cl : List (Str × Nat)} {rd : Option Nat} {x : Value} (r : Rel c X os ρ h) (ho : os[i]? = some (.x (.fn j cl t rd))) (ht : os[t]? = some (.x (.code j))) (hx : VR ρ (.ref i) x) :
    ∃ a o cj doc pm ctv clos, x = .ref a ∧ h.get? a = some o ∧ o.data = .func (mkF (L.N j) clos doc pm (.ref cj) ctv) ∧ CL ρ cl clos ∧ h.CodeRec (.ref cj) (L.N j).qual := by
  obtain ⟨p, hp, rfl⟩ := hx
  obtain ⟨p', hp', hx⟩ := r.objs.get ho
  rw [hp] at hp'; cases hp'
  have hx : XRof L (.fn j cl t rd) ρ p h := H.xr ▸ hx
  obtain ⟨pt, doc, pm, ctv, clos, h1, h3, h4⟩ := hx
  obtain ⟨pt', hpt', hxt⟩ := r.objs.get ht
  rw [h1] at hpt'; cases hpt'
  have hxt : XRof L (.code j) ρ pt h := H.xr ▸ hxt
  have hcode := hxt.2
  cases rd with
  | none => exact ⟨p.a, _, pt.a, doc, pm, ctv, clos, rfl, h4.2, rfl, h3, hcode⟩
  | some q => obtain ⟨pr, q1, q2, q3⟩ := h4; exact ⟨p.a, _, pt.a, doc, pm, ctv, clos, rfl, q3, rfl, h3, hcode⟩

theorem CallV.of_fn (H : Lc c L) {i j t : Nat} {cl : List (Str × Nat)} {rd : Option Nat} {body : List Stmt} {ps : List Str} {args : List AV} (ho : os[i]? = some (.x (.fn j cl t rd))) (ht : os[t]? = some (.x (.code j))) (hbody : (L.N j).body = .stmts body)
    (hcell : ∀ x ∈ (L.N j).scope.names, x.2 ≠ .cell) (hbind : ∀ (xs : List Value) clos doc pm cv ctv, xs.length = args.length → bindArgs (mkF (L.N j) clos doc pm cv ctv) ⟨xs, []⟩ = Pure.pure (ps.zip xs)) (hloc : ∀ x ∈ ps, (L.N j).scope.names.lookup x = some .local)
    (hco : (L.N j).scope.isCoroutine = false) (hge : (L.N j).scope.isGenerator = false) (hk : (L.N j).scope.kind = .function)
    (h : Exs c n ⟨(L.N j).scope, cl, Option.none⟩ body ⟨(ps.zip args).reverse, os⟩ (.ret v) σ') (hb : Back os v σ'.os v' os') : CallV c (n + 1) (.ref i) args os v' os' := fun A ρ s x xs rm r hx hxs => by
  obtain ⟨a, o, cj, doc, pm, ctv, clos, rfl, hoa, hd, hcl, hcode⟩ := r.fn H ho ht hx
  refine Run.wp fun Q E hq => wpAny_call ?_
  have hlen := hxs.length
  refine codeAny_call_def (binds := ps.zip xs) rm.lt hoa hd (c.nolimit.keeps r.keep) hcode hbody (BindsTo.of_eq (hbind xs clos doc pm _ ctv hlen.symm)) hcell (fun x hx' => hloc x.1 (List.of_mem_zip (a := x.1) (b := x.2) hx').1) (fun h₀ hns hk' => ?_) hco hge hk
  have hL : ∀ a o, s.heap.get? a = some o → a ≠ s.heap.objs.size := fun a o e he => by rw [he] at e; exact absurd (Heap.lt_size e) (Nat.lt_irrefl _)
  have fresh : c.hb.get? s.heap.objs.size = Option.none := by
    cases e : c.hb.get? s.heap.objs.size with
    | none => rfl
    | some o => exact absurd rfl (hL _ _ (r.keep _ _ e))
  have r0 : Rel c [s.heap.objs.size] os ρ h₀ := by
    refine ⟨r.objs.loc (fun b o e => hk' b o (r.keep b o e)) fun a _ o e => hk' a o e, ?_, fun b o e => hk' b o (r.keep b o e), fun a ha => ?_, fun a ha => ?_⟩
    · refine List.nodup_cons.mpr ⟨fun hm => ?_, by simpa using r.nodup⟩
      exact absurd (r.live _ (by simpa using hm)) (Nat.lt_irrefl _)
    · rcases List.mem_cons.mp ha with rfl | ha
      · exact fresh
      · exact r.fresh a (by simpa using ha)
    · rcases List.mem_cons.mp ha with rfl | ha
      · exact hns.lt
      · have := r.live a (by simpa using ha)
        exact Nat.lt_trans this hns.lt
  have i0 : In c ⟨(L.N j).scope, cl, Option.none⟩ ⟨(ps.zip args).reverse, os⟩ (callEnv (mkF (L.N j) clos doc pm (.ref cj) ctv) s.heap.objs.size a) ρ h₀ :=
    ⟨r0, rfl, rfl, rfl, (fun _ e => by cases e), fun x i e => hcl.lookup e, _, hns, fun x u e => KV.lookup (KV.reverse (KV.zip hxs)) e⟩
  refine (h (callEnv (mkF (L.N j) clos doc pm (.ref cj) ctv) s.heap.objs.size a) _ ρ { s with heap := h₀, toks := s.toks + (ps.zip xs).length } rm.deeper i0) _ _ fun f h₁ tk₁ ρ₁ q₁ p₁ => ?_
  obtain ⟨i₁, y, rfl, hy⟩ := p₁
  obtain ⟨new, rfl, hnew⟩ := q₁.grow
  refine hq y h₁ tk₁ (ρ ++ (hb.run (h := s.heap) (X := []) r.objs.length i₁.rel.none hy (fun a ha => Nat.le_trans (Nat.le_of_lt hns.lt) (hnew a ha))).choose) fun sz => ?_
  obtain ⟨g1, g2, g3⟩ := (hb.run (h := s.heap) (X := []) r.objs.length i₁.rel.none hy (fun a ha => Nat.le_trans (Nat.le_of_lt hns.lt) (hnew a ha))).choose_spec
  refine ⟨⟨⟨_, rfl, g3⟩, fun b ob e hb' => ?_, sz⟩, g1, g2⟩
  exact q₁.keep b ob (hk' b ob e) fun hm => by
    rcases List.mem_cons.mp hm with rfl | hm
    · exact hL _ _ e rfl
    · exact hb' (by simpa using hm)
end
end Mine
end

section
open PySem PySem.W PyProof.Rows PyProof.V PySem.Spec PySem.SeqAt
set_option linter.unusedVariables false
set_option maxRecDepth 100000
namespace Mine

theorem lookup_snoc {α : Type} {x : Str} {p : Str × α} : ∀ (l : List (Str × α)), (l ++ [p]).lookup x = (l.lookup x).or (if x = p.1 then some p.2 else .none)
  | [] => by
    obtain ⟨a, b⟩ := p
    rw [List.nil_append, List.lookup_cons]
    by_cases h : x = a
    · subst h; simp
    · rw [beq_eq_false_iff_ne.mpr h]; simp [h]
  | (a, b) :: l => by
    rw [List.cons_append, List.lookup_cons, List.lookup_cons]
    cases x == a with
    | true => rfl
    | false => exact lookup_snoc l
theorem bindL_eq (k : Str → Option NameKind) (x : Str) : ∀ (binds : List (Str × Value)) (m : Str → Option Value), bindL k binds m x = if k x = some .local then (binds.reverse.lookup x).or (m x) else m x
  | [], m => by simp [bindL]
  | (n, v) :: r, m => by
    rw [bindL, bindL_eq k x r, List.reverse_cons, lookup_snoc]
    by_cases hx : k x = some .local
    · simp only [hx, if_true]
      by_cases hn : x = n
      · subst hn; first | (simp [hx]; done) | (simp [hx]; cases r.reverse.lookup x <;> simp)
      · by_cases hk : k n = some .local <;> simp [hk, hn] <;> cases r.reverse.lookup x <;> simp
    · simp only [hx, if_false]
      by_cases hk : k n = some .local
      · have : x ≠ n := fun e => hx (e ▸ hk)
        simp [hk, this]
      · simp [hk]
theorem bindC_eq (k : Str → Option NameKind) (x : Str) : ∀ (binds : List (Str × Value)) (m : Str → Option Value), bindC k binds m x = if k x = some .local then m x else (binds.reverse.lookup x).or (m x)
  | [], m => by simp [bindC]
  | (n, v) :: r, m => by
    rw [bindC, bindC_eq k x r, List.reverse_cons, lookup_snoc]
    by_cases hx : k x = some .local
    · simp only [hx, if_true]
      by_cases hk : k n = some .local
      · simp [hk]
      · have : x ≠ n := fun e => hk (e ▸ hx)
        simp [hk, this]
    · simp only [hx, if_false]
      by_cases hn : x = n
      · subst hn; first | (simp [hx]; done) | (simp [hx]; cases r.reverse.lookup x <;> simp)
      · by_cases hk : k n = some .local <;> simp [hk, hn] <;> cases r.reverse.lookup x <;> simp

noncomputable def cellIx : List Str → Nat → List (Str × Nat)
  | [], _ => []
  | x :: r, b => (x, b) :: cellIx r (b + 1)
noncomputable def cellPl : List Str → Nat → List Pl
  | [], _ => []
  | _ :: r, b => ⟨b, []⟩ :: cellPl r (b + 1)
theorem cellPl_length : ∀ (cn : List Str) (b : Nat), (cellPl cn b).length = cn.length
  | [], _ => rfl
  | _ :: r, b => congrArg (· + 1) (cellPl_length r (b + 1))
theorem foot_cellPl : ∀ (cn : List Str) (b : Nat) (a : Addr), a ∈ foot (cellPl cn b) → ∃ x, (x, a) ∈ cellIx cn b ∧ b ≤ a
  | x :: r, b, a, h => by
    rcases List.mem_cons.mp (show a ∈ b :: foot (cellPl r (b + 1)) from h) with rfl | h
    · exact ⟨x, List.mem_cons_self, Nat.le_refl _⟩
    · obtain ⟨y, h1, h2⟩ := foot_cellPl r (b + 1) a h
      exact ⟨y, List.mem_cons_of_mem _ h1, Nat.le_trans (Nat.le_succ _) h2⟩
theorem foot_cellPl_nodup : ∀ (cn : List Str) (b : Nat), (foot (cellPl cn b)).Nodup
  | [], _ => List.nodup_nil
  | x :: r, b => by
    refine List.nodup_cons.mpr ⟨fun h => ?_, foot_cellPl_nodup r (b + 1)⟩
    obtain ⟨_, _, h2⟩ := foot_cellPl r (b + 1) b h
    exact absurd h2 (Nat.not_le.mpr (Nat.lt_succ_self b))
theorem cellPl_get : ∀ (cn : List Str) (b j : Nat) (x : Str), cn[j]? = some x → (cellPl cn b)[j]? = some ⟨b + j, []⟩
  | _ :: r, b, 0, x, h => rfl
  | _ :: r, b, j + 1, x, h => by
    have := cellPl_get r (b + 1) j x (by simpa using h)
    show (cellPl r (b + 1))[j]? = _
    rw [this, show b + 1 + j = b + (j + 1) by omega]
theorem cellIx_lookup : ∀ (cn : List Str) (b i : Nat) (x : Str), (cellIx cn b).lookup x = some i → ∃ j, i = b + j ∧ cn[j]? = some x
  | y :: r, b, i, x, h => by
    rw [cellIx, List.lookup_cons] at h
    cases hy : x == y with
    | true => rw [hy] at h; cases h; exact ⟨0, rfl, by rw [eq_of_beq hy]; rfl⟩
    | false =>
      rw [hy] at h
      obtain ⟨j, h1, h2⟩ := cellIx_lookup r (b + 1) i x h
      exact ⟨j + 1, by omega, by simpa using h2⟩
theorem cellIx_mem : ∀ (cn : List Str) (b j : Nat) (x : Str), cn[j]? = some x → (x, b + j) ∈ cellIx cn b
  | y :: r, b, 0, x, h => by simp at h; subst h; exact List.mem_cons_self
  | y :: r, b, j + 1, x, h => by
    have := cellIx_mem r (b + 1) j x (by simpa using h)
    rw [show b + 1 + j = b + (j + 1) by omega] at this
    exact List.mem_cons_of_mem _ this

theorem lookup_of_mem {x : Str} {a : Nat} : ∀ {l : List (Str × Nat)}, (l.map (·.1)).Nodup → (x, a) ∈ l → l.lookup x = some a
  | (y, b) :: l, nd, h => by
    rw [List.lookup_cons]
    rcases List.mem_cons.mp h with h1 | h1
    · cases h1; simp
    · have hne : x ≠ y := fun e => by
        rw [e] at h1
        exact (List.nodup_cons.mp nd).1 (List.mem_map.mpr ⟨(y, a), h1, rfl⟩)
      rw [beq_eq_false_iff_ne.mpr hne]
      exact lookup_of_mem (List.nodup_cons.mp nd).2 h1
theorem cellIx_names : ∀ (cn : List Str) (b : Nat), (cellIx cn b).map (·.1) = cn
  | [], _ => rfl
  | x :: r, b => congrArg (x :: ·) (cellIx_names r (b + 1))

section
variable {c : Cx} {n : Nat} {fd : FD} {σ σ' σ₁ σ₂ σ₃ : S} {X : List Addr} {A : Around} {ρ : List Pl} {s : Shared} {os os' : List AO} {L : Law} {E : Value → Shared → Prop} {v v' : AV}

noncomputable def cellObjs (cn : List Str) (bs : List (Str × AV)) : List AO := cn.map fun x => .cell (bs.reverse.lookup x)
noncomputable def locOf (sc : Scope) (bs : List (Str × AV)) : List (Str × AV) := bs.reverse.filter fun p => sc.names.lookup p.1 == some .local

theorem lookup_filter {α : Type} {f : Str → Bool} {x : Str} {v : α} : ∀ {l : List (Str × α)}, (l.filter fun p => f p.1).lookup x = some v → f x = true ∧ l.lookup x = some v
  | [], h => by cases h
  | (y, b) :: l, h => by
    by_cases hf : f y = true
    · rw [List.filter_cons_of_pos (p := fun p : Str × α => f p.1) hf, List.lookup_cons] at h
      rw [List.lookup_cons]
      cases hy : x == y with
      | true => rw [hy] at h; exact ⟨by rw [eq_of_beq hy]; exact hf, h⟩
      | false => rw [hy] at h; exact lookup_filter h
    · rw [List.filter_cons_of_neg (p := fun p : Str × α => f p.1) hf] at h
      obtain ⟨h1, h2⟩ := lookup_filter h
      refine ⟨h1, ?_⟩
      rw [List.lookup_cons]
      cases hy : x == y with
      | true => rw [eq_of_beq hy] at h1; exact absurd h1 hf
      | false => exact h2

theorem KV.lookupO {y : Str} : ∀ {xs : List (Str × AV)} {vs : List (Str × Value)}, KV ρ xs vs → VRo ρ (xs.lookup y) (vs.lookup y)
  | [], [], _ => trivial
  | (a, b) :: xs, (a', b') :: vs, h => by
    obtain ⟨h1, h2, h3⟩ := h
    dsimp only at h1 h2; subst h1
    rw [List.lookup_cons, List.lookup_cons]
    cases hy : y == a with
    | true => exact h2
    | false => exact KV.lookupO h3

end
end Mine
end

section
open PySem PySem.W PyProof.Rows PyProof.V PySem.Spec PySem.SeqAt Builtin
set_option linter.unusedVariables false
set_option maxRecDepth 100000
namespace Mine

theorem slot_ci_next : Slot "callable_iterator" "__next__" "callable_iterator.__next__" := .of (owner := "callable_iterator") (n := "__next__") (by rw [typeLookup_type, builtinLookup_eq_fast]; kernel_rfl) (by decide +kernel) (by decide +kernel) (by decide +kernel)
    (by first | exact .inl (by decide +kernel) | exact .inr (by decide +kernel)) (by rw [isSubtype_type]; kernel_rfl)
theorem entry_ci_next : entryFor table "callable_iterator.__next__" = some Builtin.«callable_iterator.__next__» := entryFor_of_tree (by kernel_rfl)
theorem args_ci_next (a : Value) : argsOk "callable_iterator.__next__" ⟨[a], []⟩ := by unfold argsOk; kernel_rfl

section
variable {prog : Program} {w : World} {A : Around} {E : Value → Shared → Prop} {s : Shared} {f : Value} {pos : List Value}
theorem wpAny_callBorrowed {Q : Value → Shared → Prop} (hc : codeAny (model prog w) A (.call f ⟨pos, []⟩) (fun r s' => match r with | .ok (.ret v) => Q v s' | .ok _ => False | .error e => E e s') s) : wpAny (model prog w) A (callBorrowed f pos) Q E s := by
  intro Γ p hΓ
  have h1 := hc _ p rfl (hΓ.enter (.call f ⟨pos, []⟩) none p (by intro x; cases x))
  unfold callBorrowed
  rw [Sem.wp_call]
  refine (congrArg (fun R => wpCode (model prog w) (Γ.enter (.call f ⟨pos, []⟩) none p) R p s) (funext fun r => funext fun s' => ?_)).mpr h1
  cases r with
  | error e => simp [Sem.wp_raise]
  | ok fl => cases fl <;> simp [Sem.wp_pure', Sem.wp_unsupported]

theorem wpAny_borrows {a : Addr} {fn : Addr} {o : Obj} {d : FuncData} {self : Value} {Q : Bool → Shared → Prop} (ha : s.heap.get? a = some (methodObj (.ref fn) self)) (ho : s.heap.get? fn = some o) (hd : o.data = .func d) (h : Q true s) :
    wpAny (model prog w) A (borrowsExactly (.ref a)) Q E s := by
  unfold borrowsExactly
  refine wpAny_bind (wpAny_load ha ?_)
  dsimp only
  show wpAny _ _ (do match (← load fn).data with | .func _ => pure true | _ => pure false) _ _ _
  refine wpAny_bind (wpAny_load ho ?_)
  rw [hd]
  exact wpAny_pure h
end

section
variable {c : Cx} {n : Nat} {fd : FD} {σ σ' σ₁ σ₂ σ₃ : S} {X : List Addr} {A : Around} {ρ : List Pl} {s : Shared} {os os' : List AO} {L : Law} {E : Value → Shared → Prop} {v v' : AV}

/-- a call, seen as a code -/
noncomputable def CodeR (c : Cx) (n : Nat) (f : Value) (args : List AV) (os : List AO) (v : AV) (os' : List AO) : Prop :=
  ∀ A ρ s xs R, Room A n → Rel c [] os ρ s.heap → VRs ρ args xs → (∀ y h' tk' ρ', Reach [] ρ s.heap ρ' h' → Rel c [] os' ρ' h' → VR ρ' v y → R (.ok (.ret y)) { s with heap := h', toks := tk' }) → codeAny c.M A (.call f ⟨xs, []⟩) R s
theorem CodeR.call {f : Value} {args : List AV} (h : CodeR c n f args os v os') : CallR c n f args os v os' := fun A ρ s xs rm r hx Q E hq =>
  wpAny_call (h A ρ s xs _ rm r hx fun y h' tk' ρ' q r' hv => hq y h' tk' ρ' q ⟨r', hv⟩)

theorem CodeR.of_def {a : Addr} {d : FuncData} {body : List Stmt} {ps : List Str} {args : List AV} (D : DefAt c a d body)
    (hcell : ∀ x ∈ d.scope.names, x.2 ≠ .cell) (hbind : ∀ xs : List Value, xs.length = args.length → bindArgs d ⟨xs, []⟩ = Pure.pure (ps.zip xs)) (hloc : ∀ x ∈ ps, d.scope.names.lookup x = some .local)
    (h : Exs c n ⟨d.scope, [], Option.none⟩ body ⟨(ps.zip args).reverse, os⟩ (.ret v) σ') (hb : Back os v σ'.os v' os') : CodeR c (n + 1) (.ref a) args os v' os' := fun A ρ s xs R rm r hx hq => by
  obtain ⟨o, ho, hd⟩ := D.there
  have hlen := hx.length
  refine codeAny_size ?_
  refine codeAny_call_def (binds := ps.zip xs) rm.lt (r.keep _ _ ho) hd (c.nolimit.keeps r.keep) (D.code.keeps r.keep) D.body (BindsTo.of_eq (hbind xs hlen.symm)) hcell (fun x hx' => hloc x.1 (List.of_mem_zip (a := x.1) (b := x.2) hx').1) (fun h₀ hns hk => ?_) D.co D.gen D.kind
  have hL : ∀ a o, s.heap.get? a = some o → a ≠ s.heap.objs.size := fun a o e he => by rw [he] at e; exact absurd (Heap.lt_size e) (Nat.lt_irrefl _)
  have fresh : c.hb.get? s.heap.objs.size = Option.none := by
    cases e : c.hb.get? s.heap.objs.size with
    | none => rfl
    | some o => exact absurd rfl (hL _ _ (r.keep _ _ e))
  have r0 : Rel c [s.heap.objs.size] os ρ h₀ := by
    refine ⟨r.objs.loc (fun b o e => hk b o (r.keep b o e)) fun a _ o e => hk a o e, ?_, fun b o e => hk b o (r.keep b o e), fun a ha => ?_, fun a ha => ?_⟩
    · refine List.nodup_cons.mpr ⟨fun hm => ?_, by simpa using r.nodup⟩
      exact absurd (r.live _ (by simpa using hm)) (Nat.lt_irrefl _)
    · rcases List.mem_cons.mp ha with rfl | ha
      · exact fresh
      · exact r.fresh a (by simpa using ha)
    · rcases List.mem_cons.mp ha with rfl | ha
      · exact hns.lt
      · have := r.live a (by simpa using ha)
        exact Nat.lt_trans this hns.lt
  have i0 : In c ⟨d.scope, [], Option.none⟩ ⟨(ps.zip args).reverse, os⟩ (callEnv d s.heap.objs.size a) ρ h₀ :=
    ⟨r0, rfl, D.glob, D.blt, (fun _ e => by cases e), fun x i e => (by cases e), _, hns, fun x u e => KV.lookup (KV.reverse (KV.zip hx)) e⟩
  refine (h (callEnv d s.heap.objs.size a) _ ρ { s with heap := h₀, toks := s.toks + (ps.zip xs).length } rm.deeper i0) _ _ fun f h₁ tk₁ ρ₁ q₁ p₁ => ?_
  obtain ⟨i₁, y, rfl, hy⟩ := p₁
  obtain ⟨new, rfl, hnew⟩ := q₁.grow
  intro sz
  obtain ⟨nw, g1, g2, g3⟩ := hb.run (h := s.heap) (X := []) r.objs.length i₁.rel.none hy (fun a ha => Nat.le_trans (Nat.le_of_lt hns.lt) (hnew a ha))
  refine hq y h₁ tk₁ (ρ ++ nw) ⟨⟨_, rfl, g3⟩, fun b ob e hb' => ?_, sz⟩ g1 g2
  exact q₁.keep b ob (hk b ob e) fun hm => by
    rcases List.mem_cons.mp hm with rfl | hm
    · exact hL _ _ e rfl
    · exact hb' (by simpa using hm)
end
end Mine
end

section
open PySem PySem.W PyProof.Rows PyProof.V PySem.Spec PySem.SeqAt Builtin
set_option linter.unusedVariables false
set_option maxRecDepth 100000
namespace Mine
section
variable {c : Cx} {n : Nat} {fd : FD} {σ σ' σ₁ σ₂ σ₃ : S} {X : List Addr} {A : Around} {ρ : List Pl} {s : Shared} {os os' os₁ : List AO} {L : Law} {E : Value → Shared → Prop} {v v' : AV}

theorem Room.in1 (r : Room A (n + 1)) : Room A.in1 n := ⟨r.handled, by have := r.depth; show A.depth + n < _; omega, by have := r.units; show A.units + 1 + 20 * n + 100 < _; omega⟩

theorem Rel.citer (H : Lc c L) {h : Heap} {k b : Nat} {p : Pl} (r : Rel c X os ρ h) (hp : ρ[k]? = some p) (ho : os[k]? = some (.x (.citer b))) :
    ∃ pb t, p.more = [] ∧ ρ[b]? = some pb ∧ h.get? p.a = some { cls := .type "callable_iterator", data := .fields #[.ref pb.a, .str "" t, .bool false] } := by
  obtain ⟨p', hp', hx⟩ := r.objs.get ho
  rw [hp] at hp'; cases hp'
  have hx : XRof L (.citer b) ρ p h := H.xr ▸ hx
  exact hx
theorem Rel.meth (H : Lc c L) {h : Heap} {k b : Nat} {p : Pl} (r : Rel c X os ρ h) (hp : ρ[k]? = some p) (ho : os[k]? = some (.x (.meth b))) :
    ∃ pb, p.more = [] ∧ ρ[b]? = some pb ∧ h.get? p.a = some (methodObj (.ref L.fR) (.ref pb.a)) := by
  obtain ⟨p', hp', hx⟩ := r.objs.get ho
  rw [hp] at hp'; cases hp'
  have hx : XRof L (.meth b) ρ p h := H.xr ▸ hx
  exact hx

theorem citer_next (H : Lc c L) {k b y : Nat} {ch : Str} {p : Pl} {d : FuncData} {body : List Stmt} {Q : Option Value → Shared → Prop} (D : DefAt c L.fR d body) (rm : Room A (n + 1)) (r : Rel c [] os ρ s.heap) (hp : ρ[k]? = some p) (ho : os[k]? = some (.x (.citer b))) (hb : os[b]? = some (.x (.meth y)))
    (hc : CodeR c n (.ref L.fR) [.ref y] os (.str ch) os₁) (hk : os₁[k]? = some (.x (.citer b))) (hb₁ : os₁[b]? = some (.x (.meth y)))
    (h1 : ch ≠ "" → ∀ h' tk ρ' t, Reach [] ρ s.heap ρ' h' → Rel c [] os₁ ρ' h' → Q (some (.str ch t)) { s with heap := h', toks := tk })
    (h2 : ch = "" → ∀ h' tk ρ', Reach [] ρ s.heap ρ' h' → Rel c [] (os₁.set k (.x .junk)) ρ' h' → Q none { s with heap := h', toks := tk }) : wpAny c.M A (pyNext (.ref p.a)) Q E s := by
  obtain ⟨pb, t, m0, hpb, hit⟩ := r.citer H hp ho
  obtain ⟨py, m1, hpy, hme⟩ := r.meth H hpb hb
  obtain ⟨fo, hfo, hfd⟩ := D.there
  have hT : s.TypeIs (.ref p.a) "callable_iterator" := ⟨_, hit, rfl⟩
  unfold pyNext
  refine wpAny_bind (wpAny_attempt (wpAny_callSpecial?_slot (name := Str.ofString "__next__") hT slot_ci_next (wpAny_call_entry slot_ci_next hT entry_ci_next ?_ (args_ci_next _))))
  unfold Builtin.«callable_iterator.__next__»
  have e1 : slotArgs "__next__" 0 ⟨[.ref p.a], []⟩ = pure (.ref p.a, []) := by kernel_rfl
  show wpAny _ _ (slotArgs "__next__" 0 ⟨[.ref p.a], []⟩ >>= _) _ _ _
  rw [e1]
  refine wpAny_bind (wpAny_pure ?_)
  refine wpAny_bind (wpAny_field hit rfl (x := .bool false) rfl ?_)
  rw [if_neg (by decide)]
  refine wpAny_bind (wpAny_field hit rfl (x := .ref pb.a) rfl ?_)
  refine wpAny_bind (wpAny_attempt ?_)
  unfold callOutOfASlot
  refine wpAny_bind (wpAny_borrows hme (r.keep _ _ hfo) hfd ?_)
  rw [if_pos rfl]
  refine wpAny_callBorrowed (method_call hme ?_)
  refine hc A.in1 ρ s [.ref py.a] _ rm.in1 r ⟨⟨py, hpy, rfl⟩, trivial⟩ fun z h₁ tk₁ ρ₁ q₁ r₁ hz => ?_
  obtain ⟨tz, rfl⟩ := hz
  obtain ⟨pb₁, t₁, m2, hpb₁, hit₁⟩ := r₁.citer H (by obtain ⟨new, rfl, _⟩ := q₁.grow; exact getElem?_mono hp) hk
  dsimp only
  refine wpAny_bind (wpAny_field hit₁ rfl (x := .bool false) rfl ?_)
  rw [if_neg (by decide)]
  refine wpAny_bind (wpAny_field hit₁ rfl (x := .str "" t₁) rfl ?_)
  refine wpAny_bind (wpAny_holding (eqBool_str ?_))
  by_cases hch : ch = ""
  · subst hch
    rw [if_neg (by decide)]
    refine wpAny_bind (wpAny_rule (wpAny_bind ?_))
    show wpAny _ _ (field (.ref p.a) 0 >>= fun f => slotLetsGo "callable_iterator.__next__" f _ >>= fun _ => setField (.ref p.a) 0 .none >>= fun _ => setField (.ref p.a) 1 .none >>= fun _ => setField (.ref p.a) 2 (.bool true)) _ _ _
    have hp₁ : ρ₁[k]? = some p := by obtain ⟨new, rfl, _⟩ := q₁.grow; exact getElem?_mono hp
    obtain ⟨py₁, m3, hpy₁, hme₁⟩ := r₁.meth H hpb₁ hb₁
    refine wpAny_bind (wpAny_field hit₁ rfl (x := .ref pb₁.a) rfl (wpAny_bind ?_))
    unfold slotLetsGo
    refine wpAny_bind (wpAny_borrows hme₁ (r₁.keep _ _ hfo) hfd ?_)
    rw [if_pos rfl]
    refine wpAny_pure ?_
    refine wpAny_bind (wpAny_setField_rec hit₁ (by simp) fun g1 a1 b1 => ?_)
    refine wpAny_bind (wpAny_setField_rec a1 (by simp) fun g2 a2 b2 => ?_)
    refine wpAny_setField_rec a2 (by simp) fun g3 a3 b3 => ?_
    have sb : Heap.SameBut p.a h₁ g3 := ⟨b3.1.trans (b2.1.trans b1.1), fun b hb => (b3.2 b hb).trans ((b2.2 b hb).trans (b1.2 b hb))⟩
    have r3 : Rel c [] (os₁.set k (.x .junk)) ρ₁ g3 := r₁.setObj hp₁ (fun a ha => sb.2 a fun e => ha (by subst e; exact List.mem_cons_self)) sb.1 (by show c.XR _ _ _ _; rw [H.xr]; trivial)
    have q3 : Reach [] ρ s.heap ρ₁ g3 := q₁.trans (Reach.set hp₁ sb)
    show wpAny _ _ (newExc (.type "StopIteration") [] >>= _) _ _ _
    refine wpAny_bind ?_
    simp only [newExc, newTuple]
    refine wpAny_bind (wpAny_newObj_type ?_ (by size_fits))
    refine wpAny_bind (m := firstArgMember _ _) (wpAny_of_eq (a := Value.none) (by first | rfl | (simp only [firstArgMember]; rfl)) ?_)
    refine wpAny_newObj_type ?_ (by size_fits)
    simp only [raiseNew]
    refine wpAny_bind (wpAny_handled ?_)
    rw [show A.in1.handled = none from rm.handled]
    refine wpAny_bind (wpAny_pure (wpAny_throw ?_))
    refine wpAny_bind (wpAny_isInstance (T := "StopIteration") (b := true) ⟨_, Heap.get?_push_size _ rfl, rfl⟩ isSubtype_stop ?_)
    exact wpAny_pure (h2 rfl _ _ ρ₁ ((q3.trans (Reach.waste [] ρ₁ _ _)).trans (Reach.waste [] ρ₁ _ _)) ((r3.waste _).waste _))
  · have e2 : ((Str.ofString "") == ch) = false := beq_eq_false_iff_ne.mpr fun e => hch e.symm
    rw [e2, if_pos (by decide)]
    refine wpAny_bind (wpAny_pure (wpAny_pure ⟨_, rfl, ?_⟩))
    exact wpAny_pure (h1 hch h₁ tk₁ ρ₁ tz q₁ r₁)
end
end Mine
end

section
open PySem PySem.W PyProof.Rows PyProof.V PySem.Spec PySem.SeqAt Builtin
set_option linter.unusedVariables false
set_option maxRecDepth 100000
namespace Mine

theorem slot_ci_iter : Slot "callable_iterator" "__iter__" "callable_iterator.__iter__" := .of (owner := "callable_iterator") (n := "__iter__") (by rw [typeLookup_type, builtinLookup_eq_fast]; kernel_rfl) (by decide +kernel) (by decide +kernel) (by decide +kernel)
    (by first | exact .inl (by decide +kernel) | exact .inr (by decide +kernel)) (by rw [isSubtype_type]; kernel_rfl)
theorem entry_ci_iter : entryFor table "callable_iterator.__iter__" = some Builtin.«dict_keyiterator.__iter__» :=
  entryFor_alias (id' := "dict_keyiterator.__iter__") (by kernel_rfl) (by first | rfl | decide +kernel | (unfold String.splitOn; simp +decide [String.splitOnAux])) (by decide +kernel) (by kernel_rfl)
theorem args_ci_iter (a : Value) : argsOk "callable_iterator.__iter__" ⟨[a], []⟩ := by unfold argsOk; kernel_rfl

section
variable {c : Cx} {n : Nat} {fd : FD} {σ σ' σ₁ σ₂ σ₃ : S} {X : List Addr} {A : Around} {ρ : List Pl} {s : Shared} {os os' os₁ : List AO} {L : Law} {E : Value → Shared → Prop} {v v' : AV}

noncomputable def Lt (c : Cx) (n : Nat) (fd : FD) (x : Str) (body : List Stmt) (k : Nat) (σ : S) (f : AF) (σ' : S) : Prop :=
  ∀ env A ρ s px p R, Room A n → In c fd σ env ρ s.heap → ρ[k]? = some p → (∀ fl h' tk' ρ', Reach [env.locals] ρ s.heap ρ' h' → In c fd σ' env ρ' h' → FR ρ' f fl → R (.ok fl) { s with heap := h', toks := tk' }) →
    codeAny c.M A (.forLoop (.Name x px) (.ref p.a) body [] env) R s

theorem Lt.done (H : Lc c L) {x : Str} {body bR : List Stmt} {k b y : Nat} {d : FuncData} (D : DefAt c L.fR d bR) (ho : σ.os[k]? = some (.x (.citer b))) (hb : σ.os[b]? = some (.x (.meth y)))
    (hc : CodeR c n (.ref L.fR) [.ref y] σ.os (.str "") os₁) (hk : os₁[k]? = some (.x (.citer b))) (hb₁ : os₁[b]? = some (.x (.meth y))) : Lt c (n + 1) fd x body k σ .next ⟨σ.vs, os₁.set k (.x .junk)⟩ := fun env A ρ s px p R rm i hp hR => by
  refine codeAny_for_turn (citer_next H D rm i.rel.none hp ho hb hc hk hb₁ (fun e => absurd rfl e) fun _ h' tk ρ' q r => ?_)
  exact hR _ h' tk ρ' (q.more (by simp)) (i.lift q r) rfl

theorem Lt.turn (H : Lc c L) {x : Str} {body bR : List Stmt} {k b y : Nat} {d : FuncData} {ch : Str} {f₁ f : AF} (D : DefAt c L.fR d bR) (ho : σ.os[k]? = some (.x (.citer b))) (hb : σ.os[b]? = some (.x (.meth y)))
    (hc : CodeR c n (.ref L.fR) [.ref y] σ.os (.str ch) os₁) (hk : os₁[k]? = some (.x (.citer b))) (hb₁ : os₁[b]? = some (.x (.meth y))) (hne : ch ≠ "") (hs : Sto fd x (.str ch) ⟨σ.vs, os₁⟩ σ₁) (hx : Exs c (n + 1) fd body σ₁ f₁ σ₂) (hkd : fd.scope.kind = .function)
    (go : (f₁ = .next ∨ f₁ = .cont) → Lt c (n + 1) fd x body k σ₂ f σ₃) (ends : ¬ (f₁ = .next ∨ f₁ = .cont) → σ₃ = σ₂ ∧ f = (match f₁ with | .brk => .next | g => g)) : Lt c (n + 1) fd x body k σ f σ₃ := fun env A ρ s px p R rm i hp hR => by
  refine codeAny_for_turn (citer_next H D rm i.rel.none hp ho hb hc hk hb₁ (fun _ h₁ tk₁ ρ₁ t q₁ r₁ => ?_) fun e => absurd e hne)
  have i₁ := i.lift q₁ r₁
  refine hs.run (s := { s with heap := h₁, toks := tk₁ }) i₁ ⟨t, rfl⟩ hkd _ _ fun _ h₂ tk₂ ρ₂ q₂ i₂ => ?_
  refine hx env A ρ₂ { s with heap := h₂, toks := tk₂ } rm i₂ _ _ fun fl h₃ tk₃ ρ₃ q₃ p₃ => ?_
  have qq : Reach [env.locals] ρ s.heap ρ₃ h₃ := ((q₁.more (by simp)).trans q₂).trans q₃
  have hp₃ : ρ₃[k]? = some p := by obtain ⟨new, rfl, _⟩ := qq.grow; exact getElem?_mono hp
  obtain ⟨i₃, hf⟩ := p₃
  cases f₁ with
  | next => cases hf; exact go (.inl rfl) env A ρ₃ { s with heap := h₃, toks := tk₃ } px p R rm i₃ hp₃ fun fl' h' tk' ρ' q' i' hf' => hR fl' h' tk' ρ' (qq.trans q') i' hf'
  | cont => cases hf; exact go (.inr rfl) env A ρ₃ { s with heap := h₃, toks := tk₃ } px p R rm i₃ hp₃ fun fl' h' tk' ρ' q' i' hf' => hR fl' h' tk' ρ' (qq.trans q') i' hf'
  | brk =>
    cases hf
    obtain ⟨rfl, rfl⟩ := ends (by rintro (h | h) <;> cases h)
    exact hR _ h₃ tk₃ ρ₃ qq i₃ rfl
  | ret u =>
    obtain ⟨z, rfl, hz⟩ := hf
    obtain ⟨rfl, rfl⟩ := ends (by rintro (h | h) <;> cases h)
    exact hR _ h₃ tk₃ ρ₃ qq i₃ ⟨z, rfl, hz⟩

theorem Ex.forC (H : Lc c L) {x : Str} {px pos : Pos} {iter : Expr} {body : List Stmt} {k b : Nat} {f : AF} (h1 : Ev c n fd iter σ (.ref k) σ₁) (ho : σ₁.os[k]? = some (.x (.citer b))) (h2 : Lt c n fd x body k σ₁ f σ₂)
    (hs : ∀ env v, foldedSetIterable iter env v = Pure.pure v := by intro _ _; rfl) : Ex c n fd (.For (.Name x px) iter body [] pos) σ f σ₂ := fun env A ρ s rm i => by
  rw [exec_For]
  refine Run.stand (Run.bind (h1 env A ρ s rm i) fun v h₁ tk₁ ρ₁ q₁ p₁ => ?_)
  refine Run.bind (P := fun ρ' h' u => u = v ∧ In c fd σ₁ env ρ' h' ∧ VR ρ' (.ref k) v) (Run.of_eq (hs env v) (Run.pure ⟨rfl, p₁⟩)) fun u h₂ tk₂ ρ₂ q₂ p₂ => ?_
  obtain ⟨rfl, i₂, p, hp, rfl⟩ := p₂
  refine Run.stand ?_
  obtain ⟨pb, t, m0, hpb, hit⟩ := i₂.rel.citer H hp ho
  have hT : ({ s with heap := h₂, toks := tk₂ } : Shared).TypeIs (.ref p.a) "callable_iterator" := ⟨_, hit, rfl⟩
  intro Q E hq
  refine wpAny_bind (wpAny_holding ?_)
  refine wpAny_pyIter_slot hT slot_ci_iter (wpAny_call_entry slot_ci_iter hT entry_ci_iter ?_ (args_ci_iter _))
  show wpAny _ _ (PySem.ret (Value.ref p.a)) _ _ _
  refine wpAny_pure ⟨_, rfl, "callable_iterator", _, hT, slot_ci_next.lookup, wpAny_runOwn ?_⟩
  exact h2 env _ ρ₂ { s with heap := h₂, toks := tk₂ } px p _ rm i₂ hp fun fl h' tk' ρ' q' ii hf => hq fl h' tk' ρ' q' ⟨ii, hf⟩
end
end Mine
end

section
open PySem PySem.W PyProof.Rows PyProof.V PySem.Spec PySem.SeqAt Builtin
set_option linter.unusedVariables false
set_option maxRecDepth 100000
namespace Mine

section
variable {c : Cx} {n : Nat} {fd : FD} {σ σ' σ₁ σ₂ σ₃ : S} {X : List Addr} {A : Around} {ρ : List Pl} {s : Shared} {os os' os₁ : List AO} {L : Law} {E : Value → Shared → Prop} {v v' : AV}

/-- a bound method -/
theorem get_m (H : Lc c L) {i : Nat} {m : List (Str × AV)} {name : Str} {ex : Bool} (ho : os[i]? = some (.x (.inst m))) (hm : m.lookup name = Option.none) (hf : findIn c.K (.ref L.C) name = some (some (.ref L.fR))) (hfn : isFn c.K (.ref L.fR) = true)
    (hgf : specialIn c.K (.ref L.fR) "__get__" = some (some (.builtin "function.__get__"))) (ht : takesIn c.K (.ref L.fR) = some false) (hcn : copiedNames.contains name = false) (hh : hasDictIn c.K L.C = true) :
    Op1 c n (fun x => getAttr x name ex) (.ref i) os (.ref os.length) (os ++ [.x (.meth i)]) := fun A ρ s x rm r hx => Run.wp fun Q E hq => by
  obtain ⟨p, dx, m', hp, rfl, h1, h2, h3, h4⟩ := r.inst H ho hx
  obtain ⟨od, J, hl⟩ := h2.k
  have hv := h3 name
  rw [hm] at hv
  have e : m' name = Option.none := by cases e : m' name with | none => rfl | some _ => rw [e] at hv; exact hv.elim
  refine get_bind r.inK J H.ga (findObj_fn hh hf hgf ht hcn ((hl name).trans (by rw [e]))) H.gt ?_
  refine wpAny_call (W.fn_get (s := { s with toks := s.toks + 1 }) r.inK (beq_iff_eq.mp hfn) (handed_on rfl ?_))
  have hk : Keeps s.heap (s.heap.push (methodObj (.ref L.fR) (.ref p.a))) := fun b o e => Heap.get?_push_of_some _ e
  refine hq _ _ _ (ρ ++ [⟨s.heap.objs.size, []⟩]) fun sz => ⟨Reach.new hk sz (Nat.le_refl _), r.new hk sz (Nat.le_refl _) (by rw [Heap.size_push]; exact Nat.lt_succ_self _) ?_, VR.newAt r⟩
  show c.XR _ _ _ _
  rw [H.xr]
  exact ⟨p, rfl, getElem?_mono hp, Heap.get?_push_size _ rfl⟩

theorem Ev.attrM (H : Lc c L) {e : Expr} {name : Str} {pos : Pos} {i : Nat} {m : List (Str × AV)} (h1 : Ev c n fd e σ (.ref i) σ₁) (ho : σ₁.os[i]? = some (.x (.inst m))) (hm : m.lookup name = Option.none) (hf : findIn c.K (.ref L.C) name = some (some (.ref L.fR))) (hfn : isFn c.K (.ref L.fR) = true)
    (hgf : specialIn c.K (.ref L.fR) "__get__" = some (some (.builtin "function.__get__"))) (ht : takesIn c.K (.ref L.fR) = some false) (hcn : copiedNames.contains name = false) (hh : hasDictIn c.K L.C = true)
    (hb : ∀ env, attributeBase e name env (eval e env) = eval e env) : Ev c n fd (.Attribute e name pos) σ (.ref σ₁.os.length) ⟨σ₁.vs, σ₁.os ++ [.x (.meth i)]⟩ := fun env A ρ s rm ii => by
  rw [arm_eval_Attribute, hb]
  refine Run.bind (h1 env A ρ s rm ii) fun x h₁ tk₁ ρ₁ q₁ p₁ => Run.stand ?_
  refine Run.bind (Run.holding (p₁.1.op (get_m (n := n) H ho hm hf hfn hgf ht hcn hh A ρ₁ _ x rm p₁.1.rel.none p₁.2))) fun y h₂ tk₂ ρ₂ q₂ p₂ => ?_
  exact fun Q E hq => wpAny_bind (wpAny_letTemporaryGo (wpAny_pure (hq _ h₂ tk₂ ρ₂ (Reach.refl ..) p₂)))

theorem ci_entry : entryFor table "iter" = some Builtin.«iter» := entryFor_of_tree (by kernel_rfl)
theorem ci_kind : builtinKind "iter" = Option.none := by decide +kernel
theorem ci_plain : plainId "iter" = true := by decide +kernel
theorem ci_args (a b : Value) : argsOk "iter" ⟨[a, b], []⟩ := by unfold argsOk; kernel_rfl
theorem meth_call : typeLookup (.type "method") "__call__" = Pure.pure (some (.builtin "method.__call__")) := by rw [typeLookup_type, builtinLookup_eq_fast]; kernel_rfl

theorem iter_m (H : Lc c L) {b y : Nat} (ho : os[b]? = some (.x (.meth y))) : CallR c n (.builtin "iter") [.ref b, .str ""] os (.ref os.length) (os ++ [.x (.citer b)]) := fun A ρ s xs rm r hx => Run.wp fun Q E hq => by
  match xs, hx with
  | [_, _], ⟨⟨p, hp, rfl⟩, ⟨t, rfl⟩, _⟩ =>
    obtain ⟨py, m1, hpy, hme⟩ := r.meth H hp ho
    have hT : s.TypeIs (.ref p.a) "method" := ⟨_, hme, rfl⟩
    refine Calls.call_function_entry ci_kind ci_plain ci_entry (ci_args _ _) ?_
    unfold Builtin.«iter»
    refine wpAny_bind (wpAny_of_eq (a := [.ref p.a, .str "" t]) (by first | rfl | kernel_rfl) ?_)
    dsimp only
    refine wpAny_bind (wpAny_specialOf hT meth_call ?_)
    rw [if_neg (by decide)]
    refine wpAny_bind (wpAny_rule (wpAny_bind ?_))
    unfold newFields
    refine wpAny_newObj_type (wpAny_pure ⟨_, rfl, ?_⟩) (by size_fits)
    have hk : Keeps s.heap (s.heap.push { cls := .type "callable_iterator", data := .fields #[.ref p.a, .str "" t, .bool false] }) := fun b o e => Heap.get?_push_of_some _ e
    refine hq _ _ _ (ρ ++ [⟨s.heap.objs.size, []⟩]) fun sz => ⟨Reach.new hk sz (Nat.le_refl _), r.new hk sz (Nat.le_refl _) (by rw [Heap.size_push]; exact Nat.lt_succ_self _) ?_, VR.newAt r⟩
    show c.XR _ _ _ _
    rw [H.xr]
    exact ⟨p, t, rfl, getElem?_mono hp, Heap.get?_push_size _ rfl⟩
end
end Mine
end

section
open PySem PySem.W PyProof.Rows PyProof.V PySem.Spec PySem.SeqAt Builtin
set_option linter.unusedVariables false
set_option maxRecDepth 100000
namespace Mine

section
variable {c : Cx} {n : Nat} {fd : FD} {σ σ' σ₁ σ₂ σ₃ : S} {X : List Addr} {A : Around} {ρ : List Pl} {s : Shared} {os os' os₁ : List AO} {L : Law} {E : Value → Shared → Prop} {v v' : AV}

theorem Rel.fnRd (H : Lc c L) {h : Heap} {i j t q e : Nat} {cl : List (Str × Nat)} {p : Pl} (r : Rel c X os ρ h) (hp : ρ[i]? = some p) (ho : os[i]? = some (.x (.fn j cl t (some e)))) (he : os[e]? = some (.x (.rdict q))) :
    ∃ d ld pr, ρ[q]? = some pr ∧ h.get? p.a = some (fnObj d (some ld)) ∧ h.Ns1 ld (fun y => if y = "read" then some (.ref pr.a) else Option.none) := by
  obtain ⟨p', hp', hx⟩ := r.objs.get ho
  rw [hp] at hp'; cases hp'
  have hx : XRof L (.fn j cl t (some e)) ρ p h := H.xr ▸ hx
  obtain ⟨pt, doc, pm, ctv, clos, h1, h3, pd, h4, h5, h6⟩ := hx
  obtain ⟨pd', hpd, hxd⟩ := r.objs.get he
  rw [h5] at hpd; cases hpd
  have hxd : XRof L (.rdict q) ρ pd h := H.xr ▸ hxd
  obtain ⟨pq, g1, g2, g3⟩ := hxd
  exact ⟨_, pd.a, pq, g2, h6, g3⟩

theorem mth_fn (H : Lc c L) {i j t q e : Nat} {cl : List (Str × Nat)} (ho : os[i]? = some (.x (.fn j cl t (some e)))) (he : os[e]? = some (.x (.rdict q))) {x : Value} {pl : Sem Bool} (rm : Room A n) (r : Rel c [] os ρ s.heap) (hx : VR ρ (.ref i) x) :
    Run c [] A ρ s (getMethod x "read" pl) fun ρ' h' z => Rel c [] os ρ' h' ∧ ∃ y, z = (y, []) ∧ VR ρ' (.ref q) y := by
  obtain ⟨p, hp, rfl⟩ := hx
  obtain ⟨d, ld, pr, h1, h2, h3⟩ := r.fnRd H hp ho he
  have hT : s.TypeIs (.ref p.a) "function" := ⟨_, h2, rfl⟩
  intro Q E hq
  unfold getMethod
  refine wpAny_bind (wpAny_specialOf hT fn_ga ?_)
  show wpAny _ _ (if (Manifest.canonical "object.__getattribute__" != "object.__getattribute__") = true then _ else _) _ _ _
  rw [PySem.F.canon_object_ga, if_neg (by decide)]
  refine wpAny_bind (wpAny_specialOf hT fn_getattr ?_)
  rw [if_neg (by decide)]
  refine wpAny_bind (wpAny_specialOf hT fn_read ?_)
  refine wpAny_bind (Mine.fn_get (v := .ref pr.a) h2 h3.ns (if_pos rfl) rfl fun tk => wpAny_pure ?_)
  exact hq _ s.heap tk ρ (Reach.refl ..) ⟨r, _, rfl, pr, h1, rfl⟩

theorem callWith_fn {M : Model} {pos : Pos} {a : Addr} {first : List Value} {args : List (Bool × Sem Value)} {Q : Value → Shared → Prop} (hs : args.any (·.1) = false)
    (h : wpAny M A (PySem.evalArgs (.ref a) true args []) (fun x s₁ => (∃ o d, s₁.heap.get? a = some o ∧ o.data = .func d) ∧ wpAny M A (call (.ref a) (first ++ x.pos) x.kw) Q E s₁) E s) :
    wpAny M A (PySem.callWith pos (.ref a) first args []) Q E s := by
  unfold PySem.callWith
  refine wpAny_bind (wpAny_holding (wpAny_mono h (fun x s₁ h₁ => wpAny_bind (wpAny_standAt ?_)) fun _ _ x => x))
  have tail : ∀ {t : Sem Value}, wpAny M A t Q E s₁ → wpAny M A (t >>= fun r => holding [r] point >>= fun _ => Pure.pure r) Q E s₁ :=
    fun ht => wpAny_bind (wpAny_mono ht (fun r s₂ hr => wpAny_bind (wpAny_holding (wpAny_point (wpAny_pure hr)))) fun _ _ x => x)
  obtain ⟨⟨o, d, ho, hd⟩, hc⟩ := h₁
  simp only [hs, List.any_nil, Bool.or_false]
  refine wpAny_bind (m := keeperOf (.ref a)) ?_
  unfold keeperOf
  refine wpAny_bind (wpAny_load ho ?_)
  rw [hd]
  refine wpAny_pure ?_
  first
    | refine wpAny_ite ?_
    | skip
  split <;> first
    | exact tail hc
    | exact tail (by unfold callMarked; exact Calls.wpAny_keep hc)

/-- o.read(..), read an attribute of a function -/
theorem Ev.methV (H : Lc c L) {o : Expr} {apos pos : Pos} {es : List Expr} {i j t q e j' t' : Nat} {cl cl' : List (Str × Nat)} {rd' : Option Nat} {vs : List AV} (h0 : Ev c n fd o σ (.ref i) σ₁) (ho : σ₁.os[i]? = some (.x (.fn j cl t (some e)))) (he : σ₁.os[e]? = some (.x (.rdict q))) (h1 : Evs c n fd es σ₁ vs σ₂)
    (hq1 : σ₂.os[q]? = some (.x (.fn j' cl' t' rd'))) (hq2 : σ₂.os[t']? = some (.x (.code j'))) (h2 : CallV c n (.ref q) vs σ₂.os v os)
    (hp : Plain1 es) (hs : ∀ env, (starEach es env).any (·.1) = false) (hline : (apos.endLine == pos.line) = true) (hfew : es.length < 30)
    (hbase : ∀ env, attributeBase o "read" env (eval o env) = eval o env) : Ev c n fd (.Call (.Attribute o "read" apos) es [] pos) σ v ⟨σ₂.vs, os⟩ := fun env A ρ s rm ii => by
  rw [arm_eval_Call, hbase]
  refine Run.bind (h0 env A ρ s rm ii) fun x hx tk ρ₁ q₁ p₁ => ?_
  refine Run.stand ?_
  have hform : methodCallForm (es.length + ([] : List Keyword).length) (backTo pos (starEach es env)) (backToKw pos (keywordEach [] env)) = true := by
    unfold methodCallForm
    have h1 : (backTo pos (starEach es env)).all (fun x => !x.1) = true := by
      have := starAny (pos := pos) (env := env) hs
      rw [List.all_eq_true]; intro y hy
      have := List.any_eq_false.mp this y hy
      simpa using this
    rw [h1]
    show (true && true && decide (es.length + 0 + (if ([] : List (Option Str × Sem Value)).isEmpty then 0 else 1) < 30)) = true
    simpa using hfew
  have hpos : methodCallPos true o env apos pos = Pure.pure pos := by unfold methodCallPos; simp [hline]
  unfold methodCall
  rw [hform]
  refine Run.bind (P := fun ρ' h' z => In c fd σ₁ env ρ' h' ∧ ∃ y, z = (y, []) ∧ VR ρ' (.ref q) y) (Run.holding ?_) fun z hz tk₂ ρ₂ q₂ p₂ => ?_
  · intro Q E hq
    exact mth_fn (s := { s with heap := hx, toks := tk }) H ho he rm p₁.1.rel.none p₁.2 Q E fun z h' tk' ρ' qq pp => hq z h' tk' ρ' (qq.more (by simp)) ⟨p₁.1.lift qq pp.1, pp.2⟩
  obtain ⟨i₂, y, rfl, hy⟩ := p₂
  dsimp only
  refine Run.bind (P := fun ρ' h' q' => q' = pos ∧ In c fd σ₁ env ρ' h' ∧ VR ρ' (.ref q) y) (Run.of_eq hpos (Run.pure ⟨rfl, i₂, hy⟩)) fun q' hq tk₃ ρ₃ q₃ p₃ => ?_
  obtain ⟨rfl, i₃, p, hp₃, rfl⟩ := p₃
  intro Q E hQ
  refine callWith_fn (starAny hs) (h1.args hp rm i₃ _ _ fun ar h₄ tk₄ ρ₄ q₄ p₄ => ?_)
  obtain ⟨xs, rfl, i₄, hxs⟩ := p₄
  have hv : VR ρ₄ (.ref q) (.ref p.a) := VR.reach (x := .ref q) ⟨p, hp₃, rfl⟩ q₄
  obtain ⟨a, ob, cj, doc, pm, ctv, clos, e', hoa, hd, _, _⟩ := i₄.rel.fn H hq1 hq2 hv
  cases e'
  refine ⟨⟨ob, _, hoa, hd⟩, ?_⟩
  exact (i₄.op (h2 A ρ₄ _ (.ref p.a) xs rm i₄.rel.none hv hxs)) Q E fun z h' tk' ρ' qq pp => hQ z h' tk' ρ' (q₄.trans qq) pp
end
end Mine
end

section
open PySem PySem.W PyProof.Rows PyProof.V PySem.Spec PySem.SeqAt Builtin
set_option linter.unusedVariables false
set_option maxRecDepth 100000
namespace Mine

section
variable {c : Cx} {n : Nat} {fd : FD} {σ σ' σ₁ σ₂ σ₃ : S} {X : List Addr} {A : Around} {ρ : List Pl} {s : Shared} {os os' os₁ : List AO} {L : Law} {E : Value → Shared → Prop} {v v' : AV}

/-- one object turned, and new ones behind -/
theorem Rel.grow {h h' : Heap} {new : List Pl} {nos : List AO} {k : Nat} {p : Pl} {o : AO} (r : Rel c X os ρ h) (hp : ρ[k]? = some p) (keep : ∀ a ob, h.get? a = some ob → a ∉ p.a :: p.more → h'.get? a = some ob)
    (sz : h.objs.size ≤ h'.objs.size) (hf : ∀ a ∈ foot new, h.objs.size ≤ a ∧ a < h'.objs.size) (nd : (foot new).Nodup) (y : OR c (ρ ++ new) o p h') (ys : ORs c (ρ ++ new) nos new h') : Rel c X (os.set k o ++ nos) (ρ ++ new) h' := by
  have nf : ∀ a ob, c.hb.get? a = some ob → a ∉ p.a :: p.more := fun a ob e hm => by
    have := r.fresh a (List.mem_append_right _ (foot_mem_of_get hp a hm))
    rw [this] at e; cases e
  have kb : Keeps c.hb h' := fun a ob e => keep a ob (r.keep a ob e) (nf a ob e)
  refine ⟨?_, ?_, kb, fun a ha => ?_, fun a ha => ?_⟩
  · exact (ORs.set kb (r.objs.mono new) hp (List.nodup_append.mp r.nodup).2.1 (fun a ha ob e => keep a ob e ha) y).append ys
  · rw [foot_append, ← List.append_assoc]
    refine List.nodup_append.mpr ⟨r.nodup, nd, fun a ha b hb e => ?_⟩
    subst e
    exact absurd (r.live a ha) (Nat.not_lt.mpr (hf a hb).1)
  · rw [foot_append, ← List.append_assoc] at ha
    rcases List.mem_append.mp ha with ha | ha
    · exact r.fresh a ha
    · cases e : c.hb.get? a with
      | none => rfl
      | some ob => exact absurd (Heap.lt_size (r.keep _ _ e)) (Nat.not_lt.mpr (hf a ha).1)
  · rw [foot_append, ← List.append_assoc] at ha
    rcases List.mem_append.mp ha with ha | ha
    · exact Nat.lt_of_lt_of_le (r.live a ha) sz
    · exact (hf a ha).2
theorem Reach.grown {h h' : Heap} {new : List Pl} {k : Nat} {p : Pl} (hp : ρ[k]? = some p) (keep : ∀ a ob, h.get? a = some ob → a ∉ p.a :: p.more → h'.get? a = some ob) (sz : h.objs.size ≤ h'.objs.size) (hf : ∀ a ∈ foot new, h.objs.size ≤ a ∧ a < h'.objs.size) :
    Reach [] ρ h (ρ ++ new) h' :=
  ⟨⟨new, rfl, fun a ha => (hf a ha).1⟩, fun a ob e ha => keep a ob e fun hm => ha (by simpa using foot_mem_of_get hp a hm), sz⟩
end
end Mine
end

section
open PySem PySem.W PyProof.Rows PyProof.V PySem.Spec PySem.SeqAt Builtin
set_option linter.unusedVariables false
set_option maxRecDepth 100000
namespace Mine

/-- what the maker needs -/
structure Lm (c : Cx) (L : Law) (c0 : Addr) : Prop where
  hd : CodeHd c.hb c0 L.tb
  bm : c.hb.BuiltinsAt c.mg L.tb
  gtb : mainGlobals ≠ L.tb

theorem triples (N : Nat → Nst) : ∀ (as : List Addr) (i : Nat), TriplesOk (tabVals N i as)
  | [], _ => trivial
  | _ :: as, i => triples N as (i + 1)
theorem tabVals_snoc (N : Nat → Nst) (a : Addr) : ∀ (as : List Addr) (i : Nat), tabVals N i (as ++ [a]) = tabVals N i as ++ [rawInt (N (i + as.length)).pos.line, rawInt (N (i + as.length)).pos.col, .ref a]
  | [], i => rfl
  | b :: as, i => by
    show _ :: _ :: _ :: tabVals N (i + 1) (as ++ [a]) = _
    rw [tabVals_snoc N a as (i + 1), show i + 1 + as.length = i + (as.length + 1) by omega]; rfl
theorem PA.length {ρ : List Pl} : ∀ {cs : List Nat} {as : List Addr}, PA ρ cs as → cs.length = as.length
  | [], [], _ => rfl
  | _ :: _, _ :: _, h => congrArg (· + 1) (PA.length h.2)
theorem PA.snoc {ρ : List Pl} {x : Nat} {p : Pl} (hp : ρ[x]? = some p) : ∀ {cs : List Nat} {as : List Addr}, PA ρ cs as → PA ρ (cs ++ [x]) (as ++ [p.a])
  | [], [], _ => ⟨⟨p, hp, rfl⟩, trivial⟩
  | _ :: _, _ :: _, h => ⟨h.1, PA.snoc hp h.2⟩
theorem PA.mono {ρ : List Pl} (new : List Pl) {cs : List Nat} {as : List Addr} (h : PA ρ cs as) : PA (ρ ++ new) cs as := by
  have := h.ren (f := fun i => i) (ρ' := ρ ++ new) fun i _ p hp => getElem?_mono hp
  simpa using this
theorem PA.get {ρ : List Pl} : ∀ {cs : List Nat} {as : List Addr} {j i : Nat}, PA ρ cs as → cs[j]? = some i → ∃ p, ρ[i]? = some p ∧ as[j]? = some p.a
  | x :: xs, y :: ys, 0, i, h, e => by
    obtain ⟨⟨p, h2, h3⟩, h4⟩ := h
    simp at e; subst e; subst h3; exact ⟨p, h2, rfl⟩
  | x :: xs, y :: ys, j + 1, i, h, e => by
    simp at e; simpa using PA.get h.2 e

section
variable {c : Cx} {n : Nat} {fd : FD} {σ σ' σ₁ σ₂ σ₃ : S} {X : List Addr} {A : Around} {ρ : List Pl} {s : Shared} {os os' os₁ : List AO} {L : Law} {E : Value → Shared → Prop} {v v' : AV}

theorem Rel.tab (H : Lc c L) {h : Heap} {t : Nat} {cs : List Nat} (r : Rel c X os ρ h) (ho : os[t]? = some (.x (.tab cs))) :
    ∃ p as, ρ[t]? = some p ∧ p.a = L.tb ∧ p.more = [] ∧ PA ρ cs as ∧ h.get? L.tb = some (tabObj (tabVals L.N 0 as).toArray) := by
  obtain ⟨p, hp, hx⟩ := r.objs.get ho
  have hx : XRof L (.tab cs) ρ p h := H.xr ▸ hx
  obtain ⟨as, h1, h2, h3, h4⟩ := hx
  exact ⟨p, as, hp, h1, h2, h3, h4⟩

/-- a def made for the first time -/
theorem mk_new (H : Lc c L) {c0 : Addr} (M : Lm c L c0) {env : Env} {t : Nat} {cs : List Nat} {cl : List (Str × Nat)} {clos : List (Str × Addr)} {body : List Stmt} {fl : Nat} {Q : Value → Shared → Prop} (r : Rel c X os ρ s.heap) (ht : os[t]? = some (.x (.tab cs))) (hbody : (L.N cs.length).body = .stmts body)
    (hcl : closureFor (L.N cs.length).scope env = Pure.pure clos) (hCL : CL ρ cl clos) (hge : env.globals = mainGlobals) (hcode : env.code = .ref c0) (hnf : ∀ as : List Addr, as.length = cs.length → codeAmong (L.N cs.length).pos (tabVals L.N 0 as) = Option.none)
    (hQ : ∀ x h' tk ρ', Reach [] ρ s.heap ρ' h' → Rel c X (os.set t (.x (.tab (cs ++ [os.length]))) ++ [.x (.code cs.length), .x (.fn cs.length cl os.length Option.none)]) ρ' h' → VR ρ' (.ref (os.length + 1)) x → Q x { s with heap := h', toks := tk }) :
    wpAny c.M A (makeFunction (L.N cs.length).name (L.N cs.length).qual (L.N cs.length).params (.stmts body) (L.N cs.length).scope env [] [] [] (L.N cs.length).pos fl) Q E s := by
  obtain ⟨p, as, hp, hpa, hpm, hPA, htb⟩ := r.tab H ht
  have hlen := r.objs.length
  refine makeFunction_K hcl hge (c.g.keeps r.keep) hcode (M.hd.keeps r.keep) htb (by rw [List.toList_toArray]; exact triples _ _ _) (by rw [List.toList_toArray]; exact hnf as hPA.length.symm) M.gtb (M.bm.keeps r.keep) fun c' ctv doc h' tk hx hge' hlt hrec htb' => ?_
  have sz : s.heap.objs.size ≤ h'.objs.size := Nat.le_trans hge' (Nat.le_of_lt hlt)
  have keep : ∀ ob a o', s.heap.get? a = some o' → a ∉ p.a :: p.more → (h'.push ob).get? a = some o' := fun ob a o' e ha => Heap.get?_push_of_some _ (hx a o' (fun e' => ha (by rw [e', hpa]; exact List.mem_cons_self)) e)
  have hf : ∀ ob, ∀ a ∈ foot [⟨c', []⟩, ⟨h'.objs.size, []⟩], s.heap.objs.size ≤ a ∧ a < (h'.push ob).objs.size := fun ob a ha => by
    rw [Heap.size_push]
    rcases List.mem_cons.mp (show a ∈ [c', h'.objs.size] from ha) with rfl | ha
    · exact ⟨hge', Nat.lt_succ_of_lt hlt⟩
    · rcases List.mem_cons.mp ha with rfl | ha
      · exact ⟨sz, Nat.lt_succ_self _⟩
      · cases ha
  have nd : (foot [⟨c', []⟩, ⟨h'.objs.size, []⟩]).Nodup := by
    show [c', h'.objs.size].Nodup
    simp only [List.nodup_cons, List.mem_cons, List.not_mem_nil, or_false, not_false_eq_true, List.nodup_nil, and_true]
    exact Nat.ne_of_lt hlt
  have hc1 : (ρ ++ [⟨c', []⟩, ⟨h'.objs.size, []⟩])[os.length]? = some ⟨c', []⟩ := by rw [hlen]; simp
  have hc2 : (ρ ++ [⟨c', []⟩, ⟨h'.objs.size, []⟩])[os.length + 1]? = some ⟨h'.objs.size, []⟩ := by rw [hlen]; simp
  have szp : ∀ ob, s.heap.objs.size ≤ (h'.push ob).objs.size := fun ob => by rw [Heap.size_push]; exact Nat.le_succ_of_le sz
  refine hQ _ _ tk (ρ ++ [⟨c', []⟩, ⟨h'.objs.size, []⟩]) (Reach.grown hp (keep _) (szp _) (hf _)) (r.grow hp (keep _) (szp _) (hf _) nd ?_ ⟨?_, ?_, trivial⟩) ⟨_, hc2, rfl⟩
  · show c.XR _ _ _ _
    rw [H.xr]
    refine ⟨as ++ [c'], hpa, hpm, PA.snoc (p := ⟨c', []⟩) hc1 (hPA.mono _), ?_⟩
    rw [tabVals_snoc, Nat.zero_add, ← hPA.length]
    refine Heap.get?_push_of_some _ (htb'.trans ?_)
    simp
  · show c.XR _ _ _ _
    rw [H.xr]
    exact ⟨rfl, hrec.push _⟩
  · show c.XR _ _ _ _
    rw [H.xr]
    refine ⟨⟨c', []⟩, doc, (c.mg (Str.ofString "__name__")).getD Value.none, ctv, clos, hc1, ?_, rfl, ?_⟩
    · have := hCL.ren (f := fun i => i) (ρ' := ρ ++ [⟨c', []⟩, ⟨h'.objs.size, []⟩]) fun i _ q hq => getElem?_mono hq
      simpa using this
    · refine (Heap.get?_push_size _ rfl).trans ?_
      unfold fnObj mkF
      rw [hbody]

/-- new objects behind -/
theorem Rel.grow0 {h h' : Heap} {new : List Pl} {nos : List AO} (r : Rel c X os ρ h) (keep : Keeps h h') (sz : h.objs.size ≤ h'.objs.size) (hf : ∀ a ∈ foot new, h.objs.size ≤ a ∧ a < h'.objs.size) (nd : (foot new).Nodup) (ys : ORs c (ρ ++ new) nos new h') : Rel c X (os ++ nos) (ρ ++ new) h' := by
  have kb : Keeps c.hb h' := fun a ob e => keep a ob (r.keep a ob e)
  refine ⟨((r.objs.loc kb fun a _ o e => keep a o e).mono new).append ys, ?_, kb, fun a ha => ?_, fun a ha => ?_⟩
  · rw [foot_append, ← List.append_assoc]
    refine List.nodup_append.mpr ⟨r.nodup, nd, fun a ha b hb e => ?_⟩
    subst e
    exact absurd (r.live a ha) (Nat.not_lt.mpr (hf a hb).1)
  · rw [foot_append, ← List.append_assoc] at ha
    rcases List.mem_append.mp ha with ha | ha
    · exact r.fresh a ha
    · cases e : c.hb.get? a with
      | none => rfl
      | some ob => exact absurd (Heap.lt_size (r.keep _ _ e)) (Nat.not_lt.mpr (hf a ha).1)
  · rw [foot_append, ← List.append_assoc] at ha
    rcases List.mem_append.mp ha with ha | ha
    · exact Nat.lt_of_lt_of_le (r.live a ha) sz
    · exact (hf a ha).2

/-- a def made again -/
theorem mk_hit (H : Lc c L) {c0 : Addr} (M : Lm c L c0) {env : Env} {t j ci : Nat} {cs : List Nat} {cl : List (Str × Nat)} {clos : List (Str × Addr)} {body : List Stmt} {fl : Nat} {Q : Value → Shared → Prop} (r : Rel c X os ρ s.heap) (ht : os[t]? = some (.x (.tab cs))) (hj : cs[j]? = some ci) (hbody : (L.N j).body = .stmts body)
    (hcl : closureFor (L.N j).scope env = Pure.pure clos) (hCL : CL ρ cl clos) (hge : env.globals = mainGlobals) (hcode : env.code = .ref c0) (hhit : ∀ (as : List Addr) a, as[j]? = some a → codeAmong (L.N j).pos (tabVals L.N 0 as) = some (.ref a))
    (hQ : ∀ x h' tk ρ', Reach [] ρ s.heap ρ' h' → Rel c X (os ++ [.x (.fn j cl ci Option.none)]) ρ' h' → VR ρ' (.ref os.length) x → Q x { s with heap := h', toks := tk }) :
    wpAny c.M A (makeFunction (L.N j).name (L.N j).qual (L.N j).params (.stmts body) (L.N j).scope env [] [] [] (L.N j).pos fl) Q E s := by
  obtain ⟨p, as, hp, hpa, hpm, hPA, htb⟩ := r.tab H ht
  obtain ⟨pc, hpc, hac⟩ := hPA.get hj
  have hlen := r.objs.length
  refine makeFunction_hit hcl hge (c.g.keeps r.keep) hcode (M.hd.keeps r.keep) htb (by rw [List.toList_toArray]; exact triples _ _ _) (by rw [List.toList_toArray]; exact hhit as _ hac) (M.bm.keeps r.keep) fun ctv doc h' tk hk sz => ?_
  have keep : ∀ ob, Keeps s.heap (h'.push ob) := fun ob a o' e => Heap.get?_push_of_some _ (hk a o' e)
  have hf : ∀ ob, ∀ a ∈ foot [⟨h'.objs.size, []⟩], s.heap.objs.size ≤ a ∧ a < (h'.push ob).objs.size := fun ob a ha => by
    rw [Heap.size_push]
    rcases List.mem_cons.mp (show a ∈ [h'.objs.size] from ha) with rfl | ha
    · exact ⟨sz, Nat.lt_succ_self _⟩
    · cases ha
  have hc2 : (ρ ++ [⟨h'.objs.size, []⟩])[os.length]? = some ⟨h'.objs.size, []⟩ := by rw [hlen]; simp
  have szp : ∀ ob, s.heap.objs.size ≤ (h'.push ob).objs.size := fun ob => by rw [Heap.size_push]; exact Nat.le_succ_of_le sz
  refine hQ _ _ tk (ρ ++ [⟨h'.objs.size, []⟩]) ⟨⟨_, rfl, fun a ha => (hf (methodObj .none .none) a ha).1⟩, fun a o e _ => keep _ a o e, szp _⟩ (r.grow0 (keep _) (szp _) (hf _) (by simp [foot]) ⟨?_, trivial⟩) ⟨_, hc2, rfl⟩
  show c.XR _ _ _ _
  rw [H.xr]
  refine ⟨pc, doc, (c.mg (Str.ofString "__name__")).getD Value.none, ctv, clos, getElem?_mono hpc, ?_, rfl, ?_⟩
  · have := hCL.ren (f := fun i => i) (ρ' := ρ ++ [⟨h'.objs.size, []⟩]) fun i _ q hq => getElem?_mono hq
    simpa using this
  · refine (Heap.get?_push_size _ rfl).trans ?_
    unfold fnObj mkF
    rw [hbody]
/-- a lambda made for the first time -/
theorem mkL_new (H : Lc c L) {c0 : Addr} (M : Lm c L c0) {env : Env} {t : Nat} {cs : List Nat} {cl : List (Str × Nat)} {clos : List (Str × Addr)} {body : Expr} {fl : Nat} {Q : Value → Shared → Prop} (r : Rel c X os ρ s.heap) (ht : os[t]? = some (.x (.tab cs))) (hbody : (L.N cs.length).body = .expr body)
    (hcl : closureFor (L.N cs.length).scope env = Pure.pure clos) (hCL : CL ρ cl clos) (hge : env.globals = mainGlobals) (hcode : env.code = .ref c0) (hnf : ∀ as : List Addr, as.length = cs.length → codeAmong (L.N cs.length).pos (tabVals L.N 0 as) = Option.none)
    (hQ : ∀ x h' tk ρ', Reach [] ρ s.heap ρ' h' → Rel c X (os.set t (.x (.tab (cs ++ [os.length]))) ++ [.x (.code cs.length), .x (.fn cs.length cl os.length Option.none)]) ρ' h' → VR ρ' (.ref (os.length + 1)) x → Q x { s with heap := h', toks := tk }) :
    wpAny c.M A (makeFunction (L.N cs.length).name (L.N cs.length).qual (L.N cs.length).params (.expr body) (L.N cs.length).scope env [] [] [] (L.N cs.length).pos fl) Q E s := by
  obtain ⟨p, as, hp, hpa, hpm, hPA, htb⟩ := r.tab H ht
  have hlen := r.objs.length
  refine kla_makeFunction hcl hge (c.g.keeps r.keep) hcode (M.hd.keeps r.keep) htb (by rw [List.toList_toArray]; exact triples _ _ _) (by rw [List.toList_toArray]; exact hnf as hPA.length.symm) M.gtb (M.bm.keeps r.keep) fun c' ctv h' tk hx hge' hlt hrec htb' => ?_
  have sz : s.heap.objs.size ≤ h'.objs.size := Nat.le_trans hge' (Nat.le_of_lt hlt)
  have keep : ∀ ob a o', s.heap.get? a = some o' → a ∉ p.a :: p.more → (h'.push ob).get? a = some o' := fun ob a o' e ha => Heap.get?_push_of_some _ (hx a o' (fun e' => ha (by rw [e', hpa]; exact List.mem_cons_self)) e)
  have hf : ∀ ob, ∀ a ∈ foot [⟨c', []⟩, ⟨h'.objs.size, []⟩], s.heap.objs.size ≤ a ∧ a < (h'.push ob).objs.size := fun ob a ha => by
    rw [Heap.size_push]
    rcases List.mem_cons.mp (show a ∈ [c', h'.objs.size] from ha) with rfl | ha
    · exact ⟨hge', Nat.lt_succ_of_lt hlt⟩
    · rcases List.mem_cons.mp ha with rfl | ha
      · exact ⟨sz, Nat.lt_succ_self _⟩
      · cases ha
  have nd : (foot [⟨c', []⟩, ⟨h'.objs.size, []⟩]).Nodup := by
    show [c', h'.objs.size].Nodup
    simp only [List.nodup_cons, List.mem_cons, List.not_mem_nil, or_false, not_false_eq_true, List.nodup_nil, and_true]
    exact Nat.ne_of_lt hlt
  have hc1 : (ρ ++ [⟨c', []⟩, ⟨h'.objs.size, []⟩])[os.length]? = some ⟨c', []⟩ := by rw [hlen]; simp
  have hc2 : (ρ ++ [⟨c', []⟩, ⟨h'.objs.size, []⟩])[os.length + 1]? = some ⟨h'.objs.size, []⟩ := by rw [hlen]; simp
  have szp : ∀ ob, s.heap.objs.size ≤ (h'.push ob).objs.size := fun ob => by rw [Heap.size_push]; exact Nat.le_succ_of_le sz
  refine hQ _ _ tk (ρ ++ [⟨c', []⟩, ⟨h'.objs.size, []⟩]) (Reach.grown hp (keep _) (szp _) (hf _)) (r.grow hp (keep _) (szp _) (hf _) nd ?_ ⟨?_, ?_, trivial⟩) ⟨_, hc2, rfl⟩
  · show c.XR _ _ _ _
    rw [H.xr]
    refine ⟨as ++ [c'], hpa, hpm, PA.snoc (p := ⟨c', []⟩) hc1 (hPA.mono _), ?_⟩
    rw [tabVals_snoc, Nat.zero_add, ← hPA.length]
    refine Heap.get?_push_of_some _ (htb'.trans ?_)
    simp
  · show c.XR _ _ _ _
    rw [H.xr]
    exact ⟨rfl, hrec.push _⟩
  · show c.XR _ _ _ _
    rw [H.xr]
    refine ⟨⟨c', []⟩, .none, (c.mg (Str.ofString "__name__")).getD Value.none, ctv, clos, hc1, ?_, rfl, ?_⟩
    · have := hCL.ren (f := fun i => i) (ρ' := ρ ++ [⟨c', []⟩, ⟨h'.objs.size, []⟩]) fun i _ q hq => getElem?_mono hq
      simpa using this
    · refine (Heap.get?_push_size _ rfl).trans ?_
      unfold fnObj mkF
      rw [hbody]

/-- a lambda made again -/
theorem mkL_hit (H : Lc c L) {c0 : Addr} (M : Lm c L c0) {env : Env} {t j ci : Nat} {cs : List Nat} {cl : List (Str × Nat)} {clos : List (Str × Addr)} {body : Expr} {fl : Nat} {Q : Value → Shared → Prop} (r : Rel c X os ρ s.heap) (ht : os[t]? = some (.x (.tab cs))) (hj : cs[j]? = some ci) (hbody : (L.N j).body = .expr body)
    (hcl : closureFor (L.N j).scope env = Pure.pure clos) (hCL : CL ρ cl clos) (hge : env.globals = mainGlobals) (hcode : env.code = .ref c0) (hhit : ∀ (as : List Addr) a, as[j]? = some a → codeAmong (L.N j).pos (tabVals L.N 0 as) = some (.ref a))
    (hQ : ∀ x h' tk ρ', Reach [] ρ s.heap ρ' h' → Rel c X (os ++ [.x (.fn j cl ci Option.none)]) ρ' h' → VR ρ' (.ref os.length) x → Q x { s with heap := h', toks := tk }) :
    wpAny c.M A (makeFunction (L.N j).name (L.N j).qual (L.N j).params (.expr body) (L.N j).scope env [] [] [] (L.N j).pos fl) Q E s := by
  obtain ⟨p, as, hp, hpa, hpm, hPA, htb⟩ := r.tab H ht
  obtain ⟨pc, hpc, hac⟩ := hPA.get hj
  have hlen := r.objs.length
  refine kla_makeFunctionHit hcl hge (c.g.keeps r.keep) hcode (M.hd.keeps r.keep) htb (by rw [List.toList_toArray]; exact triples _ _ _) (by rw [List.toList_toArray]; exact hhit as _ hac) (M.bm.keeps r.keep) fun ctv h' tk hk sz => ?_
  have keep : ∀ ob, Keeps s.heap (h'.push ob) := fun ob a o' e => Heap.get?_push_of_some _ (hk a o' e)
  have hf : ∀ ob, ∀ a ∈ foot [⟨h'.objs.size, []⟩], s.heap.objs.size ≤ a ∧ a < (h'.push ob).objs.size := fun ob a ha => by
    rw [Heap.size_push]
    rcases List.mem_cons.mp (show a ∈ [h'.objs.size] from ha) with rfl | ha
    · exact ⟨sz, Nat.lt_succ_self _⟩
    · cases ha
  have hc2 : (ρ ++ [⟨h'.objs.size, []⟩])[os.length]? = some ⟨h'.objs.size, []⟩ := by rw [hlen]; simp
  have szp : ∀ ob, s.heap.objs.size ≤ (h'.push ob).objs.size := fun ob => by rw [Heap.size_push]; exact Nat.le_succ_of_le sz
  refine hQ _ _ tk (ρ ++ [⟨h'.objs.size, []⟩]) ⟨⟨_, rfl, fun a ha => (hf (methodObj .none .none) a ha).1⟩, fun a o e _ => keep _ a o e, szp _⟩ (r.grow0 (keep _) (szp _) (hf _) (by simp [foot]) ⟨?_, trivial⟩) ⟨_, hc2, rfl⟩
  show c.XR _ _ _ _
  rw [H.xr]
  refine ⟨pc, .none, (c.mg (Str.ofString "__name__")).getD Value.none, ctv, clos, getElem?_mono hpc, ?_, rfl, ?_⟩
  · have := hCL.ren (f := fun i => i) (ρ' := ρ ++ [⟨h'.objs.size, []⟩]) fun i _ q hq => getElem?_mono hq
    simpa using this
  · refine (Heap.get?_push_size _ rfl).trans ?_
    unfold fnObj mkF
    rw [hbody]
end
end Mine
end

section
open PySem PySem.W PyProof.Rows PyProof.V PySem.Spec PySem.SeqAt Builtin
set_option linter.unusedVariables false
set_option maxRecDepth 100000
namespace Mine

/-- the closure of a nested block, by the frame's cells -/
noncomputable def Clo (fd : FD) (scope : Scope) (cl : List (Str × Nat)) : Prop :=
  (∀ q ∈ cl, fd.cells.lookup q.1 = some q.2) ∧ ∀ (env : Env) (f : Str → Addr), (∀ q ∈ cl, env.cells.lookup q.1 = some (f q.1)) → closureFor scope env = Pure.pure (cl.map fun q => (q.1, f q.1))

section
variable {c : Cx} {n : Nat} {fd : FD} {σ σ' σ₁ σ₂ σ₃ : S} {X : List Addr} {A : Around} {ρ : List Pl} {s : Shared} {os os' os₁ : List AO} {L : Law} {E : Value → Shared → Prop} {v v' : AV}

theorem Clo.run {scope : Scope} {cl : List (Str × Nat)} {env : Env} {h : Heap} {vs : List (Str × AV)} (k : Clo fd scope cl) (f : Fre fd vs env ρ h) : ∃ clos, closureFor scope env = Pure.pure clos ∧ CL ρ cl clos := by
  have key : ∀ q ∈ cl, ∃ p, ρ[q.2]? = some p ∧ env.cells.lookup q.1 = some p.a := fun q hq => f.cells q.1 q.2 (k.1 q hq)
  let g : Str → Addr := fun x => (env.cells.lookup x).getD 0
  have hg : ∀ q ∈ cl, env.cells.lookup q.1 = some (g q.1) := fun q hq => by
    obtain ⟨p, _, hp⟩ := key q hq
    show _ = some ((env.cells.lookup q.1).getD 0)
    rw [hp]; rfl
  refine ⟨_, k.2 env g hg, ?_⟩
  have : ∀ l : List (Str × Nat), (∀ q ∈ l, ∃ p, ρ[q.2]? = some p ∧ env.cells.lookup q.1 = some p.a) → CL ρ l (l.map fun q => (q.1, g q.1)) := by
    intro l
    induction l with
    | nil => intro _; trivial
    | cons q l ih =>
      intro hl
      obtain ⟨p, h1, h2⟩ := hl q List.mem_cons_self
      refine ⟨rfl, ⟨p, h1, ?_⟩, ih fun q hq => hl q (List.mem_cons_of_mem _ hq)⟩
      show (env.cells.lookup q.1).getD 0 = p.a
      rw [h2]; rfl
  exact this cl key

theorem Ex.defNew (H : Lc c L) {c0 : Addr} (M : Lm c L c0) {name q : Str} {params : Arguments} {body : List Stmt} {scope : Scope} {pos : Pos} {t : Nat} {cs : List Nat} {cl : List (Str × Nat)} (hcq : fd.cq = some (.ref c0, q)) (hN : L.N cs.length = ⟨name, q ++ name, params, .stmts body, scope, pos⟩)
    (ht : σ.os[t]? = some (.x (.tab cs))) (hk : Clo fd scope cl) (hnf : ∀ as : List Addr, as.length = cs.length → codeAmong pos (tabVals L.N 0 as) = Option.none) (hge : fd.scope.names.lookup name ≠ some .globalExplicit) (hd0 : params.defaults = []) (hk0 : params.kw_defaults = []) (ha : ∀ env, annTrees params none env = [])
    (hs : Sto fd name (.ref (σ.os.length + 1)) ⟨σ.vs, σ.os.set t (.x (.tab (cs ++ [σ.os.length]))) ++ [.x (.code cs.length), .x (.fn cs.length cl σ.os.length Option.none)]⟩ σ₁) (hkd : fd.scope.kind = .function := by rfl) :
    Ex c n fd (.FunctionDef name params body [] none [] scope none name pos) σ .next σ₁ := fun env A ρ s rm ii Q E hq => by
  obtain ⟨clos, hc1, hc2⟩ := hk.run ii.fre
  obtain ⟨e1, e2⟩ := ii.fre.cq _ hcq
  refine nestDef_K hd0 hk0 (ha env) ?_
  have hqn : qualnameIn env name name = q ++ name := by
    unfold qualnameIn
    rw [if_neg (by rw [ii.fre.kindOf]; intro e; exact hge (eq_of_beq e)), e2]
  rw [hqn]
  have := mk_new (s := s) (A := A) (fl := pos.line) (E := E) H M (env := env) (cl := cl) (clos := clos) (body := body) ii.rel ht (by rw [hN]) (by rw [hN]; exact hc1) hc2 ii.fre.glob e1 (by rw [hN]; exact hnf)
    (Q := fun v s' => wpAny c.M A (storeName env name v) (fun _ s'' => Q .next s'') E s') fun x h' tk ρ' q' r' hx => ?_
  · rw [hN] at this; exact this
  · have i' : In c fd ⟨σ.vs, _⟩ env ρ' h' := ii.lift q' r'.none
    exact hs.run (s := { s with heap := h', toks := tk }) i' hx hkd _ _ fun _ h₂ tk₂ ρ₂ q₂ i₂ => hq _ h₂ tk₂ ρ₂ ((q'.more (by simp)).trans q₂) ⟨i₂, rfl⟩

theorem Ex.defHit (H : Lc c L) {c0 : Addr} (M : Lm c L c0) {name q : Str} {params : Arguments} {body : List Stmt} {scope : Scope} {pos : Pos} {t j ci : Nat} {cs : List Nat} {cl : List (Str × Nat)} (hcq : fd.cq = some (.ref c0, q)) (hN : L.N j = ⟨name, q ++ name, params, .stmts body, scope, pos⟩)
    (ht : σ.os[t]? = some (.x (.tab cs))) (hj : cs[j]? = some ci) (hk : Clo fd scope cl) (hhit : ∀ (as : List Addr) a, as[j]? = some a → codeAmong pos (tabVals L.N 0 as) = some (.ref a)) (hge : fd.scope.names.lookup name ≠ some .globalExplicit) (hd0 : params.defaults = []) (hk0 : params.kw_defaults = []) (ha : ∀ env, annTrees params none env = [])
    (hs : Sto fd name (.ref σ.os.length) ⟨σ.vs, σ.os ++ [.x (.fn j cl ci Option.none)]⟩ σ₁) (hkd : fd.scope.kind = .function := by rfl) :
    Ex c n fd (.FunctionDef name params body [] none [] scope none name pos) σ .next σ₁ := fun env A ρ s rm ii Q E hq => by
  obtain ⟨clos, hc1, hc2⟩ := hk.run ii.fre
  obtain ⟨e1, e2⟩ := ii.fre.cq _ hcq
  refine nestDef_K hd0 hk0 (ha env) ?_
  have hqn : qualnameIn env name name = q ++ name := by
    unfold qualnameIn
    rw [if_neg (by rw [ii.fre.kindOf]; intro e; exact hge (eq_of_beq e)), e2]
  rw [hqn]
  have := mk_hit (s := s) (A := A) (fl := pos.line) (E := E) H M (env := env) (cl := cl) (clos := clos) (body := body) (j := j) ii.rel ht hj (by rw [hN]) (by rw [hN]; exact hc1) hc2 ii.fre.glob e1 (by rw [hN]; exact hhit)
    (Q := fun v s' => wpAny c.M A (storeName env name v) (fun _ s'' => Q .next s'') E s') fun x h' tk ρ' q' r' hx => ?_
  · rw [hN] at this; exact this
  · have i' : In c fd ⟨σ.vs, _⟩ env ρ' h' := ii.lift q' r'.none
    exact hs.run (s := { s with heap := h', toks := tk }) i' hx hkd _ _ fun _ h₂ tk₂ ρ₂ q₂ i₂ => hq _ h₂ tk₂ ρ₂ ((q'.more (by simp)).trans q₂) ⟨i₂, rfl⟩

theorem Ev.lamNew (H : Lc c L) {c0 : Addr} (M : Lm c L c0) {q : Str} {params : Arguments} {body : Expr} {scope : Scope} {pos : Pos} {t : Nat} {cs : List Nat} {cl : List (Str × Nat)} (hcq : fd.cq = some (.ref c0, q)) (hN : L.N cs.length = ⟨"<lambda>", q ++ "<lambda>", params, .expr body, scope, pos⟩)
    (ht : σ.os[t]? = some (.x (.tab cs))) (hk : Clo fd scope cl) (hnf : ∀ as : List Addr, as.length = cs.length → codeAmong pos (tabVals L.N 0 as) = Option.none) (hdef : ∀ env, defaultsOf params env = ([], [])) :
    Ev c n fd (.Lambda params body scope pos) σ (.ref (σ.os.length + 1)) ⟨σ.vs, σ.os.set t (.x (.tab (cs ++ [σ.os.length]))) ++ [.x (.code cs.length), .x (.fn cs.length cl σ.os.length Option.none)]⟩ := fun env A ρ s rm ii Q E hq => by
  obtain ⟨clos, hc1, hc2⟩ := hk.run ii.fre
  obtain ⟨e1, e2⟩ := ii.fre.cq _ hcq
  refine kla_eval (hdef env) ?_
  rw [e2]
  have := mkL_new (s := s) (A := A) (fl := pos.line) (E := E) H M (env := env) (cl := cl) (clos := clos) (body := body) ii.rel ht (by rw [hN]) (by rw [hN]; exact hc1) hc2 ii.fre.glob e1 (by rw [hN]; exact hnf)
    (Q := Q) fun x h' tk ρ' q' r' hx => hq x h' tk ρ' (q'.more (by simp)) ⟨ii.lift q' r'.none, hx⟩
  rw [hN] at this; exact this
theorem Ev.lamHit (H : Lc c L) {c0 : Addr} (M : Lm c L c0) {q : Str} {params : Arguments} {body : Expr} {scope : Scope} {pos : Pos} {t j ci : Nat} {cs : List Nat} {cl : List (Str × Nat)} (hcq : fd.cq = some (.ref c0, q)) (hN : L.N j = ⟨"<lambda>", q ++ "<lambda>", params, .expr body, scope, pos⟩)
    (ht : σ.os[t]? = some (.x (.tab cs))) (hj : cs[j]? = some ci) (hk : Clo fd scope cl) (hhit : ∀ (as : List Addr) a, as[j]? = some a → codeAmong pos (tabVals L.N 0 as) = some (.ref a)) (hdef : ∀ env, defaultsOf params env = ([], [])) :
    Ev c n fd (.Lambda params body scope pos) σ (.ref σ.os.length) ⟨σ.vs, σ.os ++ [.x (.fn j cl ci Option.none)]⟩ := fun env A ρ s rm ii Q E hq => by
  obtain ⟨clos, hc1, hc2⟩ := hk.run ii.fre
  obtain ⟨e1, e2⟩ := ii.fre.cq _ hcq
  refine kla_eval (hdef env) ?_
  rw [e2]
  have := mkL_hit (s := s) (A := A) (fl := pos.line) (E := E) H M (env := env) (cl := cl) (clos := clos) (body := body) (j := j) ii.rel ht hj (by rw [hN]) (by rw [hN]; exact hc1) hc2 ii.fre.glob e1 (by rw [hN]; exact hhit)
    (Q := Q) fun x h' tk ρ' q' r' hx => hq x h' tk ρ' (q'.more (by simp)) ⟨ii.lift q' r'.none, hx⟩
  rw [hN] at this; exact this
end
end Mine
end

section
open PySem PySem.W PyProof.Rows PyProof.V PySem.Spec PySem.SeqAt Builtin
set_option linter.unusedVariables false
set_option maxRecDepth 100000
namespace Mine

section
variable {c : Cx} {n : Nat} {fd : FD} {σ σ' σ₁ σ₂ σ₃ : S} {X : List Addr} {A : Around} {ρ : List Pl} {s : Shared} {os os' os₁ : List AO} {L : Law} {E : Value → Shared → Prop} {v v' : AV}

theorem CodeR.of_cells {a : Addr} {d : FuncData} {body : List Stmt} {ps cn : List Str} {args : List AV} (D : DefAt c a d body) (hclo : d.closure = [])
    (hcs : ∀ b, cellsFrom b d.scope.names [] = (cellIx cn b).reverse) (hnd : cn.Nodup) (hbind : ∀ xs : List Value, xs.length = args.length → bindArgs d ⟨xs, []⟩ = Pure.pure (ps.zip xs))
    (hps : ∀ x ∈ ps, d.scope.names.lookup x = some .local ∨ (d.scope.names.lookup x = some .cell ∧ x ∈ cn)) (hcn : ∀ x ∈ cn, d.scope.names.lookup x = some .cell)
    (h : Exs c n ⟨d.scope, cellIx cn os.length, some (d.code, d.qualname ++ ".<locals>.")⟩ body ⟨locOf d.scope (ps.zip args), os ++ cellObjs cn (ps.zip args)⟩ (.ret v) σ') (hb : Back os v σ'.os v' os') : CodeR c (n + 1) (.ref a) args os v' os' := fun A ρ s xs R rm r hx hq => by
  obtain ⟨o, ho, hd⟩ := D.there
  refine codeAny_size ?_
  have hlen := hx.length
  have hcell : ∀ (b : Nat) (x : Str), x ∈ cn → ∃ j, cn[j]? = some x ∧ ((cellsFrom b d.scope.names []).lookup x) = some (b + j) := fun b x hx => by
    obtain ⟨j, hj, e⟩ := List.getElem_of_mem hx
    have hj' : cn[j]? = some x := by rw [List.getElem?_eq_getElem hj, e]
    refine ⟨j, hj', ?_⟩
    rw [hcs]
    refine lookup_of_mem ?_ (List.mem_reverse.mpr (cellIx_mem cn b j x hj'))
    rw [List.map_reverse, cellIx_names]; exact (List.reverse_perm cn).nodup_iff.mpr hnd
  refine codeAny_call_cells (binds := ps.zip xs) rm.lt (r.keep _ _ ho) hd (c.nolimit.keeps r.keep) (D.code.keeps r.keep) D.body (hbind xs hlen.symm) hclo (fun x hx' => ?_) (fun s₁ ic => ?_) D.co D.gen D.kind
  · rcases hps x.1 (List.of_mem_zip (a := x.1) (b := x.2) hx').1 with h1 | ⟨h1, h2⟩
    · exact .inl h1
    · obtain ⟨j, _, e⟩ := hcell (s.heap.objs.size + 1) x.1 h2
      exact .inr ⟨h1, by rw [e]; rfl⟩
  obtain ⟨h₀, tk₀, rfl⟩ := ic.toInCall.same
  have hk' := ic.toInCall.keep
  have hns := ic.toInCall.ns
  dsimp only at hk' hns
  have hL : ∀ a o, s.heap.get? a = some o → a < s.heap.objs.size := fun a o e => Heap.lt_size e
  have fresh : ∀ a, s.heap.objs.size ≤ a → c.hb.get? a = Option.none := fun a ha => by
    cases e : c.hb.get? a with
    | none => rfl
    | some o => exact absurd (hL _ _ (r.keep _ _ e)) (Nat.not_lt.mpr ha)
  have cellAt : ∀ j x, cn[j]? = some x → h₀.IsCell (s.heap.objs.size + 1 + j) ((ps.zip xs).reverse.lookup x) := fun j x hj => by
    obtain ⟨j', hj', e⟩ := hcell (s.heap.objs.size + 1) x (List.mem_of_getElem? hj)
    have hjj : j' = j := by
      have h1 := (List.getElem?_eq_some_iff.mp hj')
      have h2 := (List.getElem?_eq_some_iff.mp hj)
      obtain ⟨l1, e1⟩ := h1
      obtain ⟨l2, e2⟩ := h2
      rw [← hnd.idxOf_getElem j' l1, ← hnd.idxOf_getElem j l2, e1, e2]
    subst hjj
    have := ic.cell x _ e
    rw [bindC_eq] at this
    have hkx : (callEnvC d s.heap.objs.size a).kindOf x = some .cell := hcn x (List.mem_of_getElem? hj)
    rw [hkx, if_neg (by intro e; cases e)] at this
    simpa using this
  have hLs : s.heap.objs.size < h₀.objs.size := hns.lt
  have hpl : ∀ a ∈ foot (cellPl cn (s.heap.objs.size + 1)), s.heap.objs.size < a ∧ a < h₀.objs.size := fun a ha => by
    obtain ⟨i, p, hp, hap⟩ := foot_get ha
    have hi : i < cn.length := by have := (List.getElem?_eq_some_iff.mp hp).1; rw [cellPl_length] at this; exact this
    rw [cellPl_get cn _ i _ (List.getElem?_eq_getElem hi)] at hp
    cases hp
    rcases List.mem_cons.mp hap with rfl | hap
    · obtain ⟨o', ho', _⟩ := cellAt i _ (List.getElem?_eq_getElem hi)
      exact ⟨by show s.heap.objs.size < s.heap.objs.size + 1 + i; omega, Heap.lt_size ho'⟩
    · cases hap
  have hkv : KV ρ (ps.zip args).reverse (ps.zip xs).reverse := KV.reverse (KV.zip hx)
  have r0 : Rel c [s.heap.objs.size] (os ++ cellObjs cn (ps.zip args)) (ρ ++ cellPl cn (s.heap.objs.size + 1)) h₀ := by
    have kb : Keeps c.hb h₀ := fun b o e => hk' b o (r.keep b o e)
    refine ⟨?_, ?_, kb, fun a ha => ?_, fun a ha => ?_⟩
    · refine ((r.objs.loc kb fun a _ o e => hk' a o e).mono _).append (ORs.of_get (by simp [cellObjs, cellPl_length]) fun i o p h1 h2 => ?_)
      have hi : i < cn.length := by have := (List.getElem?_eq_some_iff.mp h2).1; rw [cellPl_length] at this; exact this
      rw [cellPl_get cn _ i _ (List.getElem?_eq_getElem hi)] at h2
      cases h2
      unfold cellObjs at h1
      rw [List.getElem?_map, List.getElem?_eq_getElem hi] at h1
      cases h1
      exact ⟨rfl, _, (hkv.lookupO).mono _, cellAt i _ (List.getElem?_eq_getElem hi)⟩
    · rw [foot_append]
      show (s.heap.objs.size :: (foot ρ ++ foot (cellPl cn (s.heap.objs.size + 1)))).Nodup
      refine List.nodup_cons.mpr ⟨fun hm => ?_, List.nodup_append.mpr ⟨by simpa using r.nodup, foot_cellPl_nodup _ _, fun a ha b hb e => ?_⟩⟩
      · rcases List.mem_append.mp hm with hm | hm
        · exact absurd (r.live _ (by simpa using hm)) (Nat.lt_irrefl _)
        · exact absurd (hpl _ hm).1 (Nat.lt_irrefl _)
      · subst e
        exact absurd (Nat.lt_trans (r.live a (by simpa using ha)) (hpl a hb).1) (Nat.lt_irrefl _)
    · rw [foot_append] at ha
      replace ha : a ∈ s.heap.objs.size :: (foot ρ ++ foot (cellPl cn (s.heap.objs.size + 1))) := ha
      rcases List.mem_cons.mp ha with rfl | ha
      · exact fresh _ (Nat.le_refl _)
      · rcases List.mem_append.mp ha with ha | ha
        · exact r.fresh a (by simpa using ha)
        · exact fresh _ (Nat.le_of_lt (hpl a ha).1)
    · rw [foot_append] at ha
      replace ha : a ∈ s.heap.objs.size :: (foot ρ ++ foot (cellPl cn (s.heap.objs.size + 1))) := ha
      rcases List.mem_cons.mp ha with rfl | ha
      · exact hLs
      · rcases List.mem_append.mp ha with ha | ha
        · exact Nat.lt_trans (r.live a (by simpa using ha)) hLs
        · exact (hpl a ha).2
  have i0 : In c ⟨d.scope, cellIx cn os.length, some (d.code, d.qualname ++ ".<locals>.")⟩ ⟨locOf d.scope (ps.zip args), os ++ cellObjs cn (ps.zip args)⟩ (callEnvC d s.heap.objs.size a) (ρ ++ cellPl cn (s.heap.objs.size + 1)) h₀ := by
    refine ⟨r0, rfl, D.glob, D.blt, (fun _ e => by cases e; exact ⟨rfl, rfl⟩), fun x i e => ?_, _, hns, fun x u e => ?_⟩
    · obtain ⟨j, rfl, hj⟩ := cellIx_lookup cn os.length i x e
      refine ⟨⟨s.heap.objs.size + 1 + j, []⟩, ?_, ?_⟩
      · rw [r.objs.length, List.getElem?_append_right (Nat.le_add_right _ _), Nat.add_sub_cancel_left]
        exact cellPl_get cn _ j x hj
      · obtain ⟨j', hj', e'⟩ := hcell (s.heap.objs.size + 1) x (List.mem_of_getElem? hj)
        have hjj : j' = j := by
          obtain ⟨l1, e1⟩ := List.getElem?_eq_some_iff.mp hj'
          obtain ⟨l2, e2⟩ := List.getElem?_eq_some_iff.mp hj
          rw [← hnd.idxOf_getElem j' l1, ← hnd.idxOf_getElem j l2, e1, e2]
        subst hjj
        exact e'
    · obtain ⟨h1, h2⟩ := lookup_filter (f := fun y => d.scope.names.lookup y == some .local) e
      have hkx : (callEnvC d s.heap.objs.size a).kindOf x = some .local := eq_of_beq h1
      obtain ⟨u', h3, h4⟩ := KV.lookup hkv h2
      refine ⟨u', ?_, h4.mono _⟩
      rw [bindL_eq, hkx, if_pos rfl, h3]; rfl
  refine (h (callEnvC d s.heap.objs.size a) _ _ { s with heap := h₀, toks := tk₀ } rm.deeper i0) _ _ fun f h₁ tk₁ ρ₁ q₁ p₁ => ?_
  obtain ⟨i₁, y, rfl, hy⟩ := p₁
  obtain ⟨new, rfl, hnew⟩ := q₁.grow
  have i₁r := i₁.rel.none
  rw [List.append_assoc] at i₁r hy
  have hfoot : ∀ a ∈ foot (cellPl cn (s.heap.objs.size + 1) ++ new), s.heap.objs.size ≤ a := fun a ha => by
    rw [foot_append] at ha
    rcases List.mem_append.mp ha with ha | ha
    · exact Nat.le_of_lt (hpl a ha).1
    · exact Nat.le_trans (Nat.le_of_lt hLs) (hnew a ha)
  obtain ⟨nw, g1, g2, g3⟩ := hb.run (h := s.heap) (X := []) r.objs.length i₁r hy hfoot
  intro sz
  refine hq y h₁ tk₁ (ρ ++ nw) ⟨⟨_, rfl, g3⟩, fun b ob e hb' => ?_, sz⟩ g1 g2
  refine q₁.keep b ob (hk' b ob e) fun hm => ?_
  rw [foot_append] at hm
  replace hm : b ∈ s.heap.objs.size :: (foot ρ ++ foot (cellPl cn (s.heap.objs.size + 1))) := hm
  rcases List.mem_cons.mp hm with rfl | hm
  · exact absurd (hL _ _ e) (Nat.lt_irrefl _)
  · rcases List.mem_append.mp hm with hm | hm
    · exact hb' (by simpa using hm)
    · exact absurd (Nat.lt_trans (hpl b hm).1 (hL _ _ e)) (Nat.lt_irrefl _)

/-- a class called -/
theorem CallR.of_class (H : Lc c L) {fI : Addr} {args : List AV} (hi : findIn c.K (.ref L.C) "__init__" = some (some (.ref fI))) (hf : typeIn c.K (.ref fI) = some (.type "function"))
    (h : CodeR c n (.ref fI) (.ref os.length :: args) (os ++ [.x (.inst [])]) .none os') : CallR c (n + 3) (.ref L.C) args os (.ref os.length) os' := fun A ρ s xs rm r hx => by
  refine Run.wp fun Q E hq => wpAny_call ?_
  obtain ⟨hh, g, d, t, o⟩ := s
  have XK := r.inK
  dsimp only at XK r
  refine make_core (makes_of XK H.mks) (looks_findIn XK hi) (fun self => bind_fn XK self hf) (.inl rfl) ?_
  have keep : Keeps hh ((hh.push emptyDict).push (instObj L.C hh.objs.size)) := fun b o e => Heap.get?_push_of_some _ (Heap.get?_push_of_some _ e)
  have hd0 : ((hh.push emptyDict).push (instObj L.C hh.objs.size)).get? hh.objs.size = some emptyDict := Heap.get?_push_of_some _ (Heap.get?_push_size _ rfl)
  have hx0 : ((hh.push emptyDict).push (instObj L.C hh.objs.size)).get? (hh.objs.size + 1) = some (instObj L.C hh.objs.size) := by
    have := Heap.get?_push_size (h := hh.push emptyDict) (o := instObj L.C hh.objs.size) rfl
    rwa [Heap.size_push] at this
  have hn0 : ((hh.push emptyDict).push (instObj L.C hh.objs.size)).Ns hh.objs.size (fun _ => Option.none) := ⟨_, #[], _, hd0, rfl, fun e he => absurd he (by simp), fun _ => rfl⟩
  have r1 : Rel c [] (os ++ [.x (.inst [])]) (ρ ++ [⟨hh.objs.size + 1, [hh.objs.size]⟩]) ((hh.push emptyDict).push (instObj L.C hh.objs.size)) := by
    refine r.grow0 keep (by simp only [Heap.size_push]; omega) (fun a ha => ?_) ?_ ⟨?_, trivial⟩
    · simp only [Heap.size_push]
      rcases List.mem_cons.mp (show a ∈ [hh.objs.size + 1, hh.objs.size] from ha) with rfl | ha
      · exact ⟨Nat.le_succ _, Nat.lt_succ_self _⟩
      · rcases List.mem_cons.mp ha with rfl | ha
        · exact ⟨Nat.le_refl _, Nat.lt_succ_of_lt (Nat.lt_succ_self _)⟩
        · cases ha
    · show [hh.objs.size + 1, hh.objs.size].Nodup
      simp only [List.nodup_cons, List.mem_cons, List.not_mem_nil, or_false, not_false_eq_true, List.nodup_nil, and_true]
      exact fun e => absurd e (Nat.succ_ne_self _)
    · show c.XR _ _ _ _
      rw [H.xr]
      exact ⟨hh.objs.size, _, rfl, ⟨hx0, Heap.Ns1.of_empty hn0⟩, fun _ => trivial, fun _ h => nomatch h⟩
  have hv : VR (ρ ++ [⟨hh.objs.size + 1, [hh.objs.size]⟩]) (.ref os.length) (.ref (hh.objs.size + 1)) := ⟨⟨hh.objs.size + 1, [hh.objs.size]⟩, by rw [r.objs.length]; simp, rfl⟩
  refine h (A.under _) _ _ (.ref (hh.objs.size + 1) :: xs) _ ⟨rm.handled, ?_, ?_⟩ r1 ⟨hv, hx.mono _⟩ fun y h' tk' ρ' q r' hy => ?_
  · have := rm.depth
    have hw : (Code.builtin "type.__call__" ⟨.ref L.C :: xs, []⟩).weight ≤ 2 := by first | exact Nat.le_of_ble_eq_true rfl | decide +kernel
    show A.depth + (Code.builtin "type.__call__" ⟨.ref L.C :: xs, []⟩).weight + n < _; omega
  · have := rm.units
    have hc : (Code.builtin "type.__call__" ⟨.ref L.C :: xs, []⟩).cUnits ≤ 20 := by first | exact Nat.le_of_ble_eq_true rfl | decide +kernel
    show A.units + (Code.builtin "type.__call__" ⟨.ref L.C :: xs, []⟩).cUnits + 20 * n + 100 < _; omega
  · cases hy
    refine ⟨rfl, ?_⟩
    obtain ⟨new, rfl, hnew⟩ := q.grow
    refine hq _ h' tk' _ fun sz => ⟨⟨⟨[⟨hh.objs.size + 1, [hh.objs.size]⟩] ++ new, by rw [List.append_assoc], fun a ha => ?_⟩, fun b o e hb => ?_, sz⟩, r', hv.mono _⟩
    · rw [foot_append] at ha
      rcases List.mem_append.mp ha with ha | ha
      · rcases List.mem_cons.mp (show a ∈ [hh.objs.size + 1, hh.objs.size] from ha) with rfl | ha
        · exact Nat.le_succ _
        · rcases List.mem_cons.mp ha with rfl | ha
          · exact Nat.le_refl _
          · cases ha
      · refine Nat.le_trans ?_ (hnew a ha)
        simp only [Heap.size_push]; exact Nat.le_succ_of_le (Nat.le_succ _)
    · refine q.keep b o (keep b o e) fun hm => ?_
      rw [List.nil_append, foot_append] at hm
      rcases List.mem_append.mp hm with hm | hm
      · exact hb (by simpa using hm)
      · have := Heap.lt_size e
        rcases List.mem_cons.mp (show b ∈ [hh.objs.size + 1, hh.objs.size] from hm) with rfl | hm
        · exact absurd this (Nat.not_lt.mpr (Nat.le_succ _))
        · rcases List.mem_cons.mp hm with rfl | hm
          · exact absurd this (Nat.lt_irrefl _)
          · cases hm

/-- an item stored -/
theorem setItem_ll {A : Around} {E : Value → Shared → Prop} {s : Shared} {l : Addr} {items : Array Value} {k : Int} {t : Tok} {v : Value} {Q : Unit → Shared → Prop} (hl : LL s.heap l items) (h0 : 0 ≤ k) (hfit : k < 2 ^ 63) (hn : k < items.size)
    (hQ : ∀ h', LL h' l (items.setIfInBounds k.toNat v) → Heap.SameBut l s.heap h' → Q () { s with heap := h' }) : wpAny c.M A (setItem (.ref l) (.int k t) v) Q E s := by
  obtain ⟨n, ho⟩ := id hl
  have hil := hl.isList
  unfold setItem
  try with_reducible refine wpAny_holding ?_
  first | refine wpAny_bind (wpAny_pure ?_) | skip
  refine wpAny_bind (wpAny_sequenceKey hil.typeIs (by decide) ?_)
  refine wpAny_bind (wpAny_callSpecial?_slot (name := Str.ofString "__setitem__") hil.typeIs slot_list_setitem
    (wpAny_call_entry slot_list_setitem hil.typeIs entry_list_setitem ?_ (args_list_setitem _ _ _)))
  show wpAny _ _ (Builtin.List.listSubscript? (.int k t) >>= _) _ _ s
  refine wpAny_bind (wpAny_listSubscript_int (fitsIndex_of h0 hfit) ?_)
  clear hfit
  obtain ⟨j, rfl⟩ := Int.eq_ofNat_of_zero_le h0
  have hj : j < items.size := by omega
  have hx' : items[j]? = some items[j] := Array.getElem?_eq_getElem hj
  show wpAny _ _ ((seqItemAt l j >>= fun r => pure (r.map (j, ·))) >>= _) _ _ s
  refine wpAny_bind (wpAny_bind (wpAny_seqItemAt ho rfl (wpAny_pure ?_)))
  rw [hx']
  show wpAny _ _ (setSeqItemAt l j v >>= _) _ _ s
  have hfin : LL (s.heap.update l (Obj.mapSeq (·.setIfInBounds j v))) l (items.setIfInBounds j v) := ⟨_, Heap.get?_update_self _ ho rfl⟩
  refine wpAny_bind (wpAny_setSeqItemAt ho rfl ?_)
  first
    | exact wpAny_bind (wpAny_pure (wpAny_pure ⟨.none, rfl, wpAny_pure (hQ _ hfin (Heap.SameBut.update ..))⟩))
    | exact wpAny_pure ⟨.none, rfl, wpAny_pure (hQ _ hfin (Heap.SameBut.update ..))⟩

theorem VRs.set {x : AV} {y : Value} (h : VR ρ x y) : ∀ {j : Nat} {xs : List AV} {vs : List Value}, VRs ρ xs vs → VRs ρ (xs.set j x) (vs.set j y)
  | _, [], [], _ => trivial
  | 0, _ :: _, _ :: _, h' => ⟨h, h'.2⟩
  | _ + 1, _ :: _, _ :: _, h' => ⟨h'.1, VRs.set h h'.2⟩

/-- o[i] = e -/
theorem Ex.setSub {o i value : Expr} {pos' pos : Pos} {k j : Nat} {xs : List AV} {v : AV} (h1 : Ev c n fd value σ v σ₁) (h2 : Ev c n fd o σ₁ (.ref k) σ₂) (h3 : Ev c n fd i σ₂ (.int (j : Int)) σ₃) (ho : σ₃.os[k]? = some (.list xs)) (hj : j < xs.length) (hf : j < 2 ^ 63)
    (hs : ∀ env, swapsWith value (some (.Subscript o i pos')) pos.line env = Pure.pure false) (hi : ∀ w x y : Value, (match i with | .Slice _ _ none _ => [w, x, y] | _ => [x, y, w]) = [x, y, w]) :
    Ex c n fd (.Assign [.Subscript o i pos'] value pos) σ .next ⟨σ₃.vs, σ₃.os.set k (.list (xs.set j v))⟩ := fun env A ρ s rm ii => by
  rw [exec_Assign_Subscript o i pos' value pos (hs env)]
  refine Run.stand (Run.bind (h1 env A ρ s rm ii) fun x h₁ tk₁ ρ₁ q₁ p₁ => ?_)
  refine Run.bind (P := fun ρ' h' _ => In c fd ⟨σ₃.vs, σ₃.os.set k (.list (xs.set j v))⟩ env ρ' h') ?_ fun _ h₂ tk₂ ρ₂ q₂ p₂ => Run.pure ⟨p₂, rfl⟩
  rw [assign_Subscript]
  refine Run.bind (Run.holding (h2 env A ρ₁ _ rm p₁.1)) fun y h₂ tk₂ ρ₂ q₂ p₂ => ?_
  refine Run.bind (Run.holding (h3 env A ρ₂ _ rm p₂.1)) fun z h₃ tk₃ ρ₃ q₃ p₃ => Run.stand ?_
  refine Run.bind (P := fun ρ' h' _ => In c fd ⟨σ₃.vs, σ₃.os.set k (.list (xs.set j v))⟩ env ρ' h') (Run.holding ?_) fun _ h₄ tk₄ ρ₄ q₄ p₄ => Run.release p₄
  obtain ⟨i₃, t, rfl⟩ := p₃
  have hv : VR ρ₃ v x := (p₁.2.reach q₂).reach q₃
  obtain ⟨p, vs, hp, hm, rfl, hvs, hl⟩ := i₃.rel.list ho (p₂.2.reach q₃)
  intro Q E hq
  refine setItem_ll (s := { s with heap := h₃, toks := tk₃ }) hl (by omega) (by omega) (by rw [List.size_toArray, ← hvs.length]; omega) fun h' hl' hs' => ?_
  refine hq () h' tk₃ ρ₃ ((Reach.set hp hs').more (by simp)) (i₃.lift (Reach.set hp hs') (i₃.rel.none.setList hp hm (vs := vs.set j x) ?_ hs' (VRs.set hv hvs)))
  simpa using hl'

/-- o.read = e, o a function -/
theorem Ex.setRead (H : Lc c L) {o value : Expr} {pos' pos : Pos} {i j t q : Nat} {cl : List (Str × Nat)} (h1 : Ev c n fd value σ (.ref q) σ₁) (h2 : Ev c n fd o σ₁ (.ref i) σ₂) (ho : σ₂.os[i]? = some (.x (.fn j cl t Option.none)))
    (hs : ∀ env, swapsWith value (some (.Attribute o "read" pos')) pos.line env = Pure.pure false) : Ex c n fd (.Assign [.Attribute o "read" pos'] value pos) σ .next ⟨σ₂.vs, σ₂.os.set i (.x (.fn j cl t (some σ₂.os.length))) ++ [.x (.rdict q)]⟩ := fun env A ρ s rm ii => by
  rw [plainObj_exec_Assign_Attribute o "read" pos' value pos (hs env)]
  refine Run.stand (Run.bind (h1 env A ρ s rm ii) fun x h₁ tk₁ ρ₁ q₁ p₁ => ?_)
  refine Run.bind (P := fun ρ' h' _ => In c fd ⟨σ₂.vs, σ₂.os.set i (.x (.fn j cl t (some σ₂.os.length))) ++ [.x (.rdict q)]⟩ env ρ' h') ?_ fun _ h₂ tk₂ ρ₂ q₂ p₂ => Run.pure ⟨p₂, rfl⟩
  rw [assign_Attribute]
  refine Run.bind (Run.holding (h2 env A ρ₁ _ rm p₁.1)) fun y h₂ tk₂ ρ₂ q₂ p₂ => Run.stand ?_
  refine Run.bind (P := fun ρ' h' _ => In c fd ⟨σ₂.vs, σ₂.os.set i (.x (.fn j cl t (some σ₂.os.length))) ++ [.x (.rdict q)]⟩ env ρ' h') (Run.holding ?_) fun _ h₃ tk₃ ρ₃ q₃ p₃ => Run.release p₃
  obtain ⟨i₂, p, hp, rfl⟩ := p₂
  obtain ⟨pq, hpq, rfl⟩ := p₁.2.reach q₂
  obtain ⟨p', hp', hx⟩ := i₂.rel.objs.get ho
  rw [hp] at hp'; cases hp'
  have hx : XRof L (.fn j cl t Option.none) ρ₂ p h₂ := H.xr ▸ hx
  obtain ⟨pt, doc, pm, ctv, clos, g1, g3, g4, g5⟩ := hx
  have r := i₂.rel.none
  intro Q E hq
  refine fn_set (s := { s with heap := h₂, toks := tk₂ }) g5 fun h' tk hk hf hns hsz => ?_
  have keep : ∀ a ob, h₂.get? a = some ob → a ∉ p.a :: p.more → h'.get? a = some ob := fun a ob e ha => hk a ob (fun e' => ha (by rw [e']; exact List.mem_cons_self)) e
  have sz : h₂.objs.size ≤ h'.objs.size := by rw [show h'.objs.size = h₂.objs.size + 1 from hsz]; exact Nat.le_succ _
  have hfo : ∀ a ∈ foot [⟨h₂.objs.size, []⟩], h₂.objs.size ≤ a ∧ a < h'.objs.size := fun a ha => by
    rcases List.mem_cons.mp (show a ∈ [h₂.objs.size] from ha) with rfl | ha
    · exact ⟨Nat.le_refl _, by rw [show h'.objs.size = h₂.objs.size + 1 from hsz]; exact Nat.lt_succ_self _⟩
    · cases ha
  have hlen := r.objs.length
  have hnew : (ρ₂ ++ [⟨h₂.objs.size, []⟩])[σ₂.os.length]? = some ⟨h₂.objs.size, []⟩ := by rw [hlen]; simp
  have q' : Reach [] ρ₂ h₂ (ρ₂ ++ [⟨h₂.objs.size, []⟩]) h' := Reach.grown hp keep sz hfo
  refine hq () h' tk _ (q'.more (by simp)) (i₂.lift q' (r.grow hp keep sz hfo (by simp [foot]) ?_ ⟨?_, trivial⟩))
  · show c.XR _ _ _ _
    rw [H.xr]
    refine ⟨pt, doc, pm, ctv, clos, getElem?_mono g1, ?_, ⟨h₂.objs.size, []⟩, g4, hnew, hf⟩
    have := g3.ren (f := fun i => i) (ρ' := ρ₂ ++ [⟨h₂.objs.size, []⟩]) fun i _ q hq => getElem?_mono hq
    simpa using this
  · show c.XR _ _ _ _
    rw [H.xr]
    exact ⟨pq, rfl, getElem?_mono hpq, hns⟩

theorem fdiv_i {a b : Int} (hb : b ≠ 0) (hs : b.natAbs < 1073741824) : Op2 c n (binaryOp .FloorDiv) (.int a) (.int b) os (.int (a.fdiv b)) os :=
  Op2.pure fun _ _ _ _ _ _ _ _ hx hy hq => by obtain ⟨t, rfl⟩ := hx; obtain ⟨u, rfl⟩ := hy; exact PyProof.Rows.floordiv_int hb (hq _ _ ⟨_, rfl⟩) (Or.inl (PyProof.noPylong_small hs))
end
end Mine
end

section
open PySem PySem.W PyProof.Rows PyProof.V PySem.Spec PySem.SeqAt Builtin
set_option linter.unusedVariables false
set_option maxRecDepth 100000
namespace Mine

section
variable {c : Cx} {n : Nat} {fd : FD} {σ σ' σ₁ σ₂ σ₃ : S} {X : List Addr} {A : Around} {ρ ρ₁ : List Pl} {s : Shared} {os os' os₁ os₂ : List AO} {L : Law} {E : Value → Shared → Prop} {v v' : AV}

theorem VR.cut {a b : List Pl} {x : AV} {v : Value} (h : VR (a ++ b) x v) (hx : ∀ i ∈ x.refs, i < a.length) : VR a x v :=
  h.ext fun i hi p hp => by rwa [List.getElem?_append_left (hx i hi)] at hp

theorem Reach.cut {b : List Pl} {h h' : Heap} (q : Reach X ρ h (ρ ++ b) h') : Reach X ρ h ρ h' := ⟨⟨[], by simp, by simp [foot]⟩, q.keep, q.size⟩

/-- of what was made, nothing is left -/
theorem In.cut {vs : List (Str × AV)} {os' js : List AO} {env : Env} {ρ new : List Pl} {h : Heap} (i : In c fd ⟨vs, os' ++ js⟩ env (ρ ++ new) h) (hl : os'.length = ρ.length) (hc : ∀ o ∈ os', ∀ i ∈ o.refs, i < ρ.length) (hv : ∀ x v, vs.lookup x = some v → ∀ i ∈ v.refs, i < ρ.length)
    (hcl : ∀ x i, fd.cells.lookup x = some i → i < ρ.length) : In c fd ⟨vs, os'⟩ env ρ h := by
  refine ⟨i.rel.cut hl hc, i.fre.scope, i.fre.glob, i.fre.blt, i.fre.cq, fun x k e => ?_, ?_⟩
  · obtain ⟨p, h1, h2⟩ := i.fre.cells x k e
    exact ⟨p, by rwa [List.getElem?_append_left (hcl x k e)] at h1, h2⟩
  · obtain ⟨m, hn, hm⟩ := i.fre.ns
    refine ⟨m, hn, fun x v e => ?_⟩
    obtain ⟨v', h1, h2⟩ := hm x v e
    exact ⟨v', h1, h2.cut (hv x v e)⟩

theorem In.cellsLt {env : Env} {h : Heap} (i : In c fd σ env ρ h) : ∀ x k, fd.cells.lookup x = some k → k < ρ.length := fun x k e => by
  obtain ⟨p, h1, _⟩ := i.fre.cells x k e
  exact (List.getElem?_eq_some_iff.mp h1).1
noncomputable def AF.refs : AF → List Nat
  | .ret v => v.refs
  | _ => []

theorem Exs.cut {sts : List Stmt} {f : AF} {vs' : List (Str × AV)} {js : List AO} (go : Exs c n fd sts σ f ⟨vs', os' ++ js⟩) (hl : os'.length = σ.os.length) (hc : ∀ o ∈ os', ∀ i ∈ o.refs, i < os'.length) (hv : ∀ q ∈ vs', ∀ i ∈ q.2.refs, i < os'.length) (hf : ∀ i ∈ f.refs, i < os'.length) : Exs c n fd sts σ f ⟨vs', os'⟩ := fun env A ρ s rm i Q E hq => by
  refine go env A ρ s rm i Q E fun x h' tk' ρ' q p => ?_
  obtain ⟨new, rfl, hfr⟩ := q.grow
  have hlen : os'.length = ρ.length := hl.trans i.rel.objs.length
  refine hq x h' tk' ρ q.cut ⟨p.1.cut hlen (fun o ho k hk => hlen ▸ hc o ho k hk) (fun y v e k hk => hlen ▸ hv (y, v) (mem_of_lookup' e) k hk) i.cellsLt, ?_⟩
  have p2 := p.2
  cases f with
  | ret v => obtain ⟨z, rfl, hz⟩ := p2; exact ⟨z, rfl, hz.cut fun k hk => hlen ▸ hf k hk⟩
  | _ => exact p2

/-- objects chosen -/
theorem Rel.sel {h : Heap} {π : List Nat} (r : Rel c X os₁ ρ₁ h) (nd : π.Nodup) (hd : Held (out π os₁.length) os₁ π os₂) (hc : ∀ o ∈ os₂, ∀ i ∈ o.refs, i < os₂.length) : Rel c X os₂ (plc ρ₁ π) h := by
  have hlen := r.objs.length
  have hπl := hd.length
  have hlt : ∀ i ∈ π, i < ρ₁.length := fun i hi => hlen ▸ hd.lt i hi
  have o2i : ∀ j p, ρ₁[out π os₁.length j]? = some p → (plc ρ₁ π)[j]? = some p := fun j p e => by
    unfold out at e
    by_cases hj : j < π.length
    · rw [if_pos hj] at e
      have : π[j]? = some (π.getD j 0) := by rw [List.getD_eq_getElem?_getD, List.getElem?_eq_getElem hj]; rfl
      exact plc_get this e
    · rw [if_neg hj, hlen] at e
      have := (List.getElem?_eq_some_iff.mp e).1
      omega
  let g : Nat → Nat := fun i => π.idxOf i
  have hg : ∀ j, j < π.length → g (out π os₁.length j) = j := fun j hj => by
    show π.idxOf (out π os₁.length j) = j
    unfold out
    rw [if_pos hj, List.getD_eq_getElem?_getD, List.getElem?_eq_getElem hj]
    exact nd.idxOf_getElem j hj
  have nd0 := (List.nodup_append.mp r.nodup)
  refine ⟨ORs.of_get (by rw [plc_length, hπl]) fun j o p h1 h2 => ?_, ?_, r.keep, fun a ha => ?_, fun a ha => ?_⟩
  · obtain ⟨i, h3, h4⟩ := hd.get h1
    obtain ⟨q, h5, h6⟩ := r.objs.get h4
    have h7 := plc_get h3 h5
    rw [h2] at h7; cases h7
    refine h6.unren (g := g) (fun k hk => hg k ?_) fun k hk p hp => o2i k p hp
    have := hc o (List.mem_of_getElem? h1) k hk
    omega
  · refine List.nodup_append.mpr ⟨nd0.1, plc_nodup nd0.2.1 nd hlt, fun a ha b hb e => ?_⟩
    exact nd0.2.2 a ha b (plc_sub hlt hb) e
  · rcases List.mem_append.mp ha with ha | ha
    · exact r.fresh a (List.mem_append_left _ ha)
    · exact r.fresh a (List.mem_append_right _ (plc_sub hlt ha))
  · rcases List.mem_append.mp ha with ha | ha
    · exact r.live a (List.mem_append_left _ ha)
    · exact r.live a (List.mem_append_right _ (plc_sub hlt ha))

theorem plc_append (ρ : List Pl) : ∀ (a b : List Nat), plc ρ (a ++ b) = plc ρ a ++ plc ρ b
  | [], _ => rfl
  | _ :: a, b => congrArg (_ :: ·) (plc_append ρ a b)
theorem plc_range (ρ new : List Pl) : plc (ρ ++ new) (List.range ρ.length) = ρ := by
  apply List.ext_getElem?
  intro i
  by_cases hi : i < ρ.length
  · rw [plc_get (i := i) (by rw [List.getElem?_range hi]) (List.getElem?_append_left hi ▸ List.getElem?_eq_getElem hi), List.getElem?_eq_getElem hi]
  · rw [List.getElem?_eq_none (by rw [plc_length, List.length_range]; omega), List.getElem?_eq_none (by omega)]

noncomputable def AF.ren (r : Nat → Nat) : AF → AF
  | .ret v => .ret (v.ren r)
  | f => f
noncomputable def SubR (r : Nat → Nat) : List (Str × AV) → List (Str × AV) → Prop
  | [], _ => True
  | (x, v) :: t, vs => vs.lookup x = some (v.ren r) ∧ (∀ i ∈ v.refs, True) ∧ SubR r t vs
theorem SubR.lookup {r : Nat → Nat} {vs' : List (Str × AV)} : ∀ {vs : List (Str × AV)}, SubR r vs vs' → ∀ {x : Str} {v : AV}, vs.lookup x = some v → vs'.lookup x = some (v.ren r)
  | [], _, _, _, e => by cases e
  | (y, w) :: t, h, x, v, e => by
    rw [List.lookup_cons] at e
    cases hy : x == y with
    | true => rw [hy] at e; cases e; obtain rfl := eq_of_beq hy; exact h.1
    | false => rw [hy] at e; exact h.2.2.lookup e

theorem VR.unout {π : List Nat} {m : Nat} {x : AV} {v : Value} (hm : m = ρ₁.length) (h : VR ρ₁ (x.ren (out π m)) v) : VR (plc ρ₁ π) x v := by
  refine h.unren fun j p e => ?_
  unfold out at e
  by_cases hj : j < π.length
  · rw [if_pos hj] at e
    have : π[j]? = some (π.getD j 0) := by rw [List.getD_eq_getElem?_getD, List.getElem?_eq_getElem hj]; rfl
    exact plc_get this e
  · rw [if_neg hj, hm] at e
    have := (List.getElem?_eq_some_iff.mp e).1
    omega

theorem Exs.sel {sts : List Stmt} {f f' : AF} {vs' vs'' : List (Str × AV)} (m : Nat) (π' : List Nat) (go : Exs c n fd sts σ f ⟨vs', os₁⟩) (hm : σ.os.length = m) (nd : (List.range m ++ π').Nodup) (hd : Held (Mine.out (List.range m ++ π') os₁.length) os₁ (List.range m ++ π') os₂)
    (hc : ∀ o ∈ os₂, ∀ i ∈ o.refs, i < os₂.length) (hv : SubR (Mine.out (List.range m ++ π') os₁.length) vs'' vs') (hf : f = f'.ren (Mine.out (List.range m ++ π') os₁.length)) : Exs c n fd sts σ f' ⟨vs'', os₂⟩ := fun env A ρ s rm i Q E hq => by
  refine go env A ρ s rm i Q E fun x h' tk' ρ' q p => ?_
  obtain ⟨new, rfl, hfr⟩ := q.grow
  have hlen : m = ρ.length := hm.symm.trans i.rel.objs.length
  have hlen' := p.1.rel.objs.length
  dsimp only at hlen'
  have hpl : plc (ρ ++ new) (List.range m ++ π') = ρ ++ plc (ρ ++ new) π' := by rw [plc_append, hlen, plc_range]
  have hlt : ∀ i ∈ List.range m ++ π', i < (ρ ++ new).length := fun i hi => hlen' ▸ hd.lt i hi
  have r' := p.1.rel.sel nd hd hc
  rw [hpl] at r'
  have q' : Reach [env.locals] ρ s.heap (ρ ++ plc (ρ ++ new) π') h' := by
    refine ⟨⟨_, rfl, fun a ha => ?_⟩, q.keep, q.size⟩
    obtain ⟨j, pp, h1, h2⟩ := foot_get ha
    obtain ⟨k, h3, h4⟩ := plc_get' (fun i hi => hlt i (List.mem_append_right _ hi)) h1
    have hk : ¬ k < ρ.length := fun hk => (List.nodup_append.mp nd).2.2 k (List.mem_range.mpr (hlen ▸ hk)) k (List.mem_of_getElem? h3) rfl
    rw [List.getElem?_append_right (by omega)] at h4
    exact hfr a (foot_mem_of_get h4 a h2)
  refine hq x h' tk' _ q' ⟨⟨r', p.1.fre.scope, p.1.fre.glob, p.1.fre.blt, p.1.fre.cq, fun y k e => ?_, ?_⟩, ?_⟩
  · obtain ⟨pp, h1, h2⟩ := i.fre.cells y k e
    exact ⟨pp, getElem?_mono h1, h2⟩
  · obtain ⟨mm, hn, hmm⟩ := p.1.fre.ns
    refine ⟨mm, hn, fun y v e => ?_⟩
    obtain ⟨v', h1, h2⟩ := hmm y _ (hv.lookup e)
    refine ⟨v', h1, ?_⟩
    rw [← hpl]; exact h2.unout hlen'
  · have p2 := p.2
    subst hf
    cases f' with
    | ret v =>
      obtain ⟨z, rfl, hz⟩ := p2
      refine ⟨z, rfl, ?_⟩
      rw [← hpl]; exact hz.unout hlen'
    | _ => exact p2
end
end Mine
end

section
open PySem PySem.W PyProof.Rows PyProof.V PySem.Spec PySem.SeqAt
set_option linter.unusedVariables false
namespace Mine

section
variable {c : Cx} {n : Nat}
noncomputable def fdivv (a b : AV) (os : List AO) : Option (AV × List AO × Prop) := match a with
  | .int i => (match b with | .int j => some (.int (i.fdiv j), os, j ≠ 0 ∧ j.natAbs < 1073741824) | _ => none)
  | _ => none
noncomputable def isFD : Operator → Bool
  | .FloorDiv => true
  | _ => false
theorem isFD_ok {op : Operator} (h : isFD op = true) : op = .FloorDiv := by
  cases op <;> first | rfl | cases h
noncomputable def autoBin2 (op : Operator) (a b : AV) (os : List AO) : Option (AV × List AO × Prop) := match isFD op with
  | true => fdivv a b os
  | false => autoBin op a b os
theorem autoBin2_ok (op : Operator) (a b : AV) (os : List AO) : OkR (autoBin2 op a b os) (Op2 c n (binaryOp op) a b os) := by
  unfold autoBin2
  cases h : isFD op with
  | false => exact autoBin_ok op a b os
  | true =>
    rw [isFD_ok h]
    cases a with
    | int i => cases b with
      | int j => exact fun hφ => fdiv_i hφ.1 hφ.2
      | _ => exact True.intro
    | _ => exact True.intro

noncomputable def strOf : AV → Option Str
  | .str x => some x
  | _ => none
theorem strOf_ok (a : AV) : OkO (strOf a) fun x => a = .str x := by
  cases a with
  | str x => exact rfl
  | _ => exact True.intro
noncomputable def autoItem2 (a b : AV) (os : List AO) : Option (AV × List AO × Prop) := match strOf a with
  | some x => (toInt b).bind fun i => ((seqIndex? i x.length).bind (x.cps[·]?)).bind fun ch => some (.str ⟨#[ch]⟩, os, (decide (i < -(2 ^ 63 : Int)) || decide (i ≥ 2 ^ 63)) = false)
  | none => autoItem a b os
theorem autoItem2_ok (a b : AV) (os : List AO) : OkR (autoItem2 a b os) (Op2 c n getItem a b os) := by
  unfold autoItem2
  cases h : strOf a with
  | none => exact autoItem_ok a b os
  | some x =>
    obtain rfl := (strOf_ok a).get h
    exact OkR.bind fun i hi => OkR.bind fun ch h1 hφ => (toInt_ok b).get hi ▸ item_s hφ h1

noncomputable def instOf : Option AO → Option (List (Str × AV))
  | none => none
  | some o => match o with
    | .x k => (match k with | .inst m => some m | _ => none)
    | _ => none
theorem instOf_ok {o : Option AO} {m : List (Str × AV)} (h : instOf o = some m) : o = some (.x (.inst m)) := by
  cases o with
  | none => cases h
  | some o => cases o with
    | x k => cases k with
      | inst m => cases h; rfl
      | _ => cases h
    | _ => cases h
noncomputable def rdOf : Option AO → Option Nat
  | none => none
  | some o => match o with
    | .x k => (match k with | .fn _ _ _ t => t | _ => none)
    | _ => none
noncomputable def rdictOf : Option AO → Option Nat
  | none => none
  | some o => match o with
    | .x k => (match k with | .rdict q => some q | _ => none)
    | _ => none
inductive MC where
  | bi (f : Value) | me (f : Addr) | rd (q : Nat)
noncomputable def mcO (Mt : List (Str × Addr)) (a : AV) (name : Str) (os : List AO) (o : Option AO) : Option MC := match instOf o with
  | some m => (match m.lookup name with | none => (Mt.lookup name).map .me | some _ => none)
  | none => (match rdOf o with
    | some e => (rdictOf os[e]?).map .rd
    | none => (autoMth a name os).map .bi)
noncomputable def mcOf (Mt : List (Str × Addr)) (a : AV) (name : Str) (os : List AO) : Option MC := match a with
  | .ref i => mcO Mt a name os os[i]?
  | a => (autoMth a name os).map .bi

noncomputable def attrOf (a : AV) (name : Str) (os : List AO) : Option AV := match a with
  | .ref i => (instOf os[i]?).bind fun m => m.lookup name
  | _ => none

noncomputable def ifv (z : Bool) (a b : AV) : Option AV := match a with
  | .str x => (match b with | .str y => some (.str (bif z then x else y)) | _ => none)
  | .int x => (match b with | .int y => some (.int (bif z then x else y)) | _ => none)
  | _ => none
theorem ifv_ok (z : Bool) (a b : AV) : OkO (ifv z a b) fun v => v = bif z then a else b := by
  cases a with
  | str x => cases b with
    | str y => cases z <;> exact rfl
    | _ => exact True.intro
  | int x => cases b with
    | int y => cases z <;> exact rfl
    | _ => exact True.intro
  | _ => exact True.intro
noncomputable def toBool : AV → Option Bool
  | .bool b => some b
  | _ => none
theorem toBool_ok (a : AV) : OkO (toBool a) fun b => a = .bool b := by
  cases a with
  | bool j => exact rfl
  | _ => exact True.intro
noncomputable def litOf : AV → Option Value
  | .lit f => some f
  | _ => none
theorem litOf_ok (a : AV) : OkO (litOf a) fun f => a = .lit f := by
  cases a with
  | lit f => exact rfl
  | _ => exact True.intro
noncomputable def one {α : Type} (l : List α) : Option α := match l with
  | [] => none
  | a :: l => match l with | [] => some a | _ :: _ => none
theorem one_ok {α : Type} (l : List α) : OkO (one l) fun a => l = [a] := by
  cases l with
  | nil => exact True.intro
  | cons a l => cases l with
    | nil => exact rfl
    | cons b l => exact True.intro
noncomputable def asName : Expr → Option Str
  | .Name x _ => some x
  | _ => none
theorem asName_ok (e : Expr) : OkO (asName e) fun x => ∃ p, e = .Name x p := by
  cases e with
  | Name x p => exact ⟨p, rfl⟩
  | _ => exact True.intro
noncomputable def asCmp : Expr → Option (Expr × CmpOp × Expr)
  | .Compare l ops rs _ => (one ops).bind fun op => (one rs).bind fun r => some (l, op, r)
  | _ => none
theorem OkO.bind {α β : Type} {o : Option α} {f : α → Option β} {P : α → Prop} {Q : β → Prop} (ho : OkO o P) (h : ∀ x, P x → OkO (f x) Q) : OkO (o.bind f) Q := by
  cases o with
  | none => exact True.intro
  | some x => exact h x ho
theorem asCmp_ok (e : Expr) : OkO (asCmp e) fun q => ∃ p, e = .Compare q.1 [q.2.1] [q.2.2] p := by
  cases e with
  | Compare l ops rs p => exact OkO.bind (one_ok ops) fun op h1 => OkO.bind (one_ok rs) fun r h2 => ⟨p, h1 ▸ h2 ▸ rfl⟩
  | _ => exact True.intro
noncomputable def asSlice : Expr → Option (Option Expr × Option Expr × Option Expr)
  | .Slice lo hi step _ => some (lo, hi, step)
  | _ => none
theorem asSlice_ok (e : Expr) : OkO (asSlice e) fun q => ∃ p, e = .Slice q.1 q.2.1 q.2.2 p := by
  cases e with
  | Slice lo hi step p => exact ⟨p, rfl⟩
  | _ => exact True.intro
noncomputable def asInt : Expr → Option Int
  | .Constant co _ _ => (match co with | .int i => some i | _ => none)
  | _ => none
theorem asInt_ok (e : Expr) : OkO (asInt e) fun i => ∃ p q, e = .Constant (.int i) p q := by
  cases e with
  | Constant co p q => cases co with
    | int i => exact ⟨p, q, rfl⟩
    | _ => exact True.intro
  | _ => exact True.intro

variable {fd : FD} {σ : S} {L : Law} {K : Frag}

noncomputable def calleeOk (K : Frag) : Value → Bool
  | .builtin _ => true
  | .type _ => true
  | f => keepIn K f
theorem calleeOk_of (hK : c.K = K) {f : Value} (h : calleeOk K f = true) : Callee c f := by
  cases f with
  | builtin id => exact .bi _
  | type T => exact .ty _
  | _ => exact .kp (hK ▸ h)

noncomputable def bands (ev : Expr → St → Option (AV × St)) : List Expr → St → Option (Bool × St)
  | [], _ => none
  | e :: es, st => (ev e st).bind fun r => (toBool r.1).bind fun b => match es.isEmpty with
    | true => some (b, r.2)
    | false => (bands ev es r.2).bind fun q => some (b && q.1, also q.2 (q.2.σ = r.2.σ))
theorem bands_ok {ev : Expr → St → Option (AV × St)} (hev : ∀ e st, OkE (ev e st) st (Ev c n fd e st.σ)) (es : List Expr) :
    ∀ st, OkE (bands ev es st) st (Ands c n fd es st.σ) := by
  induction es with
  | nil => exact fun st => True.intro
  | cons e es ih =>
    refine fun st => OkE.bind (hev e st) fun v st1 => OkE.bindP (toBool_ok v) fun b hb => ?_
    subst hb
    cases es with
    | nil => exact fun hφ => ⟨hφ, fun a => Ands.last a⟩
    | cons e' es =>
      refine OkE.bind (ih st1) fun b2 st2 hφ => ⟨hφ.1, fun a2 a1 => Ands.cons a1 (fun e => ?_) fun e => ?_⟩
      · subst e; exact a2
      · subst e; exact ⟨rfl, hφ.2⟩

variable (c n fd) in
noncomputable def bAsk (e : Expr) (st : St) : Option (AV × St) := ask st fun v os' => Ev c n fd e st.σ v ⟨st.σ.vs, os'⟩
theorem bAsk_ok (e : Expr) (st : St) : OkE (bAsk c n fd e st) st (Ev c n fd e st.σ) := ask_ok fun _ _ h => h

section
variable (ev : Expr → St → Option (AV × St)) (G : List (Str × AV)) (Mt : List (Str × Addr)) (sk : Bool)
variable (c n fd K) in
noncomputable def bCall (x : Str) (p : Pos) (es : List Expr) (pos : Pos) (st : St) : Option (AV × St) := match isPlain es with
  | true => (nm fd G x st.σ).bind fun f => (litOf f).bind fun f => (evs ev es st).bind fun b => fin (also b.2 (calleeOk K f = true)) (autoCall f b.1 b.2.σ.os) (CallR c n f b.1 b.2.σ.os)
  | false => bAsk c n fd (.Call (.Name x p) es [] pos) st
variable (c n K) in
noncomputable def bMBi (a : AV) (as : S) (name : Str) (vs : List AV) (p : Prop) (st : St) (f : Value) : Option (AV × St) := fin (also st (autoMth a name as.os = some f ∧ p)) (autoCall f (a :: vs) st.σ.os) (CallR c n f (a :: vs) st.σ.os)
variable (c n L K) in
noncomputable def bMMe (a : AV) (as : S) (name : Str) (vs : List AV) (p : Prop) (st : St) (f : Addr) : Option (AV × St) := ask (also st ((∃ i m, a = .ref i ∧ as.os[i]? = some (.x (.inst m)) ∧ m.lookup name = none) ∧ findIn K (.ref L.C) name = some (some (.ref f)) ∧ typeIn K (.ref f) = some (.type "function") ∧ calleeOk K (.ref f) = true ∧ p))
        (CallR c n (.ref f) (a :: vs) st.σ.os)
variable (c n) in
noncomputable def bMRd (a : AV) (as : S) (name : Str) (vs : List AV) (p : Prop) (st : St) (q : Nat) : Option (AV × St) := ask (also st (name = "read" ∧ (∃ i j cl t e, a = .ref i ∧ as.os[i]? = some (.x (.fn j cl t (some e))) ∧ as.os[e]? = some (.x (.rdict q))) ∧ (∃ j' cl' t' rd', st.σ.os[q]? = some (.x (.fn j' cl' t' rd')) ∧ st.σ.os[t']? = some (.x (.code j'))) ∧ p))
        (CallV c n (.ref q) vs st.σ.os)
variable (c n L K) in
noncomputable def bMC (a : AV) (as : S) (name : Str) (vs : List AV) (p : Prop) (st : St) (mc : MC) : Option (AV × St) := match mc with
  | .bi f => bMBi c n a as name vs p st f
  | .me f => bMMe c n L K a as name vs p st f
  | .rd q => bMRd c n a as name vs p st q
variable (c n L K) in
noncomputable def bMeth (o : Expr) (name : Str) (apos : Pos) (es : List Expr) (pos : Pos) (st : St) : Option (AV × St) := match isPlain es with
  | true => (ev o st).bind fun a => (mcOf Mt a.1 name a.2.σ.os).bind fun mc => (evs ev es a.2).bind fun b =>
    bMC c n L K a.1 a.2.σ name b.1 ((apos.endLine == pos.line) = true ∧ es.length < 30 ∧ ∀ env, attributeBase o name env (eval o env) = eval o env) b.2 mc
  | false => none
variable (c n fd) in
noncomputable def bSlice (value : Expr) (lo hi step : Option Expr) (e : Expr) (st : St) : Option (AV × St) := (ev value st).bind fun a => match autoSq a.1 a.2.σ.os with
  | true => (evp ev lo a.2).bind fun l => (evp ev hi l.2).bind fun h => (evp ev step h.2).bind fun t => match autoSq a.1 t.2.σ.os with
    | true => fin t.2 (autoSlice a.1 l.1 h.1 t.1 t.2.σ.os) (SlOp c n a.1 l.1 h.1 t.1 t.2.σ.os)
    | false => none
  | false => bAsk c n fd e st
variable (c n fd) in
noncomputable def bSub (value slice : Expr) (e : Expr) (st : St) : Option (AV × St) := match sk with
  | true => bAsk c n fd e st
  | false => (ev value st).bind fun a => match autoSq a.1 a.2.σ.os with
    | true => (ev slice a.2).bind fun b => match autoSq a.1 b.2.σ.os with
      | true => fin (also b.2 (∀ o i, subscripted slice false o i = operate [o, i] (getItem o i))) (autoItem2 a.1 b.1 b.2.σ.os) (Op2 c n getItem a.1 b.1 b.2.σ.os)
      | false => none
    | false => bAsk c n fd e st
variable (c n fd) in
noncomputable def bSbs (value slice : Expr) (e : Expr) (st : St) : Option (AV × St) := match asSlice slice with
  | some q => bSlice c n fd ev value q.1 q.2.1 q.2.2 e st
  | none => bSub c n fd ev sk value slice e st
variable (c n) in
noncomputable def bCmp (l : Expr) (op : CmpOp) (r : Expr) (st : St) : Option (AV × St) := (ev l st).bind fun a => (ev r a.2).bind fun b => fin (also b.2 (behindInMarks op r = false)) (autoCmp op a.1 b.1 b.2.σ.os) (Op2 c n (compareOp op) a.1 b.1 b.2.σ.os)
variable (c n fd) in
noncomputable def bConst (co : Const) (e : Expr) (st : St) : Option (AV × St) := match co with
  | .int i => some (.int i, st)
  | .str x => some (.str x, st)
  | .bool b => some (.bool b, st)
  | .none => some (.none, st)
  | _ => bAsk c n fd e st
variable (c n fd) in
noncomputable def bUn (op : UnaryOp) (o e : Expr) (st : St) : Option (AV × St) := match op with
  | .USub => (match asInt o with
    | some i => some (.int (-i), st)
    | none => bAsk c n fd e st)
  | _ => bAsk c n fd e st
variable (c n) in
noncomputable def bBin (l : Expr) (op : Operator) (r : Expr) (st : St) : Option (AV × St) := (ev l st).bind fun a => (ev r a.2).bind fun b => fin b.2 (autoBin2 op a.1 b.1 b.2.σ.os) (Op2 c n (binaryOp op) a.1 b.1 b.2.σ.os)
variable (c n fd) in
noncomputable def bIf (t x y e : Expr) (st : St) : Option (AV × St) := match asCmp t with
  | none => bAsk c n fd e st
  | some q => (bCmp c n ev q.1 q.2.1 q.2.2 st).bind fun r => (toBool r.1).bind fun z => (asName x).bind fun x => (asName y).bind fun y => (nm fd G x r.2.σ).bind fun u => (nm fd G y r.2.σ).bind fun w => (ifv z u w).bind fun v => some (v, r.2)
variable (c n fd) in
noncomputable def bBool (op : BoolOp) (es : List Expr) (e : Expr) (st : St) : Option (AV × St) := match op with
  | .And => (bands ev es st).bind fun r => some (.bool r.1, r.2)
  | .Or => bAsk c n fd e st
variable (c n fd L K) in
noncomputable def bAttr (o : Expr) (name : Str) (e : Expr) (st : St) : Option (AV × St) := (ev o st).bind fun a => match attrOf a.1 name a.2.σ.os with
  | some v => some (v, also a.2 ((∃ i m, a.1 = .ref i ∧ a.2.σ.os[i]? = some (.x (.inst m)) ∧ m.lookup name = some v) ∧ notLit v = true ∧ findIn K (.ref L.C) name = some none ∧ ∀ env, attributeBase o name env (eval o env) = eval o env))
  | none => bAsk c n fd e st
variable (c n fd L K) in
noncomputable def bCl (f : Expr) (es : List Expr) (kws : List Keyword) (pos : Pos) (st : St) : Option (AV × St) := match kws with
  | [] => (match f with
    | .Name x p => bCall c n fd K ev G x p es pos st
    | .Attribute o name apos => bMeth c n L K ev Mt o name apos es pos st
    | _ => bAsk c n fd (.Call f es kws pos) st)
  | _ :: _ => bAsk c n fd (.Call f es kws pos) st
variable (c n fd L K) in
noncomputable def bE1 (e : Expr) (st : St) : Option (AV × St) := match e with
  | .Constant co _ _ => bConst c n fd co e st
  | .Name x _ => (nm fd G x st.σ).bind fun v => some (v, st)
  | .UnaryOp op o _ => bUn c n fd op o e st
  | .BinOp l op r _ => bBin c n ev l op r st
  | .Compare _ _ _ _ => (match asCmp e with
    | some q => bCmp c n ev q.1 q.2.1 q.2.2 st
    | none => bAsk c n fd e st)
  | .IfExp t x y _ => bIf c n fd ev G t x y e st
  | .BoolOp op es _ => bBool c n fd ev op es e st
  | .Attribute o name _ => bAttr c n fd L K ev o name e st
  | .Call f es kws pos => bCl c n fd L K ev G Mt f es kws pos st
  | .Subscript value slice _ => bSbs c n fd ev sk value slice e st
  | .List es _ => (evs ev es st).bind fun b => some (.ref b.2.σ.os.length, ⟨⟨b.2.σ.vs, b.2.σ.os ++ [.list b.1]⟩, b.2.q, b.2.φ ∧ b.1.length ≤ sizeLine⟩)
  | .Tuple es _ _ => (evs ev es st).bind fun b => some (.ref b.2.σ.os.length, ⟨⟨b.2.σ.vs, b.2.σ.os ++ [.tup b.1]⟩, b.2.q, b.2.φ ∧ b.1.length ≤ sizeLine⟩)
  | _ => bAsk c n fd e st

section
variable {ev} (hev : ∀ e st, OkE (ev e st) st (Ev c n fd e st.σ))
include hev
theorem bCall_ok (hK : c.K = K) {G : List (Str × AV)} (hG : GOK c G) (hk : fd.scope.kind = .function) (x : Str) (p pos : Pos) (es : List Expr) (st : St) : OkE (bCall c n fd K ev G x p es pos st) st (Ev c n fd (.Call (.Name x p) es [] pos) st.σ) := by
  unfold bCall
  cases hp : isPlain es with
  | true => exact OkE.bindO fun f h1 => OkE.bindP (litOf_ok f) fun f' hf => OkE.bind (evs_ok hev es st) fun b st1 => OkE.more (fin_ok (autoCall_ok f' b _) fun v os' h2 h3 h4 => Ev.call (nm_ok hG hk (hf ▸ h1)) h4 (calleeOk_of hK h3) h2 (isPlain_p1 hp) (.inl (isPlain_star hp)))
  | false => exact bAsk_ok _ st
theorem bMeth_ok (H : Lc c L) (hK : c.K = K) (o : Expr) (name : Str) (apos pos : Pos) (es : List Expr) (st : St) : OkE (bMeth c n L K ev Mt o name apos es pos st) st (Ev c n fd (.Call (.Attribute o name apos) es [] pos) st.σ) := by
  unfold bMeth
  cases hp : isPlain es with
  | false => exact True.intro
  | true =>
    refine OkE.bind (hev o st) fun a st1 => OkE.bindO fun mc _ => OkE.bind (evs_ok hev es st1) fun b st2 => ?_
    cases mc with
    | bi f => exact OkE.more (fin_ok (autoCall_ok f (a :: b) _) fun v os' h2 h3 h4 h5 => have hm := (autoMth_ok (c := c) (n := n) a name st1.σ.os).get h3.1; Ev.meth h5 hm.1 h4 hm.2 h2 (isPlain_p1 hp) (isPlain_star hp) h3.2.1 h3.2.2.1 h3.2.2.2)
    | me f => exact OkE.more (ask_ok fun v os' h2 h3 h4 h5 => by
        obtain ⟨i, m, hi, q1, q2⟩ := h3.1
        have hi : a = .ref i := hi
        exact Ev.meth h5 (hi ▸ mth_i H q1 q2 (hK ▸ h3.2.1) (hK ▸ h3.2.2.1)) h4 (calleeOk_of hK h3.2.2.2.1) h2 (isPlain_p1 hp) (isPlain_star hp) h3.2.2.2.2.1 h3.2.2.2.2.2.1 h3.2.2.2.2.2.2)
    | rd q => exact OkE.more (ask_ok fun v os' h2 h3 h4 h5 => by
        obtain ⟨i, j, cl, t, e, hi, q1, q2⟩ := h3.2.1
        have hi : a = .ref i := hi
        obtain ⟨j', cl', t', rd', q3, q4⟩ := h3.2.2.1
        have g := h3.2.2.2
        obtain rfl := h3.1
        exact Ev.methV H (hi ▸ h5) q1 q2 h4 q3 q4 h2 (isPlain_p1 hp) (isPlain_star hp) g.1 g.2.1 g.2.2)
theorem bSlice_ok (value : Expr) (lo hi step : Option Expr) (sp pos : Pos) (st : St) : OkE (bSlice c n fd ev value lo hi step (.Subscript value (.Slice lo hi step sp) pos) st) st (Ev c n fd (.Subscript value (.Slice lo hi step sp) pos) st.σ) := by
  refine OkE.bindO fun a ha => ?_
  cases autoSq a.1 a.2.σ.os with
  | true =>
    refine OkE.step (hev value st) ha (OkE.bind (evp_ok hev lo a.2) fun l st2 => OkE.bind (evp_ok hev hi st2) fun h st3 => OkE.bind (evp_ok hev step st3) fun t st4 => ?_)
    cases hs : autoSq a.1 st4.σ.os with
    | true => exact fin_ok (autoSlice_ok a.1 l h t _) fun v os' g1 g2 g3 g4 g5 => Ev.slice g5 g4 g3 g2 (autoSq_ok hs) g1
    | false => exact True.intro
  | false => exact bAsk_ok _ st
theorem bSub_ok (value slice : Expr) (pos : Pos) (st : St) : OkE (bSub c n fd ev sk value slice (.Subscript value slice pos) st) st (Ev c n fd (.Subscript value slice pos) st.σ) := by
  cases sk with
  | true => exact bAsk_ok _ st
  | false =>
    refine OkE.bindO fun a ha => ?_
    cases autoSq a.1 a.2.σ.os with
    | true =>
      refine OkE.step (hev value st) ha (OkE.bind (hev slice a.2) fun b st2 => ?_)
      cases hs : autoSq a.1 st2.σ.os with
      | true => exact OkE.more (fin_ok (autoItem2_ok a.1 b _) fun v os' g1 g2 g3 g4 => Ev.sub g4 g3 (autoSq_ok hs) g1 g2)
      | false => exact True.intro
    | false => exact bAsk_ok _ st
theorem bSbs_ok (value slice : Expr) (pos : Pos) (st : St) : OkE (bSbs c n fd ev sk value slice (.Subscript value slice pos) st) st (Ev c n fd (.Subscript value slice pos) st.σ) := by
  have h := asSlice_ok slice
  unfold bSbs
  cases hs : asSlice slice with
  | none => exact bSub_ok sk hev value slice pos st
  | some q =>
    obtain ⟨p, rfl⟩ := h.get hs
    exact bSlice_ok hev value q.1 q.2.1 q.2.2 p pos st
theorem bCmp_ok (l : Expr) (op : CmpOp) (r : Expr) (st : St) : OkE (bCmp c n ev l op r st) st fun v σ' => (∀ pos, Ev c n fd (.Compare l [op] [r] pos) st.σ v σ') ∧ ∀ z pos, v = .bool z → Tst c n fd (.Compare l [op] [r] pos) st.σ z σ' :=
  OkE.bind (hev l st) fun a st1 => OkE.bind (hev r st1) fun b st2 => OkE.more (fin_ok (autoCmp_ok op a b _) fun v os' g1 g2 g3 g4 => ⟨fun pos => Ev.cmp g4 g3 g1 g2, fun z pos e => Tst.cmp g4 g3 (e ▸ g1) g2⟩)
omit hev in
theorem bConst_ok (co : Const) (p : Nat) (q : Pos) (st : St) : OkE (bConst c n fd co (.Constant co p q) st) st (Ev c n fd (.Constant co p q) st.σ) := by
  cases co with
  | int i => exact fun hφ => ⟨hφ, Ev.int⟩
  | str i => exact fun hφ => ⟨hφ, Ev.str⟩
  | bool i => exact fun hφ => ⟨hφ, Ev.bool⟩
  | none => exact fun hφ => ⟨hφ, Ev.none⟩
  | _ => exact bAsk_ok _ st
omit hev in
theorem bUn_ok (op : UnaryOp) (o : Expr) (p : Pos) (st : St) : OkE (bUn c n fd op o (.UnaryOp op o p) st) st (Ev c n fd (.UnaryOp op o p) st.σ) := by
  cases op with
  | USub =>
    have h := asInt_ok o
    unfold bUn
    dsimp only
    cases hi : asInt o with
    | none => exact bAsk_ok _ st
    | some i =>
      obtain ⟨p, q, rfl⟩ := h.get hi
      exact fun hφ => ⟨hφ, Ev.neg⟩
  | _ => exact bAsk_ok _ st
theorem bIf_ok {G : List (Str × AV)} (hG : GOK c G) (hk : fd.scope.kind = .function) (t x y : Expr) (p : Pos) (st : St) : OkE (bIf c n fd ev G t x y (.IfExp t x y p) st) st (Ev c n fd (.IfExp t x y p) st.σ) := by
  have h := asCmp_ok t
  unfold bIf
  cases hi : asCmp t with
  | none => exact bAsk_ok _ st
  | some q =>
    obtain ⟨p', rfl⟩ := h.get hi
    refine OkE.bind (bCmp_ok hev q.1 q.2.1 q.2.2 st) fun v st1 => OkE.bindP (toBool_ok v) fun z hz => OkE.bindP (asName_ok x) fun x hx => OkE.bindP (asName_ok y) fun y hy => OkE.bindO fun u hu => OkE.bindO fun w hw => OkE.bindP (ifv_ok z u w) fun v' hv hφ => ⟨hφ, fun g => ?_⟩
    obtain ⟨_, rfl⟩ := hx
    obtain ⟨_, rfl⟩ := hy
    subst hv
    refine Ev.ifexp (g.2 z _ hz) (fun e => ?_) fun e => ?_
    · subst e; exact nm_ok hG hk hu
    · subst e; exact nm_ok hG hk hw
theorem bBool_ok (op : BoolOp) (es : List Expr) (p : Pos) (st : St) : OkE (bBool c n fd ev op es (.BoolOp op es p) st) st (Ev c n fd (.BoolOp op es p) st.σ) := by
  cases op with
  | And => exact OkE.bind (bands_ok hev es st) fun b st1 hφ => ⟨hφ, fun a => Ev.and a⟩
  | Or => exact bAsk_ok _ st
theorem bAttr_ok (H : Lc c L) (hK : c.K = K) (o : Expr) (name : Str) (p : Pos) (st : St) : OkE (bAttr c n fd L K ev o name (.Attribute o name p) st) st (Ev c n fd (.Attribute o name p) st.σ) := by
  refine OkE.bindO fun a ha => ?_
  cases attrOf a.1 name a.2.σ.os with
  | none => exact bAsk_ok _ st
  | some w =>
    refine OkE.step (hev o st) ha fun hφ => ⟨hφ.1, fun g => ?_⟩
    obtain ⟨⟨i, m, hi, p1, p2⟩, p3, p4, p5⟩ := hφ.2
    exact Ev.attr H (hi ▸ g) p1 p2 p3 (hK ▸ p4) p5
theorem bCl_ok (H : Lc c L) (hK : c.K = K) {G : List (Str × AV)} (hG : GOK c G) (hk : fd.scope.kind = .function) (f : Expr) (es : List Expr) (kws : List Keyword) (pos : Pos) (st : St) : OkE (bCl c n fd L K ev G Mt f es kws pos st) st (Ev c n fd (.Call f es kws pos) st.σ) := by
  cases kws with
  | cons kw kws => exact bAsk_ok _ st
  | nil => cases f with
    | Name x p => exact bCall_ok hev hK hG hk x p pos es st
    | Attribute o name apos => exact bMeth_ok Mt hev H hK o name apos pos es st
    | _ => exact bAsk_ok _ st
theorem bE1_ok (H : Lc c L) (hK : c.K = K) {G : List (Str × AV)} (hG : GOK c G) (hk : fd.scope.kind = .function) (e : Expr) (st : St) : OkE (bE1 c n fd L K ev G Mt sk e st) st (Ev c n fd e st.σ) := by
  cases e with
  | Constant co p q => exact bConst_ok co p q st
  | Name x p => exact OkE.bindO fun v h hφ => ⟨hφ, nm_ok hG hk h⟩
  | UnaryOp op o p => exact bUn_ok op o p st
  | BinOp l op r p => exact OkE.bind (hev l st) fun a st1 => OkE.bind (hev r st1) fun b st2 => fin_ok (autoBin2_ok op a b _) fun v os' g1 g2 g3 => Ev.bin g3 g2 g1
  | Compare l ops rs p =>
    have h := asCmp_ok (.Compare l ops rs p)
    unfold bE1
    dsimp only
    cases hi : asCmp (.Compare l ops rs p) with
    | none => exact bAsk_ok _ st
    | some q =>
      obtain ⟨p', e⟩ := h.get hi
      rw [e]
      exact (bCmp_ok hev q.1 q.2.1 q.2.2 st).mono fun v σ' g => g.1 p'
  | IfExp t x y p => exact bIf_ok hev hG hk t x y p st
  | BoolOp op es p => exact bBool_ok hev op es p st
  | Attribute o name p => exact bAttr_ok hev H hK o name p st
  | Call f es kws p => exact bCl_ok Mt hev H hK hG hk f es kws p st
  | Subscript value slice pos => exact bSbs_ok sk hev value slice pos st
  | List es p => exact OkE.bind (evs_ok hev es st) fun b st1 hφ => ⟨hφ.1, fun g => Ev.list g hφ.2⟩
  | Tuple es k p => exact OkE.bind (evs_ok hev es st) fun b st1 hφ => ⟨hφ.1, fun g => Ev.tup g hφ.2⟩
  | _ => exact bAsk_ok _ st
end
end

variable (c n fd L K) in
noncomputable def bE (G : List (Str × AV)) (Mt : List (Str × Addr)) (sk : Bool) : Nat → Expr → St → Option (AV × St)
  | 0, _, _ => none
  | k + 1, e, st => bE1 c n fd L K (bE G Mt sk k) G Mt sk e st
theorem bE_ok (H : Lc c L) (hK : c.K = K) {G : List (Str × AV)} (hG : GOK c G) {Mt : List (Str × Addr)} {sk : Bool} (hk : fd.scope.kind = .function) (k : Nat) : ∀ e st, OkE (bE c n fd L K G Mt sk k e st) st (Ev c n fd e st.σ) := by
  induction k with
  | zero => exact fun _ _ => True.intro
  | succ k ih => exact bE1_ok Mt sk ih H hK hG hk

/-! tests -/
noncomputable def bbs (z : Bool) (tv : Expr → St → Option (Bool × St)) : List Expr → St → Option (Bool × St)
  | [], _ => none
  | e :: es, st => (tv e st).bind fun r => match es.isEmpty with
    | true => some (r.1, r.2)
    | false => bbs z tv es (also r.2 (r.1 = z))
theorem Tsts.last {e : Expr} {op : BoolOp} {b : Bool} {σ₁ : S} (h : Tst c n fd e σ b σ₁) : Tsts c n fd op [e] σ b σ₁ := by
  cases op with
  | And => cases b with
    | true => exact Tsts.and h (fun _ => Tsts.nilAnd) (fun e => by cases e)
    | false => exact Tsts.and h (fun e => by cases e) (fun _ => ⟨rfl, rfl⟩)
  | Or => cases b with
    | false => exact Tsts.or h (fun _ => Tsts.nilOr) (fun e => by cases e)
    | true => exact Tsts.or h (fun e => by cases e) (fun _ => ⟨rfl, rfl⟩)
noncomputable def zOf : BoolOp → Bool
  | .And => true
  | .Or => false
theorem Tsts.on {op : BoolOp} {e : Expr} {es : List Expr} {b' : Bool} {σ₁ σ₂ : S} (h1 : Tst c n fd e σ (zOf op) σ₁) (h2 : Tsts c n fd op es σ₁ b' σ₂) : Tsts c n fd op (e :: es) σ b' σ₂ := by
  cases op with
  | And => exact Tsts.and h1 (fun _ => h2) (fun e => by cases e)
  | Or => exact Tsts.or h1 (fun _ => h2) (fun e => by cases e)
theorem bbs_ok {op : BoolOp} {tv : Expr → St → Option (Bool × St)} (htv : ∀ e st, OkE (tv e st) st (Tst c n fd e st.σ)) (es : List Expr) : ∀ st, OkE (bbs (zOf op) tv es st) st (Tsts c n fd op es st.σ) := by
  induction es with
  | nil => exact fun _ => True.intro
  | cons e es ih =>
    refine fun st => OkE.bind (htv e st) fun b st1 => ?_
    cases es with
    | nil => exact fun hφ => ⟨hφ, fun a => Tsts.last a⟩
    | cons e' es => exact OkE.more ((ih (also st1 (b = zOf op))).mono fun v σ' g hb a => Tsts.on (hb ▸ a) g)
section
variable (ev : Expr → St → Option (AV × St)) (tv : Expr → St → Option (Bool × St))
noncomputable def bTv (e : Expr) (st : St) : Option (Bool × St) := (ev e st).bind fun a => (autoTru a.1 a.2.σ.os).bind fun r => some (r.1, also a.2 (r.2 ∧ ∀ env whole, isTrue e env whole = (do let v ← whole; standAt e.pos; holding [v] (truthy v))))
noncomputable def bTbop (op : BoolOp) (es : List Expr) (e : Expr) (st : St) : Option (Bool × St) := match op with
  | .Or => (match Nat.ble es.length 3 with
    | true => bbs false tv es st
    | false => bTv ev e st)
  | .And => (match es.length == 2 with
    | true => bbs true tv es st
    | false => bTv ev e st)
noncomputable def bTun (op : UnaryOp) (o e : Expr) (st : St) : Option (Bool × St) := match op with
  | .Not => (tv o st).bind fun r => some (!r.1, r.2)
  | _ => bTv ev e st
variable (c n) in
noncomputable def bTcmp (e : Expr) (st : St) : Option (Bool × St) := match asCmp e with
  | some q => (bCmp c n ev q.1 q.2.1 q.2.2 st).bind fun r => (toBool r.1).bind fun z => some (z, r.2)
  | none => bTv ev e st
variable (c n) in
noncomputable def bT1 (e : Expr) (st : St) : Option (Bool × St) := match e with
  | .Compare _ _ _ _ => bTcmp c n ev e st
  | .UnaryOp op o _ => bTun ev tv op o e st
  | .BoolOp op es _ => bTbop ev tv op es e st
  | e => bTv ev e st
variable {ev} (hev : ∀ e st, OkE (ev e st) st (Ev c n fd e st.σ))
include hev
theorem bTv_ok (e : Expr) (st : St) : OkE (bTv ev e st) st (Tst c n fd e st.σ) := OkE.bind (hev e st) fun a st1 => by
  have h := autoTru_ok (c := c) (n := n) a st1.σ.os
  cases ha : autoTru a st1.σ.os with
  | none => exact True.intro
  | some r => rw [ha] at h; exact fun hφ => ⟨hφ.1, fun g => Tst.val g (h hφ.2.1) hφ.2.2⟩
variable {tv} (htv : ∀ e st, OkE (tv e st) st (Tst c n fd e st.σ))
include htv
theorem bTbop_ok (op : BoolOp) (es : List Expr) (p : Pos) (st : St) : OkE (bTbop ev tv op es (.BoolOp op es p) st) st (Tst c n fd (.BoolOp op es p) st.σ) := by
  cases op with
  | Or =>
    unfold bTbop
    dsimp only
    cases Nat.ble es.length 3 with
    | true => exact (bbs_ok (op := .Or) htv es st).mono fun v σ' g => Tst.bop g
    | false => exact bTv_ok hev _ st
  | And =>
    unfold bTbop
    dsimp only
    cases es.length == 2 with
    | true => exact (bbs_ok (op := .And) htv es st).mono fun v σ' g => Tst.bop g
    | false => exact bTv_ok hev _ st
theorem bT1_ok (e : Expr) (st : St) : OkE (bT1 c n ev tv e st) st (Tst c n fd e st.σ) := by
  cases e with
  | Compare l ops rs p =>
    have h := asCmp_ok (.Compare l ops rs p)
    show OkE (bTcmp c n ev (.Compare l ops rs p) st) st _
    unfold bTcmp
    cases hi : asCmp (.Compare l ops rs p) with
    | none => exact bTv_ok hev _ st
    | some q =>
      obtain ⟨p', e⟩ := h.get hi
      rw [e]
      exact OkE.bind (bCmp_ok hev q.1 q.2.1 q.2.2 st) fun v st1 => OkE.bindP (toBool_ok v) fun z hz hφ => ⟨hφ, fun g => g.2 z p' hz⟩
  | UnaryOp op o p => cases op with
    | Not => exact OkE.bind (htv o st) fun b st1 hφ => ⟨hφ, fun g => Tst.not g⟩
    | _ => exact bTv_ok hev _ st
  | BoolOp op es p => exact bTbop_ok hev htv op es p st
  | _ => exact bTv_ok hev _ st
end
variable (c n fd L K) in
noncomputable def bT (G : List (Str × AV)) (Mt : List (Str × Addr)) (sk : Bool) : Nat → Expr → St → Option (Bool × St)
  | 0, _, _ => none
  | k + 1, e, st => bT1 c n (bE c n fd L K G Mt sk k) (bT G Mt sk k) e st
theorem bT_ok (H : Lc c L) (hK : c.K = K) {G : List (Str × AV)} (hG : GOK c G) {Mt : List (Str × Addr)} {sk : Bool} (hk : fd.scope.kind = .function) (k : Nat) : ∀ e st, OkE (bT c n fd L K G Mt sk k e st) st (Tst c n fd e st.σ) := by
  induction k with
  | zero => exact fun _ _ => True.intro
  | succ k ih => exact bT1_ok (bE_ok H hK hG hk k) ih

/-! statements -/
noncomputable def OkS (r : Option St) (st : St) (Q : S → Prop) : Prop := match r with
  | none => True
  | some r => r.φ → st.φ ∧ Q r.σ
theorem OkS.get {r : Option St} {st st' : St} {Q : S → Prop} (h : OkS r st Q) (e : r = some st') (hφ : st'.φ) : st.φ ∧ Q st'.σ := by subst e; exact h hφ
theorem OkS.bind {α : Type} {r : Option (α × St)} {f : α × St → Option St} {st : St} {P : α → S → Prop} {Q : S → Prop} (h1 : OkE r st P) (h2 : ∀ a st1, OkS (f (a, st1)) st1 fun σ' => P a st1.σ → Q σ') : OkS (r.bind f) st Q := by
  cases r with
  | none => exact True.intro
  | some x =>
    have h2 := h2 x.1 x.2
    show OkS (f x) st Q
    cases hf : f x with
    | none => exact True.intro
    | some p => rw [show f (x.1, x.2) = some p from hf] at h2; exact fun hφ => ⟨(h1 (h2 hφ).1).1, (h2 hφ).2 (h1 (h2 hφ).1).2⟩
theorem OkS.bindO {α : Type} {o : Option α} {f : α → Option St} {st : St} {Q : S → Prop} (h : ∀ x, o = some x → OkS (f x) st Q) : OkS (o.bind f) st Q := by
  cases o with
  | none => exact True.intro
  | some x => exact h x rfl
section
variable (ev : Expr → St → Option (AV × St)) (tv : Expr → St → Option (Bool × St)) (G : List (Str × AV))
variable (fd) in
noncomputable def bAsN (x : Str) (px : Pos) (e : Expr) (pos : Pos) (st : St) : Option St := (ev e st).bind fun r => (sto fd x r.1 r.2.σ).bind fun σ' => some ⟨σ', r.2.q, r.2.φ ∧ ∀ env, swapsWith e (some (.Name x px)) pos.line env = Pure.pure false⟩
noncomputable def refOf : AV → Option Nat
  | .ref i => some i
  | _ => none
theorem refOf_ok {a : AV} {i : Nat} (h : refOf a = some i) : a = .ref i := by
  cases a with
  | ref j => cases h; rfl
  | _ => cases h
variable (L K) in
noncomputable def bAsA (o : Expr) (name : Str) (pos' : Pos) (e : Expr) (pos : Pos) (st : St) : Option St := (ev e st).bind fun r => (ev o r.2).bind fun a => (refOf a.1).bind fun i => (instOf a.2.σ.os[i]?).bind fun m => some ⟨⟨a.2.σ.vs, a.2.σ.os.set i (.x (.inst (putIn name r.1 m)))⟩, a.2.q, a.2.φ ∧ takerIn K L.C name = some none ∧ m.length ≤ 1000 ∧ ∀ env, swapsWith e (some (.Attribute o name pos')) pos.line env = Pure.pure false⟩
variable (c n fd) in
noncomputable def bAug (x : Str) (op : Operator) (e : Expr) (st : St) : Option St := match x == ("__debug__" : Str) with
  | true => none
  | false => (nm fd G x st.σ).bind fun a => (ev e st).bind fun b => (fin b.2 (autoInp op a b.1 b.2.σ.os) (Op2 c n (inplaceOp op) a b.1 b.2.σ.os)).bind fun r => (sto fd x r.1 r.2.σ).bind fun σ' => some ⟨σ', r.2.q, r.2.φ⟩
noncomputable def bExp (e : Expr) (pos : Pos) (st : St) : Option St := (ev e st).bind fun r => match plainV r.1 with
  | true => some (also r.2 (∀ env, swapsWith e Option.none pos.line env = Pure.pure false))
  | false => none
variable (fd L K) in
noncomputable def bAsg (t : Expr) (e : Expr) (pos : Pos) (st : St) : Option St := match t with
  | .Name x px => bAsN fd ev x px e pos st
  | .Attribute o name pos' => bAsA L K ev o name pos' e pos st
  | _ => none
variable (c n fd L K) in
noncomputable def bS1 (s : Stmt) (st : St) : Option St := match s with
  | .Assign ts e pos => (one ts).bind fun t => bAsg fd L K ev t e pos st
  | .AugAssign t op e _ => (asName t).bind fun x => bAug c n fd ev G x op e st
  | .Expr e pos => bExp ev e pos st
  | .Assert t _ _ => (tv t st).bind fun r => some (also r.2 (r.1 = true))
  | _ => none
variable {ev} (hev : ∀ e st, OkE (ev e st) st (Ev c n fd e st.σ))
include hev
theorem bAsg_ok (H : Lc c L) (hK : c.K = K) (hk : fd.scope.kind = .function) (t e : Expr) (pos : Pos) (st : St) : OkS (bAsg fd L K ev t e pos st) st (Ex c n fd (.Assign [t] e pos) st.σ .next) := by
  cases t with
  | Name x px => exact OkS.bind (hev e st) fun a st1 => OkS.bindO fun σ' h2 hφ => ⟨hφ.1, fun g => Ex.assign' g (sto_ok h2) hφ.2 hk⟩
  | Attribute o name pos' => exact OkS.bind (hev e st) fun a st1 => OkS.bind (hev o st1) fun b st2 => OkS.bindO fun i hi => OkS.bindO fun m hm hφ => ⟨hφ.1, fun g2 g1 => Ex.setAttr H g1 (refOf_ok hi ▸ g2) (instOf_ok hm) (hK ▸ hφ.2.1) hφ.2.2.1 hφ.2.2.2⟩
  | _ => exact True.intro
theorem bAug_ok {G : List (Str × AV)} (hG : GOK c G) (hk : fd.scope.kind = .function) (x : Str) (px : Pos) (op : Operator) (e : Expr) (pos : Pos) (st : St) : OkS (bAug c n fd ev G x op e st) st (Ex c n fd (.AugAssign (.Name x px) op e pos) st.σ .next) := by
  unfold bAug
  cases hd : x == ("__debug__" : Str) with
  | true => exact True.intro
  | false => exact OkS.bindO fun a h1 => OkS.bind (hev e st) fun b st1 => OkS.bind (P := fun v σ' => ∃ os', Op2 c n (inplaceOp op) a b st1.σ.os v os' ∧ σ' = ⟨st1.σ.vs, os'⟩) (fin_ok (autoInp_ok op a b _) fun v os' h => ⟨os', h, rfl⟩) fun r st2 => OkS.bindO fun σ' h4 hφ => ⟨hφ, fun g2 g1 => by
      obtain ⟨os', h, e⟩ := g2
      have h4 := sto_ok h4
      dsimp only at h4
      rw [e] at h4
      exact Ex.aug (nm_ok hG hk h1) g1 h h4 hd hk⟩
theorem bExp_ok (hk : fd.scope.kind = .function) (e : Expr) (pos : Pos) (st : St) : OkS (bExp ev e pos st) st (Ex c n fd (.Expr e pos) st.σ .next) := OkS.bind (hev e st) fun a st1 => by
  dsimp only
  cases hp : plainV a with
  | false => exact True.intro
  | true => exact fun hφ => ⟨hφ.1, fun g => Ex.expr g (by cases a <;> first | rfl | cases hp) (by intro u e; subst e; cases hp) hk hφ.2⟩
theorem bS1_ok {tv : Expr → St → Option (Bool × St)} (htv : ∀ e st, OkE (tv e st) st (Tst c n fd e st.σ)) (H : Lc c L) (hK : c.K = K) {G : List (Str × AV)} (hG : GOK c G) (hk : fd.scope.kind = .function) (s : Stmt) (st : St) : OkS (bS1 c n fd L K ev tv G s st) st (Ex c n fd s st.σ .next) := by
  cases s with
  | Assign ts e pos => exact OkS.bindO fun t h1 => (show ts = [t] from (one_ok ts).get h1) ▸ bAsg_ok hev H hK hk t e pos st
  | AugAssign t op e pos =>
    refine OkS.bindO fun x h1 => ?_
    obtain ⟨px, rfl⟩ := (asName_ok t).get h1
    exact bAug_ok hev hG hk x px op e pos st
  | Expr e pos => exact bExp_ok hev hk e pos st
  | Assert t m pos => exact OkS.bind (htv t st) fun b st1 hφ => ⟨hφ.1, fun g => Ex.asrt (hφ.2 ▸ g)⟩
  | _ => exact True.intro
end
variable (c n fd L K) in
noncomputable def bS (G : List (Str × AV)) (Mt : List (Str × Addr)) (sk : Bool) (k : Nat) (s : Stmt) (st : St) : Option St := bS1 c n fd L K (bE c n fd L K G Mt sk k) (bT c n fd L K G Mt sk k) G s st
theorem bS_ok (H : Lc c L) (hK : c.K = K) {G : List (Str × AV)} (hG : GOK c G) {Mt : List (Str × Addr)} {sk : Bool} (hk : fd.scope.kind = .function) {k : Nat} {s : Stmt} {st st' : St} (h : bS c n fd L K G Mt sk k s st = some st') (hφ : st'.φ) : st.φ ∧ Ex c n fd s st.σ .next st'.σ :=
  (bS1_ok (bE_ok H hK hG hk k) (bT_ok H hK hG hk k) H hK hG hk s st).get h hφ

variable (c n fd L K) in
noncomputable def bSs (G : List (Str × AV)) (Mt : List (Str × Addr)) (sk : Bool) (k m : Nat) : List Stmt → St → Option (List Stmt × St) := m.rec (fun sts st => some (sts, st)) fun _ ih sts st => match sts with
  | [] => none
  | s :: sts => (bS c n fd L K G Mt sk k s st).bind (ih sts)
theorem bSs_ok (H : Lc c L) (hK : c.K = K) {G : List (Str × AV)} (hG : GOK c G) {Mt : List (Str × Addr)} {sk : Bool} (hk : fd.scope.kind = .function) {k : Nat} {f : AF} {σ' : S} {m : Nat} : ∀ {sts rest : List Stmt} {st st' : St}, bSs c n fd L K G Mt sk k m sts st = some (rest, st') → st'.φ → st.φ ∧ (Exs c n fd rest st'.σ f σ' → Exs c n fd sts st.σ f σ') := by
  induction m with
  | zero => intro sts rest st st' h hφ; cases h; exact ⟨hφ, id⟩
  | succ m ih =>
    intro sts rest st st' h hφ
    cases sts with
    | nil => cases h
    | cons s sts =>
      obtain ⟨st1, h1, h⟩ := Option.bind_eq_some_iff.mp h
      have a := ih h hφ
      have b := bS_ok H hK hG hk h1 a.1
      exact ⟨b.1, fun g => Exs.cons b.2 (a.2 g)⟩

/-- what the evaluator stands on -/
structure Bk (c : Cx) (L : Law) where
  H : Lc c L
  K : Frag
  hK : c.K = K
  G : List (Str × AV)
  hG : GOK c G
  Mt : List (Str × Addr)

theorem Bk.run (B : Bk c L) (k m : Nat) (q : List (AV × List AO)) (σ₁ : S) {f : AF} {σ' : S} {sts rest : List Stmt} {st' : St} (h : bSs c n fd L B.K B.G B.Mt false k m sts ⟨σ, q, True⟩ = some (rest, st')) (hφ : st'.φ) (hs : Sub σ₁.vs st'.σ.vs) (ho : st'.σ.os = σ₁.os) (go : Exs c n fd rest σ₁ f σ') (hk : fd.scope.kind = .function := by rfl) : Exs c n fd sts σ f σ' :=
  (bSs_ok B.H B.hK B.hG hk h hφ).2 (go.fewer hs ho)
theorem Bk.ev (B : Bk c L) (k : Nat) (q : List (AV × List AO)) {e : Expr} {v v' : AV} {st' : St} {σ' : S} (h : bE c n fd L B.K B.G B.Mt false k e ⟨σ, q, True⟩ = some (v', st')) (hφ : st'.φ) (hv : v' = v) (ho : st'.σ = σ') (hk : fd.scope.kind = .function := by rfl) : Ev c n fd e σ v σ' := hv ▸ ho ▸ ((bE_ok B.H B.hK B.hG hk _ _ _).get h hφ).2
theorem Bk.tst (B : Bk c L) (k : Nat) (q : List (AV × List AO)) {e : Expr} {v v' : Bool} {st' : St} {σ' : S} (h : bT c n fd L B.K B.G B.Mt false k e ⟨σ, q, True⟩ = some (v', st')) (hφ : st'.φ) (hv : v' = v) (ho : st'.σ = σ') (hk : fd.scope.kind = .function := by rfl) : Tst c n fd e σ v σ' := hv ▸ ho ▸ ((bT_ok B.H B.hK B.hG hk _ _ _).get h hφ).2
theorem Bk.ret (B : Bk c L) (k : Nat) (q : List (AV × List AO)) {e : Expr} {v v' : AV} {st' : St} {os' : List AO} {rest : List Stmt} {pos : Pos} (h : bE c n fd L B.K B.G B.Mt false k e ⟨σ, q, True⟩ = some (v', st')) (hφ : st'.φ) (hv : v' = v) (ho : st'.σ.os = os') (hk : fd.scope.kind = .function := by rfl) : Exs c n fd (.Return (some e) pos :: rest) σ (.ret v) ⟨[], os'⟩ :=
  hv ▸ Exs.less (Exs.out (Ex.ret (B.ev k q h hφ rfl rfl hk)) (by intro e; cases e)) trivial ho
theorem Bk.test (B : Bk c L) (k : Nat) (q : List (AV × List AO)) (z : Bool) {t : Expr} {b o rest : List Stmt} {pos} {f : AF} {z' : Bool} {st' : St} {σ₂ : S} (h : bT c n fd L B.K B.G B.Mt false k t ⟨σ, q, True⟩ = some (z', st')) (hφ : st'.φ) (hz : z' = z) (h1 : Exs c n fd ((bif z then b else o) ++ rest) st'.σ f σ₂) (hk : fd.scope.kind = .function := by rfl) : Exs c n fd (.If t b o pos :: rest) σ f σ₂ :=
  Exs.ite z (B.tst k q h hφ hz rfl hk) h1

/-! the same, items asked -/
theorem Bk.run' (B : Bk c L) (k m : Nat) (q : List (AV × List AO)) (σ₁ : S) {f : AF} {σ' : S} {sts rest : List Stmt} {st' : St} (h : bSs c n fd L B.K B.G B.Mt true k m sts ⟨σ, q, True⟩ = some (rest, st')) (hφ : st'.φ) (hs : Sub σ₁.vs st'.σ.vs) (ho : st'.σ.os = σ₁.os) (go : Exs c n fd rest σ₁ f σ') (hk : fd.scope.kind = .function := by rfl) : Exs c n fd sts σ f σ' :=
  (bSs_ok B.H B.hK B.hG hk h hφ).2 (go.fewer hs ho)
theorem Bk.ev' (B : Bk c L) (k : Nat) (q : List (AV × List AO)) {e : Expr} {v v' : AV} {st' : St} {σ' : S} (h : bE c n fd L B.K B.G B.Mt true k e ⟨σ, q, True⟩ = some (v', st')) (hφ : st'.φ) (hv : v' = v) (ho : st'.σ = σ') (hk : fd.scope.kind = .function := by rfl) : Ev c n fd e σ v σ' := hv ▸ ho ▸ ((bE_ok B.H B.hK B.hG hk _ _ _).get h hφ).2
theorem Bk.tst' (B : Bk c L) (k : Nat) (q : List (AV × List AO)) {e : Expr} {v v' : Bool} {st' : St} {σ' : S} (h : bT c n fd L B.K B.G B.Mt true k e ⟨σ, q, True⟩ = some (v', st')) (hφ : st'.φ) (hv : v' = v) (ho : st'.σ = σ') (hk : fd.scope.kind = .function := by rfl) : Tst c n fd e σ v σ' := hv ▸ ho ▸ ((bT_ok B.H B.hK B.hG hk _ _ _).get h hφ).2
theorem Bk.ret' (B : Bk c L) (k : Nat) (q : List (AV × List AO)) {e : Expr} {v v' : AV} {st' : St} {os' : List AO} {rest : List Stmt} {pos : Pos} (h : bE c n fd L B.K B.G B.Mt true k e ⟨σ, q, True⟩ = some (v', st')) (hφ : st'.φ) (hv : v' = v) (ho : st'.σ.os = os') (hk : fd.scope.kind = .function := by rfl) : Exs c n fd (.Return (some e) pos :: rest) σ (.ret v) ⟨[], os'⟩ :=
  hv ▸ Exs.less (Exs.out (Ex.ret (B.ev' k q h hφ rfl rfl hk)) (by intro e; cases e)) trivial ho
theorem Bk.test' (B : Bk c L) (k : Nat) (q : List (AV × List AO)) (z : Bool) {t : Expr} {b o rest : List Stmt} {pos} {f : AF} {z' : Bool} {st' : St} {σ₂ : S} (h : bT c n fd L B.K B.G B.Mt true k t ⟨σ, q, True⟩ = some (z', st')) (hφ : st'.φ) (hz : z' = z) (h1 : Exs c n fd ((bif z then b else o) ++ rest) st'.σ f σ₂) (hk : fd.scope.kind = .function := by rfl) : Exs c n fd (.If t b o pos :: rest) σ f σ₂ :=
  Exs.ite z (B.tst' k q h hφ hz rfl hk) h1
end
end Mine
end

section
open PySem PySem.W PyProof.Rows PyProof.V PySem.Spec PySem.SeqAt
set_option linter.unusedVariables false
namespace Mine
section
variable {c : Cx} {n m : Nat} {fd : FD} {σ σ₁ σ₂ σ₃ : S} {L : Law} {K : Frag} {os os' os₁ : List AO} {v : AV} {A : Around}

theorem Room.down (h : n ≤ m) (r : Room A m) : Room A n := ⟨r.handled, by have := r.depth; omega, by have := r.units; omega⟩
theorem Op.up {t : List Value → Sem Value} {args : List AV} (h : n ≤ m) (g : Op c n t args os v os') : Op c m t args os v os' := fun A ρ s xs rm => g A ρ s xs (rm.down h)
theorem Lt.ret (H : Lc c L) {x : Str} {body bR : List Stmt} {k b y : Nat} {d : FuncData} {ch : Str} {u : AV} (D : DefAt c L.fR d bR) (ho : σ.os[k]? = some (.x (.citer b))) (hb : σ.os[b]? = some (.x (.meth y)))
    (hc : CodeR c n (.ref L.fR) [.ref y] σ.os (.str ch) os₁) (hk : os₁[k]? = some (.x (.citer b))) (hb₁ : os₁[b]? = some (.x (.meth y))) (hne : ch ≠ "") (hs : Sto fd x (.str ch) ⟨σ.vs, os₁⟩ σ₁) (hx : Exs c (n + 1) fd body σ₁ (.ret u) σ₂) (hkd : fd.scope.kind = .function) :
    Lt c (n + 1) fd x body k σ (.ret u) σ₂ :=
  Lt.turn H D ho hb hc hk hb₁ hne hs hx hkd (fun h => by rcases h with h | h <;> cases h) fun _ => ⟨rfl, rfl⟩
theorem Lt.next (H : Lc c L) {x : Str} {body bR : List Stmt} {k b y : Nat} {d : FuncData} {ch : Str} {f : AF} (D : DefAt c L.fR d bR) (ho : σ.os[k]? = some (.x (.citer b))) (hb : σ.os[b]? = some (.x (.meth y)))
    (hc : CodeR c n (.ref L.fR) [.ref y] σ.os (.str ch) os₁) (hk : os₁[k]? = some (.x (.citer b))) (hb₁ : os₁[b]? = some (.x (.meth y))) (hne : ch ≠ "") (hs : Sto fd x (.str ch) ⟨σ.vs, os₁⟩ σ₁) (hx : Exs c (n + 1) fd body σ₁ .next σ₂) (hkd : fd.scope.kind = .function)
    (go : Lt c (n + 1) fd x body k σ₂ f σ₃) : Lt c (n + 1) fd x body k σ f σ₃ :=
  Lt.turn H D ho hb hc hk hb₁ hne hs hx hkd (fun _ => go) fun h => absurd (.inl rfl) h

/-! ### what objects name -/
noncomputable def RefsLt (m : Nat) (l : List Nat) : Prop := ∀ i ∈ l, i < m
noncomputable def CloP (m : Nat) : List AO → Prop
  | [] => True
  | o :: os => RefsLt m o.refs ∧ CloP m os
theorem CloP.all {m : Nat} : ∀ {os : List AO}, CloP m os → ∀ o ∈ os, ∀ i ∈ o.refs, i < m
  | _ :: _, h, o, ho => by
    rcases List.mem_cons.mp ho with rfl | ho
    · exact h.1
    · exact CloP.all h.2 o ho
theorem refsLt_of {m : Nat} {l : List Nat} (h : l.all (fun i => Nat.blt i m) = true) : RefsLt m l := fun i hi => by
  have := List.all_eq_true.mp h i hi
  exact Nat.le_of_ble_eq_true this
theorem AVs.refs_strs : ∀ ss : List Str, AVs.refs (ss.map .str) = []
  | [] => rfl
  | _ :: ss => AVs.refs_strs ss
theorem AVs.refs_ints : ∀ ss : List Int, AVs.refs (ss.map .int) = []
  | [] => rfl
  | _ :: ss => AVs.refs_ints ss
theorem refsLt_strs {m : Nat} {ss : List Str} : RefsLt m (AO.list (ss.map .str)).refs := fun i hi => by
  rw [show (AO.list (ss.map .str)).refs = [] from AVs.refs_strs ss] at hi; cases hi
theorem refsLt_ints {m : Nat} {ss : List Int} : RefsLt m (AO.list (ss.map .int)).refs := fun i hi => by
  rw [show (AO.list (ss.map .int)).refs = [] from AVs.refs_ints ss] at hi; cases hi
theorem ren_strs (r : Nat → Nat) (ss : List Str) : (ss.map AV.str).map (AV.ren r) = ss.map .str := by rw [List.map_map]; rfl
theorem ren_ints (r : Nat → Nat) (ss : List Int) : (ss.map AV.int).map (AV.ren r) = ss.map .int := by rw [List.map_map]; rfl
end
end Mine
end

section
open PySem PySem.W PyProof.Rows PyProof.V PySem.Spec PySem.SeqAt Builtin
set_option linter.unusedVariables false
set_option maxRecDepth 100000
namespace Mine
section
variable {c : Cx} {n : Nat} {fd : FD} {σ σ' σ₁ σ₂ σ₃ : S} {X : List Addr} {A : Around} {ρ : List Pl} {s : Shared} {os os' os₁ : List AO} {L : Law} {E : Value → Shared → Prop} {v v' : AV}

/-- a def that falls off its end -/
theorem CodeR.of_def0 {a : Addr} {d : FuncData} {body : List Stmt} {ps : List Str} {args : List AV} (D : DefAt c a d body)
    (hcell : ∀ x ∈ d.scope.names, x.2 ≠ .cell) (hbind : ∀ xs : List Value, xs.length = args.length → bindArgs d ⟨xs, []⟩ = Pure.pure (ps.zip xs)) (hloc : ∀ x ∈ ps, d.scope.names.lookup x = some .local)
    (h : Exs c n ⟨d.scope, [], Option.none⟩ body ⟨(ps.zip args).reverse, os⟩ .next σ') (hb : Back os .none σ'.os .none os') : CodeR c (n + 1) (.ref a) args os .none os' := fun A ρ s xs R rm r hx hq => by
  obtain ⟨o, ho, hd⟩ := D.there
  have hlen := hx.length
  refine codeAny_size ?_
  refine codeAny_call_def (binds := ps.zip xs) rm.lt (r.keep _ _ ho) hd (c.nolimit.keeps r.keep) (D.code.keeps r.keep) D.body (BindsTo.of_eq (hbind xs hlen.symm)) hcell (fun x hx' => hloc x.1 (List.of_mem_zip (a := x.1) (b := x.2) hx').1) (fun h₀ hns hk => ?_) D.co D.gen D.kind
  have hL : ∀ a o, s.heap.get? a = some o → a ≠ s.heap.objs.size := fun a o e he => by rw [he] at e; exact absurd (Heap.lt_size e) (Nat.lt_irrefl _)
  have fresh : c.hb.get? s.heap.objs.size = Option.none := by
    cases e : c.hb.get? s.heap.objs.size with
    | none => rfl
    | some o => exact absurd rfl (hL _ _ (r.keep _ _ e))
  have r0 : Rel c [s.heap.objs.size] os ρ h₀ := by
    refine ⟨r.objs.loc (fun b o e => hk b o (r.keep b o e)) fun a _ o e => hk a o e, ?_, fun b o e => hk b o (r.keep b o e), fun a ha => ?_, fun a ha => ?_⟩
    · refine List.nodup_cons.mpr ⟨fun hm => ?_, by simpa using r.nodup⟩
      exact absurd (r.live _ (by simpa using hm)) (Nat.lt_irrefl _)
    · rcases List.mem_cons.mp ha with rfl | ha
      · exact fresh
      · exact r.fresh a (by simpa using ha)
    · rcases List.mem_cons.mp ha with rfl | ha
      · exact hns.lt
      · have := r.live a (by simpa using ha)
        exact Nat.lt_trans this hns.lt
  have i0 : In c ⟨d.scope, [], Option.none⟩ ⟨(ps.zip args).reverse, os⟩ (callEnv d s.heap.objs.size a) ρ h₀ :=
    ⟨r0, rfl, D.glob, D.blt, (fun _ e => by cases e), fun x i e => (by cases e), _, hns, fun x u e => KV.lookup (KV.reverse (KV.zip hx)) e⟩
  refine (h (callEnv d s.heap.objs.size a) _ ρ { s with heap := h₀, toks := s.toks + (ps.zip xs).length } rm.deeper i0) _ _ fun f h₁ tk₁ ρ₁ q₁ p₁ => ?_
  obtain ⟨i₁, rfl⟩ := p₁
  obtain ⟨new, rfl, hnew⟩ := q₁.grow
  intro sz
  obtain ⟨nw, g1, g2, g3⟩ := hb.run (h := s.heap) (X := []) r.objs.length i₁.rel.none (v := .none) (x := .none) rfl (fun a ha => Nat.le_trans (Nat.le_of_lt hns.lt) (hnew a ha))
  refine hq .none h₁ tk₁ (ρ ++ nw) ⟨⟨_, rfl, g3⟩, fun b ob e hb' => ?_, sz⟩ g1 g2
  exact q₁.keep b ob (hk b ob e) fun hm => by
    rcases List.mem_cons.mp hm with rfl | hm
    · exact hL _ _ e rfl
    · exact hb' (by simpa using hm)
/-- a def with a starred last parameter -/
theorem CodeR.of_var {a : Addr} {d : FuncData} {body : List Stmt} {p q : Str} {x0 : AV} {args : List AV} (D : DefAt c a d body)
    (hcell : ∀ x ∈ d.scope.names, x.2 ≠ .cell) (hbind : ∀ (x : Value) (xs : List Value), xs.length = args.length → bindArgs d ⟨x :: xs, []⟩ = (newTuple xs >>= fun t => Pure.pure [(p, x), (q, t)])) (hp : d.scope.names.lookup p = some .local) (hq' : d.scope.names.lookup q = some .local) (hz : args.length ≤ sizeLine)
    (h : Exs c n ⟨d.scope, [], Option.none⟩ body ⟨[(q, .ref os.length), (p, x0)], os ++ [.tup args]⟩ (.ret v) σ') (hb : Back os v σ'.os v' os') : CodeR c (n + 1) (.ref a) (x0 :: args) os v' os' := fun A ρ s xs R rm r hx hq => by
  obtain ⟨o, ho, hd⟩ := D.there
  match xs, hx with
  | x :: xs, ⟨hx0, hxs⟩ =>
  have hlen := hxs.length
  refine codeAny_size ?_
  refine codeAny_call_function rm.lt (r.keep _ _ ho) hd D.co D.gen D.body (D.code.keeps r.keep) ?_
  rw [hbind x xs hlen.symm]
  refine wpAny_bind (wpAny_newObj_type (wpAny_pure ?_) (by show xs.toArray.size ≤ sizeLine; rw [List.size_toArray, ← hlen]; exact hz))
  have r1 := Rel.newTup (k := 0) r hxs
  have q1 := Reach.alloc ρ s.heap { cls := .type "tuple", data := .seq xs.toArray }
  have hv1 : VR (ρ ++ [⟨s.heap.objs.size, []⟩]) (.ref os.length) (.ref s.heap.objs.size) := VR.new r
  refine wpAny_newFunctionEnv hcell (fun y hy => ?_) (fun h₀ hns hsb₀ => ⟨(c.nolimit.keeps r1.keep).fresh _ hsb₀, codeAny_func ?_⟩) D.kind
  · rcases List.mem_cons.mp hy with rfl | hy
    · exact hp
    · rcases List.mem_cons.mp hy with rfl | hy
      · exact hq'
      · cases hy
  dsimp only at hns hsb₀ hv1 ⊢
  generalize hh1 : s.heap.push { cls := .type "tuple", data := .seq xs.toArray } = h1 at *
  have hsz : h1.objs.size = s.heap.objs.size + 1 := by rw [← hh1, Heap.size_push]
  have hk : ∀ b o, h1.get? b = some o → h₀.get? b = some o := fun b o e => hsb₀.extBut b o (Nat.ne_of_lt (Heap.lt_size e)) (Heap.get?_push_of_some _ e)
  have hk0 : ∀ b o, s.heap.get? b = some o → h1.get? b = some o := fun b o e => by rw [← hh1]; exact Heap.get?_push_of_some _ e
  have hL : ∀ a o, h1.get? a = some o → a ≠ h1.objs.size := fun a o e he => by rw [he] at e; exact absurd (Heap.lt_size e) (Nat.lt_irrefl _)
  have fresh : c.hb.get? h1.objs.size = Option.none := by
    cases e : c.hb.get? h1.objs.size with
    | none => rfl
    | some o => exact absurd rfl (hL _ _ (r1.keep _ _ e))
  have r0 : Rel c [h1.objs.size] (os ++ [.tup args]) (ρ ++ [⟨s.heap.objs.size, []⟩]) h₀ := by
    refine ⟨r1.objs.loc (fun b o e => hk b o (r1.keep b o e)) fun a _ o e => hk a o e, ?_, fun b o e => hk b o (r1.keep b o e), fun a ha => ?_, fun a ha => ?_⟩
    · refine List.nodup_cons.mpr ⟨fun hm => ?_, by simpa using r1.nodup⟩
      exact absurd (r1.live _ (by simpa using hm)) (Nat.lt_irrefl _)
    · rcases List.mem_cons.mp ha with rfl | ha
      · exact fresh
      · exact r1.fresh a (by simpa using ha)
    · rcases List.mem_cons.mp ha with rfl | ha
      · exact hns.lt
      · have := r1.live a (by simpa using ha)
        exact Nat.lt_trans this hns.lt
  have i0 : In c ⟨d.scope, [], Option.none⟩ ⟨[(q, .ref os.length), (p, x0)], os ++ [.tup args]⟩ (callEnv d h1.objs.size a) (ρ ++ [⟨s.heap.objs.size, []⟩]) h₀ :=
    ⟨r0, rfl, D.glob, D.blt, (fun _ e => by cases e), fun x i e => (by cases e), _, hns, fun y u e => KV.lookup (ρ := ρ ++ [⟨s.heap.objs.size, []⟩]) (xs := [(q, .ref os.length), (p, x0)]) (vs := [(p, x), (q, .ref s.heap.objs.size)].reverse) (show KV (ρ ++ [⟨s.heap.objs.size, []⟩]) [(q, .ref os.length), (p, x0)] [(q, .ref s.heap.objs.size), (p, x)] from ⟨rfl, hv1, rfl, hx0.mono _, trivial⟩) e⟩
  refine (h (callEnv d h1.objs.size a) _ (ρ ++ [⟨s.heap.objs.size, []⟩]) { s with heap := h₀, toks := s.toks + 2 } rm.deeper i0) _ _ fun f h₁ tk₁ ρ₁ q₁ p₁ => ?_
  obtain ⟨i₁, y, rfl, hy⟩ := p₁
  obtain ⟨new, rfl, hnew⟩ := q₁.grow
  have hs0 : s.heap.objs.size ≤ h₀.objs.size := Nat.le_of_lt (Nat.lt_of_le_of_lt (Nat.le_of_lt (show s.heap.objs.size < h1.objs.size from hsz.symm ▸ Nat.lt_succ_self _)) hns.lt)
  intro sz
  rw [List.append_assoc] at hy
  have i₁r := i₁.rel.none
  rw [List.append_assoc] at i₁r
  obtain ⟨nw, g1, g2, g3⟩ := hb.run (h := s.heap) (X := []) r.objs.length i₁r hy (fun a ha => by
    rw [foot_append] at ha
    rcases List.mem_append.mp ha with ha | ha
    · rcases List.mem_cons.mp (show a ∈ [s.heap.objs.size] from ha) with rfl | ha
      · exact Nat.le_refl _
      · cases ha
    · exact Nat.le_trans hs0 (hnew a ha))
  refine hq y h₁ tk₁ (ρ ++ nw) ⟨⟨_, rfl, g3⟩, fun b ob e hb' => ?_, sz⟩ g1 g2
  refine q₁.keep b ob (hk b ob (hk0 b ob e)) fun hm => ?_
  have hbl := Heap.lt_size e
  rcases List.mem_cons.mp hm with rfl | hm
  · exact absurd hbl (Nat.not_lt.mpr (hsz ▸ Nat.le_succ _))
  · replace hm : b ∈ foot (ρ ++ [⟨s.heap.objs.size, []⟩]) := hm
    rw [foot_append] at hm
    rcases List.mem_append.mp hm with hm | hm
    · exact hb' hm
    · rcases List.mem_cons.mp (show b ∈ [s.heap.objs.size] from hm) with rfl | hm
      · exact absurd hbl (Nat.lt_irrefl _)
      · cases hm
end
end Mine
end

section
open PySem PySem.W PyProof.Rows PyProof.V PySem.Spec PySem.SeqAt
set_option linter.unusedVariables false
namespace Mine
section
variable {c : Cx} {n : Nat}

end
end Mine
end

section
open PySem PySem.W PyProof.Rows PyProof.V PySem.Spec PySem.SeqAt
set_option linter.unusedVariables false
namespace Mine
section
variable {c : Cx} {n : Nat} {fd : FD} {σ σ₁ σ₂ σ₃ : S}

theorem Lp.loop {x : Str} {body : List Stmt} {src : Src} (N : Nat) (Sf : Nat → S) (item : Nat → AV) (hitem : ∀ k, k < N → src.item (Sf k).os k = some (item k)) (hdone : src.item (Sf N).os N = none) (ok : src.Ok (Sf N).os)
    (hl : fd.scope.names.lookup x = some .local) (hk : fd.scope.kind = .function) (turn : ∀ k, k < N → Exs c n fd body ⟨put x (item k) (Sf k).vs, (Sf k).os⟩ .next (Sf (k + 1))) : Lp c n fd x body src 0 (Sf 0) .next (Sf N) := by
  have key : ∀ m k, k + m = N → Lp c n fd x body src k (Sf k) .next (Sf N) := by
    intro m
    induction m with
    | zero => intro k hk0; obtain rfl : k = N := hk0; exact Lp.done hdone ok
    | succ m ih => intro k hkm; exact Lp.step (hitem k (by omega)) (.loc hl) (turn k (by omega)) (ih (k + 1) (by omega)) hk
  exact key N 0 (by omega)

theorem Cp.fewer {elt : Expr} {gens : List Comprehension} {scope : Scope} {pos : Pos} {d : Nat} {src : Src} {k : Nat} {acc acc' : List AV} (hs : Sub σ₁.vs σ.vs) (ho : σ.os = σ₁.os) (go : Cp c n fd elt gens scope pos d src k σ₁ acc σ₂ acc') : Cp c n fd elt gens scope pos d src k σ acc σ₂ acc' :=
  fun env A ρ s it al vs R rm i => go env A ρ s it al vs R rm (i.fewer hs ho)

theorem Cp.loop {elt : Expr} {gens : List Comprehension} {scope : Scope} {pos : Pos} {d : Nat} {src : Src} {x : Str} {px : Pos} {iter : Expr} (N : Nat) (osf : Nat → List AO) (item u : Nat → AV) (acc : List AV) (hitem : ∀ k, k < N → src.item (osf k) k = some (item k)) (hdone : src.item (osf N) N = none) (ok : src.Ok (osf N))
    (hl : fd.scope.names.lookup x = some .local) (turn : ∀ k, k < N → ∃ vs', Ev c n fd elt ⟨[(x, item k)], osf k⟩ (u k) ⟨vs', osf (k + 1)⟩) (hz : acc.length + N ≤ sizeLine)
    (hg : gens[d]? = some ⟨.Name x px, iter, [], 0⟩) (hn : gens[d + 1]? = none) (hk : fd.scope.kind = .function := by rfl) : Cp c n fd elt gens scope pos d src 0 ⟨[], osf 0⟩ acc ⟨[], osf N⟩ (acc ++ (List.range N).map u) := by
  have key : ∀ m k, k + m = N → Cp c n fd elt gens scope pos d src k ⟨[], osf k⟩ (acc ++ (List.range k).map u) ⟨[], osf N⟩ (acc ++ (List.range N).map u) := by
    intro m
    induction m with
    | zero => intro k hk0; obtain rfl : k = N := hk0; exact Cp.done hg hdone ok
    | succ m ih =>
      intro k hkm
      obtain ⟨vs', he⟩ := turn k (by omega)
      have := ih (k + 1) (by omega)
      rw [List.range_succ, List.map_append, ← List.append_assoc] at this
      exact Cp.step (hitem k (by omega)) (.loc hl) he (Cp.fewer (σ₁ := ⟨[], osf (k + 1)⟩) trivial rfl this) (by rw [List.length_append, List.length_map, List.length_range]; omega) hg hn hk
  have := key N 0 (by omega)
  simpa using this

theorem item_r {os : List AO} {lo hi : Int} {k : Nat} (h : lo + k < hi) : (Src.rng lo hi).item os k = some (.int (lo + k)) := if_pos h
theorem item_rE {os : List AO} {lo hi : Int} {k : Nat} (h : hi ≤ lo + k) : (Src.rng lo hi).item os k = none := if_neg (by omega)
theorem item_rng {os : List AO} {N k : Nat} (h : k < N) : (Src.rng 0 (N : Int)).item os k = some (.int k) := by
  rw [item_r (by omega), Int.zero_add]
theorem item_rngE {os : List AO} {N : Nat} : (Src.rng 0 (N : Int)).item os N = none := item_rE (by omega)
end
end Mine
end

section
open PySem PySem.StrLaws Builtin Builtin.Str
set_option linter.unusedVariables false
namespace Mine

/-! ## texts as lists -/
noncomputable def T (l : List Nat) : Str := ⟨l.toArray⟩
theorem T_len (l : List Nat) : (T l).length = l.length := by simp [T, Str.length]
theorem T_list (l : List Nat) : (T l).cps.toList = l := rfl
theorem T_app (a b : List Nat) : T a ++ T b = T (a ++ b) := Str.ext' (by rw [Str.cps_append]; simp [T])
theorem T_inj {a b : List Nat} (h : T a = T b) : a = b := by have := congrArg (fun x : Str => x.cps.toList) h; simpa [T] using this
theorem T_eq (x : Str) : x = T x.cps.toList := Str.ext' (by simp [T])
theorem T_beq (a b : List Nat) : (T a == T b) = (a == b) := by
  by_cases h : a = b
  · subst h; simp
  · have : T a ≠ T b := fun e => h (T_inj e)
    rw [beq_eq_false_iff_ne.mpr this, beq_eq_false_iff_ne.mpr h]

noncomputable def occR (s sub : Str) (hi lim : Nat) : List Nat → Nat → Nat → List Nat
  | [], _, _ => []
  | i :: r, k, f => if ((k < lim ∧ f ≤ i) ∧ i + sub.length ≤ hi) ∧ subAt s sub i = true then i :: occR s sub hi lim r (k + 1) (i + sub.length) else occR s sub hi lim r k f

theorem occ_fold (s sub : Str) (hi lim : Nat) : ∀ (l : List Nat) (st : Array Nat) (f : Nat), (forIn (m := Id) l (st, f) (occBody s sub hi lim)).run.fst.toList = st.toList ++ occR s sub hi lim l st.size f
  | [], st, f => by simp [occR]
  | i :: r, st, f => by
    rw [List.forIn_cons]
    unfold occBody occR
    by_cases h : ((st.size < lim ∧ f ≤ i) ∧ i + sub.length ≤ hi) ∧ subAt s sub i = true
    · rw [if_pos h, if_pos h]
      have := occ_fold s sub hi lim r (st.push i) (i + sub.length)
      rw [Array.size_push] at this
      exact this.trans (by simp)
    · rw [if_neg h, if_neg h]
      exact occ_fold s sub hi lim r st f
theorem occ_R (s sub : Str) (lo hi lim : Nat) : occurrences s sub lo hi lim = occR s sub hi lim (List.range' lo (hi + 1 - lo)) 0 lo := by
  rw [occ_eq, occ_fold]; simp

theorem pre_iff (p l : List Nat) : p.isPrefixOf l = true ↔ l.take p.length = p := by
  rw [List.isPrefixOf_iff_prefix, List.prefix_iff_eq_take]; exact eq_comm
theorem at_iff (l p : List Nat) (i : Nat) (hi : i ≤ l.length) : (i + (T p).length ≤ l.length ∧ subAt (T l) (T p) i = true) ↔ p.isPrefixOf (l.drop i) = true := by
  rw [pre_iff, subAt_eq, T_list, T_list, T_len, beq_iff_eq]
  constructor
  · exact fun h => h.2
  · intro h
    refine ⟨?_, h⟩
    have := congrArg List.length h
    simp at this; omega

/-- the places of p, each behind the one before -/
noncomputable def occS (p : List Nat) : List Nat → Nat → Nat → List Nat
  | [], _, _ => []
  | x :: t, pos, 0 => if p.isPrefixOf (x :: t) then pos :: occS p t (pos + 1) (p.length - 1) else occS p t (pos + 1) 0
  | _ :: t, pos, k + 1 => occS p t (pos + 1) k

theorem drop_cons {l : List Nat} {x : Nat} {t : List Nat} {pos : Nat} (h : l.drop pos = x :: t) : pos < l.length ∧ l.drop (pos + 1) = t := by
  constructor
  · by_cases hp : pos < l.length
    · exact hp
    · rw [List.drop_eq_nil_of_le (by omega)] at h; cases h
  · have := congrArg (List.drop 1) h
    rw [List.drop_drop] at this; simpa using this

theorem occR_S (l p : List Nat) (hp : p ≠ []) (lim : Nat) : ∀ (r : List Nat) (pos k f : Nat), l.drop pos = r → pos ≤ l.length → k + r.length < lim → f ≤ pos + (f - pos) →
    occR (T l) (T p) l.length lim (List.range' pos (r.length + 1)) k f = occS p r pos (f - pos)
  | [], pos, k, f, hr, hpos, hk, hf => by
    have : pos = l.length := by
      have := congrArg List.length hr; simp at this; omega
    subst this
    have hn : ¬ (((k < lim ∧ f ≤ l.length) ∧ l.length + (T p).length ≤ l.length) ∧ subAt (T l) (T p) l.length = true) := fun h => by
      have := h.1.2; rw [T_len] at this
      have : p.length = 0 := by omega
      exact hp (List.length_eq_zero_iff.mp this)
    show occR _ _ _ _ [l.length] k f = []
    simp only [occR]
    rw [if_neg hn]
  | x :: t, pos, k, f, hr, hpos, hk, hf => by
    obtain ⟨h1, h2⟩ := drop_cons hr
    simp only [List.length_cons] at hk
    show occR _ _ _ _ (List.range' pos ((t.length + 1) + 1)) k f = _
    rw [List.range'_succ]
    unfold occR
    by_cases hfp : f ≤ pos
    · rw [show f - pos = 0 by omega]
      unfold occS
      have key := at_iff l p pos hpos
      rw [hr] at key
      by_cases hpre : p.isPrefixOf (x :: t) = true
      · rw [if_pos hpre, if_pos ⟨⟨⟨by omega, hfp⟩, (key.mpr hpre).1⟩, (key.mpr hpre).2⟩]
        have := occR_S l p hp lim t (pos + 1) (k + 1) (pos + (T p).length) h2 h1 (by omega) (by omega)
        rw [this, T_len, show pos + p.length - (pos + 1) = p.length - 1 by omega]
      · rw [if_neg hpre, if_neg (fun h => hpre (key.mp ⟨h.1.2, h.2⟩))]
        have := occR_S l p hp lim t (pos + 1) k f h2 h1 (by omega) (by omega)
        rw [this, show f - (pos + 1) = 0 by omega]
    · rw [if_neg (fun h => hfp h.1.1.2)]
      obtain ⟨j, hj⟩ : ∃ j, f - pos = j + 1 := ⟨f - pos - 1, by omega⟩
      rw [hj]
      unfold occS
      have := occR_S l p hp lim t (pos + 1) k f h2 h1 (by omega) (by omega)
      rw [this, show f - (pos + 1) = j by omega]

theorem occ_S (l p : List Nat) (hp : p ≠ []) : occurrences (T l) (T p) 0 (T l).length ((T l).length + 1) = occS p l 0 0 := by
  rw [occ_R, T_len, Nat.sub_zero]
  exact occR_S l p hp (l.length + 1) l 0 0 0 rfl (Nat.zero_le _) (by omega) (by omega)

/-! ### split and join: a text put in the place of another -/
noncomputable def repl (p q : List Nat) : List Nat → Nat → List Nat
  | [], _ => []
  | x :: t, 0 => if p.isPrefixOf (x :: t) then q ++ repl p q t (p.length - 1) else x :: repl p q t 0
  | _ :: t, k + 1 => repl p q t k

theorem sub_T (l : List Nat) (i j : Nat) : strSub (T l) i j = T ((l.drop i).take (j - i)) := by
  apply Str.ext'; apply Array.toList_inj.mp
  rw [strSub_toList]; rfl
theorem join_two (sep x : Str) {r : List Str} (h : ∃ p t, r = p :: t) : Str.join sep (x :: r) = x ++ sep ++ Str.join sep r := by
  obtain ⟨p, t, rfl⟩ := h; rfl

theorem parts_repl (l p q : List Nat) (hp : p ≠ []) : ∀ (r : List Nat) (pos a k : Nat), l.drop pos = r → pos ≤ l.length → a ≤ l.length → (k = 0 → a ≤ pos) → (0 < k → a = pos + k) →
    Str.join (T q) (partsFrom (T l) p.length a (occS p r pos k)) = T ((l.drop a).take (pos - a) ++ repl p q r k)
  | [], pos, a, k, hr, hpos, ha, h0, h1 => by
    have hl : pos = l.length := by
      have := congrArg List.length hr; simp at this; omega
    show Str.join (T q) [strSub (T l) a (T l).length] = _
    show strSub (T l) a (T l).length = _
    rw [sub_T, T_len, hl]
    simp [repl]
  | x :: t, pos, a, 0, hr, hpos, ha, h0, h1 => by
    obtain ⟨g1, g2⟩ := drop_cons hr
    have ha' := h0 rfl
    unfold occS repl
    by_cases hpre : p.isPrefixOf (x :: t) = true
    · rw [if_pos hpre, if_pos hpre]
      have hlen : 0 < p.length := List.length_pos_iff.mpr hp
      have hfit : pos + p.length ≤ l.length := by
        have key := (at_iff l p pos hpos).mpr (by rw [hr]; exact hpre)
        have := key.1; rwa [T_len] at this
      show Str.join (T q) (strSub (T l) a pos :: partsFrom (T l) p.length (pos + p.length) _) = _
      rw [join_two _ _ (partsFrom_ne _ _ _ _), parts_repl l p q hp t (pos + 1) (pos + p.length) (p.length - 1) g2 g1 hfit (by omega) (by omega), sub_T,
        show pos + 1 - (pos + p.length) = 0 by omega, T_app, T_app]
      simp
    · rw [if_neg hpre, if_neg hpre, parts_repl l p q hp t (pos + 1) a 0 g2 g1 ha (by omega) (by omega)]
      have : (l.drop a).take (pos + 1 - a) = (l.drop a).take (pos - a) ++ [x] := by
        rw [show pos + 1 - a = (pos - a) + 1 by omega, List.take_add_one]
        congr 1
        rw [List.getElem?_drop, show a + (pos - a) = pos by omega]
        have := congrArg List.head? hr
        rw [List.head?_drop] at this
        rw [this]; rfl
      rw [this]; simp
  | x :: t, pos, a, k + 1, hr, hpos, ha, h0, h1 => by
    obtain ⟨g1, g2⟩ := drop_cons hr
    have ha' := h1 (by omega)
    unfold occS repl
    rw [parts_repl l p q hp t (pos + 1) a k g2 g1 ha (by omega) (by omega)]
    rw [show pos + 1 - a = 0 by omega, show pos - a = 0 by omega]

theorem split_parts (x y : Str) (hy : y.length ≠ 0) : Txt.split x y = partsBetween x (occurrences x y 0 x.length (x.length + 1)) y.length := by
  unfold Txt.split
  split
  · rename_i h
    rw [PySem.W.occ_nil_of_no x y, PySem.W.parts_nil]
    intro i hi
    cases e : subAt x y i with
    | false => rfl
    | true =>
      have h1 := PySem.W.subAt_le x y e
      have h2 := PySem.W.kind_le x y e
      simp only [Bool.or_eq_true, decide_eq_true_eq] at h
      omega
  · split
    · rename_i h
      rw [List.isEmpty_iff.mp h, PySem.W.parts_nil]
    · rfl

theorem join_split (l p q : List Nat) (hp : p ≠ []) : Txt.join (T q) (Txt.split (T l) (T p)) = T (repl p q l 0) := by
  have hl : (T p).length ≠ 0 := by rw [T_len]; exact fun h => hp (List.length_eq_zero_iff.mp h)
  rw [split_parts _ _ hl, occ_S l p hp]
  show Builtin.Str.glued _ _ = _
  rw [glued_eq_join, partsBetween_eq, T_len, parts_repl l p q hp l 0 0 0 rfl (Nat.zero_le _) (Nat.zero_le _) (fun _ => Nat.le_refl _) (by omega)]
  simp
end Mine
end

section
open PySem PySem.StrLaws Builtin Builtin.Str
set_option linter.unusedVariables false
namespace Mine

/-! ### find -/
/-- where p stands first -/
noncomputable def fnd (p : List Nat) : List Nat → Nat → Option Nat
  | [], pos => if p = [] then some pos else none
  | x :: t, pos => if p.isPrefixOf (x :: t) then some pos else fnd p t (pos + 1)

theorem occR_one (s sub : Str) (hi : Nat) : ∀ (r : List Nat) (k f : Nat), 0 < k → occR s sub hi 1 r k f = []
  | [], _, _, _ => rfl
  | i :: r, k, f, h => by
    unfold occR
    rw [if_neg (fun c => by have := c.1.1.1; omega)]
    exact occR_one s sub hi r k f h

theorem occR_fnd (l p : List Nat) : ∀ (r : List Nat) (pos : Nat), l.drop pos = r → pos ≤ l.length → ∀ f, f ≤ pos →
    occR (T l) (T p) l.length 1 (List.range' pos (r.length + 1)) 0 f = (fnd p r pos).toList
  | [], pos, hr, hpos, f, hf => by
    have : pos = l.length := by
      have := congrArg List.length hr; simp at this; omega
    subst this
    have key := at_iff l p l.length (Nat.le_refl _)
    rw [hr] at key
    show occR _ _ _ _ [l.length] 0 f = _
    unfold fnd
    simp only [occR]
    by_cases hp : p = []
    · subst hp
      rw [if_pos rfl, if_pos ⟨⟨⟨by omega, hf⟩, (key.mpr rfl).1⟩, (key.mpr rfl).2⟩]; rfl
    · rw [if_neg hp, if_neg]
      · rfl
      · intro h
        have := key.mp ⟨h.1.2, h.2⟩
        cases p with
        | nil => exact hp rfl
        | cons a b => cases this
  | x :: t, pos, hr, hpos, f, hf => by
    obtain ⟨h1, h2⟩ := drop_cons hr
    have key := at_iff l p pos hpos
    rw [hr] at key
    show occR _ _ _ _ (List.range' pos ((t.length + 1) + 1)) 0 f = _
    rw [List.range'_succ]
    unfold occR fnd
    by_cases hpre : p.isPrefixOf (x :: t) = true
    · rw [if_pos hpre, if_pos ⟨⟨⟨by omega, hf⟩, (key.mpr hpre).1⟩, (key.mpr hpre).2⟩, occR_one _ _ _ _ _ _ (by omega)]; rfl
    · rw [if_neg hpre, if_neg (fun h => hpre (key.mp ⟨h.1.2, h.2⟩))]
      exact occR_fnd l p t (pos + 1) h2 h1 f (by omega)

theorem find4_T (l p : List Nat) (pos : Nat) (h : pos ≤ l.length) : find4 (T l) (T p) pos (T l).length = match fnd p (l.drop pos) pos with | some k => (k : Int) | none => -1 := by
  unfold find4
  rw [occ_R, T_len, Nat.min_self]
  have := occR_fnd l p (l.drop pos) pos rfl h pos (Nat.le_refl _)
  rw [List.length_drop] at this
  rw [show l.length + 1 - pos = l.length - pos + 1 by omega, this]
  cases fnd p (l.drop pos) pos <;> rfl
theorem fnd_nil : ∀ (l : List Nat) (pos : Nat), fnd [] l pos = some pos
  | [], _ => rfl
  | _ :: _, _ => rfl
theorem fnd_le (p : List Nat) : ∀ (l : List Nat) (pos k : Nat), fnd p l pos = some k → pos ≤ k ∧ k + p.length ≤ pos + l.length
  | [], pos, k, h => by
    unfold fnd at h
    split at h
    · rename_i hp; subst hp; cases h; simp
    · cases h
  | x :: t, pos, k, h => by
    unfold fnd at h
    split at h
    · rename_i hp
      cases h
      have := (List.isPrefixOf_iff_prefix.mp hp).length_le
      simp at this ⊢; exact this
    · have := fnd_le p t (pos + 1) k h
      simp; omega

/-! ### ...p... -/
noncomputable def dots (p : List Nat) : List Nat := [46, 46, 46] ++ p ++ [46, 46, 46]
theorem occ_dots2 (p : List Nat) (pos : Nat) (hp : 46 ∉ p) : occS [46, 46, 46] (p ++ [46, 46, 46]) pos 0 = [pos + p.length] := by
  induction p generalizing pos with
  | nil => show occS [46, 46, 46] [46, 46, 46] pos 0 = _; simp [occS]
  | cons x t ih =>
    have hx : x ≠ 46 := fun e => hp (e ▸ List.mem_cons_self)
    show occS [46, 46, 46] (x :: (t ++ [46, 46, 46])) pos 0 = _
    have hpre : ([46, 46, 46] : List Nat).isPrefixOf (x :: (t ++ [46, 46, 46])) = false := by
      simp [List.isPrefixOf]; intro e; exact absurd e.symm hx
    unfold occS
    rw [hpre, if_neg (by decide), ih (pos + 1) fun h => hp (List.mem_cons_of_mem _ h)]
    simp; omega
theorem occ_dots (p : List Nat) (hp : 46 ∉ p) : occS [46, 46, 46] (dots p) 0 0 = [0, 3 + p.length] := by
  show occS [46, 46, 46] (46 :: 46 :: 46 :: (p ++ [46, 46, 46])) 0 0 = _
  unfold occS
  rw [if_pos (by simp [List.isPrefixOf])]
  show 0 :: occS [46, 46, 46] (46 :: 46 :: (p ++ [46, 46, 46])) 1 2 = _
  unfold occS
  unfold occS
  rw [occ_dots2 p _ hp]
theorem T_dot3 : (Str.ofString "...") = T [46, 46, 46] := by decide +kernel
theorem T_nil : (Str.ofString "") = T [] := by decide +kernel
theorem dots_in (p : List Nat) (hp : 46 ∉ p) : inS (T (dots p)) "..." = true := by
  unfold inS
  rw [T_dot3, found_iff]
  refine ⟨0, ?_⟩
  have := at_iff (dots p) [46, 46, 46] 0 (Nat.zero_le _)
  rw [T_len (dots p)]
  exact this.mpr (by simp [dots, List.isPrefixOf])
theorem dots_split (p : List Nat) (hp : 46 ∉ p) : Txt.split (T (dots p)) "..." = [Str.ofString "", T p, Str.ofString ""] := by
  rw [T_dot3, T_nil, split_parts _ _ (by rw [T_len]; decide), occ_S _ _ (by decide), occ_dots p hp, partsBetween_eq]
  show [strSub (T (dots p)) 0 0, strSub (T (dots p)) (0 + (T [46, 46, 46]).length) (3 + p.length), strSub (T (dots p)) (3 + p.length + (T [46, 46, 46]).length) (T (dots p)).length] = _
  rw [sub_T, sub_T, sub_T, T_len, T_len]
  congr 1
  · congr 1
    · congr 1
      simp [dots]
    · congr 1
      · congr 1
        simp [dots]; omega
theorem dots_parts (p : List Nat) (hp : 46 ∉ p) : (partsBetween (T (dots p)) (occurrences (T (dots p)) "..." 0 (T (dots p)).length ((T (dots p)).length + 1)) 3).length = 3 := by
  rw [T_dot3, occ_S _ _ (by decide), occ_dots p hp, partsBetween_eq]; rfl

/-! ### counts, membership -/
theorem occS_one (c : Nat) : ∀ (l : List Nat) (pos : Nat), (occS [c] l pos 0).length = l.count c
  | [], _ => rfl
  | x :: t, pos => by
    unfold occS
    rw [List.count_cons]
    by_cases h : x = c
    · subst h
      rw [if_pos (by simp [List.isPrefixOf])]
      show (occS [x] t (pos + 1) 0).length + 1 = _
      rw [occS_one x t]; simp
    · have h1 : ([c] : List Nat).isPrefixOf (x :: t) = false := by simp [List.isPrefixOf]; exact fun e => h e.symm
      have h2 : (x == c) = false := beq_eq_false_iff_ne.mpr h
      rw [h1, if_neg (by decide), occS_one c t, h2]; simp
theorem count_T (l : List Nat) (c : Nat) : Txt.count (T l) (T [c]) = (l.count c : Nat) := by
  unfold Txt.count
  rw [occ_S l [c] (by simp), occS_one]
theorem inS_T (l : List Nat) (c : Nat) : inS (T l) (T [c]) = decide (c ∈ l) := by
  unfold inS
  exact found_one (T l) c

/-! ### slices -/
theorem cutS_T (l : List Nat) (lo hi : Option Int) : cutS (T l) lo hi = T (cut l lo hi) := rfl
theorem clip_nat (n a : Nat) : clipAt n (a : Int) = min a n := by
  unfold clipAt
  rw [if_neg (by omega)]; omega
theorem cut_nat (l : List Nat) (a b : Nat) : cut l (some (a : Int)) (some (b : Int)) = (l.drop a).take (b - a) := by
  show (l.drop (clipAt l.length (a : Int))).take (clipAt l.length (b : Int) - clipAt l.length (a : Int)) = _
  rw [clip_nat, clip_nat]
  by_cases ha : a ≤ l.length
  · rw [Nat.min_eq_left ha]
    by_cases hb : b ≤ l.length
    · rw [Nat.min_eq_left hb]
    · rw [Nat.min_eq_right (by omega), List.take_of_length_le (by rw [List.length_drop]; omega), List.take_of_length_le (by rw [List.length_drop]; omega)]
  · rw [List.drop_eq_nil_of_le (by omega), List.drop_eq_nil_of_le (by omega)]; simp
theorem cut_to {α : Type} (l : List α) (b : Nat) : cut l none (some (b : Int)) = l.take b := by
  show (l.drop 0).take (clipAt l.length (b : Int) - 0) = _
  rw [clip_nat, List.drop_zero, Nat.sub_zero]
  by_cases hb : b ≤ l.length
  · rw [Nat.min_eq_left hb]
  · rw [Nat.min_eq_right (by omega), List.take_of_length_le (by omega), List.take_of_length_le (by omega)]
theorem cut_from {α : Type} (l : List α) (a : Nat) : cut l (some (a : Int)) none = l.drop a := by
  show (l.drop (clipAt l.length (a : Int))).take (l.length - clipAt l.length (a : Int)) = _
  rw [clip_nat]
  by_cases ha : a ≤ l.length
  · rw [Nat.min_eq_left ha, List.take_of_length_le (by rw [List.length_drop]; omega)]
  · rw [List.drop_eq_nil_of_le (by omega), List.drop_eq_nil_of_le (by omega)]; simp

/-! ### joining -/
theorem join_T0 (ls : List (List Nat)) : Txt.join (T []) (ls.map T) = T ls.flatten := by
  show Builtin.Str.glued _ _ = _
  rw [glued_eq_join]
  induction ls with
  | nil => rfl
  | cons x r ih =>
    cases r with
    | nil => show T x = _; simp
    | cons y r =>
      show T x ++ T [] ++ Str.join (T []) (T y :: r.map T) = _
      rw [show (T y :: r.map T) = (y :: r).map T from rfl, ih, T_app, T_app]; simp
theorem joinOk_of {sep : Str} {ss : List Str} (h : (ss.map (·.length)).sum + ss.length * sep.length ≤ 16000000) : JoinOk sep ss = true := by
  unfold JoinOk tooLong
  rw [joinTotal, sizeLine_eq]
  simp; omega
theorem sum_T (ls : List (List Nat)) : ((ls.map T).map (·.length)).sum = ls.flatten.length := by
  induction ls with
  | nil => rfl
  | cons x r ih => rw [List.map_cons, List.map_cons, List.sum_cons, ih, T_len, List.flatten_cons, List.length_append]
theorem joinOk_T {q : List Nat} {ls : List (List Nat)} (h : ls.flatten.length + ls.length * q.length ≤ 16000000) : JoinOk (T q) (ls.map T) = true := joinOk_of (by rw [sum_T, List.length_map, T_len]; exact h)
theorem sum_le {ss : List Str} {m : Nat} (h : ∀ x ∈ ss, x.length ≤ m) : (ss.map (·.length)).sum ≤ ss.length * m := by
  induction ss with
  | nil => simp
  | cons x r ih =>
    have h1 := h x List.mem_cons_self
    have h2 := ih fun y hy => h y (List.mem_cons_of_mem _ hy)
    rw [List.map_cons, List.sum_cons, List.length_cons, Nat.succ_mul]; omega
theorem parts_le (x : Str) (w : Nat) : ∀ (cuts : List Nat) (a : Nat), ∀ z ∈ partsFrom x w a cuts, z.length ≤ x.length
  | [], a, z, h => by
    rcases List.mem_cons.mp h with rfl | h
    · simp only [strSub, Str.length, Array.size_extract]; omega
    · cases h
  | c :: r, a, z, h => by
    rcases List.mem_cons.mp h with rfl | h
    · simp only [strSub, Str.length, Array.size_extract]; omega
    · exact parts_le x w r _ z h
theorem parts_len (x : Str) (w : Nat) : ∀ (cuts : List Nat) (a : Nat), (partsFrom x w a cuts).length = cuts.length + 1
  | [], _ => rfl
  | _ :: r, a => congrArg (· + 1) (parts_len x w r _)
theorem split_len {x y : Str} (hy : y.length ≠ 0) (hx : x.length ≤ 1000) : (partsBetween x (occurrences x y 0 x.length (x.length + 1)) y.length).length ≤ 1002 := by
  rw [partsBetween_eq, parts_len]
  have := occ_length_le x y 0 x.length (x.length + 1)
  omega
theorem split_ok {x y q : Str} (hy : y.length ≠ 0) (hx : x.length ≤ 1000) (hq : q.length ≤ 1000) : JoinOk q (Txt.split x y) = true := by
  have hl := split_len hy hx
  rw [split_parts x y hy]
  refine joinOk_of ?_
  have h1 := sum_le (ss := partsBetween x (occurrences x y 0 x.length (x.length + 1)) y.length) (m := x.length) (by rw [partsBetween_eq]; exact parts_le x _ _ _)
  have h2 := Nat.mul_le_mul hl hx
  have h3 := Nat.mul_le_mul hl hq
  omega
end Mine
end

section
open PySem PySem.W PyProof.Rows PyProof.V PySem.Spec PySem.SeqAt
set_option linter.unusedVariables false
namespace Mine
section
variable {c : Cx} {n : Nat} {fd : FD} {σ σ₁ σ₂ σ₃ : S}

theorem small_rr {lo hi : Int} (h0 : 0 ≤ lo) (h1 : lo ≤ 10000) (h2 : 0 ≤ hi) (h3 : hi ≤ 10000) : Builtin.Range.small lo hi 1 = true := by
  unfold Builtin.Range.small Builtin.Range.rangeSize
  simp only [Builtin.Range.rangeFitsLong, Bool.and_eq_true, Bool.or_eq_true, decide_eq_true_eq, beq_iff_eq, show ((1 : Int) > 0) = True by simp, if_true, Int.ediv_one]
  split <;> omega
theorem small_rng {N : Nat} (h : N ≤ 1000) : Builtin.Range.small 0 (N : Int) 1 = true := small_rr (by omega) (by omega) (by omega) (by omega)
theorem seqIx {j m : Nat} (h : j < m) : seqIndex? (j : Int) m = some j := by
  unfold seqIndex?
  simp [h]; try omega

theorem Ev.idxT {value slice : Expr} {pos : Pos} {i j : Nat} {xs : List AV} {v : AV} (h1 : Ev c n fd value σ (.ref i) σ₁) (h2 : Ev c n fd slice σ₁ (.int (j : Int)) σ₂) (ho : σ₂.os[i]? = some (.tup xs)) (hv : xs[j]? = some v) (hj : j < 1000000)
    (hsub : ∀ o i, subscripted slice false o i = operate [o, i] (getItem o i)) : Ev c n fd (.Subscript value slice pos) σ v σ₂ :=
  Ev.sub h1 h2 (.tup ho) (item_t (j := j) ho (by omega) (by omega) (seqIx (List.getElem?_eq_some_iff.mp hv).1) hv) hsub
theorem Ev.idxL {value slice : Expr} {pos : Pos} {i j : Nat} {xs : List AV} {v : AV} (h1 : Ev c n fd value σ (.ref i) σ₁) (h2 : Ev c n fd slice σ₁ (.int (j : Int)) σ₂) (ho : σ₂.os[i]? = some (.list xs)) (hv : xs[j]? = some v) (hj : j < 1000000)
    (hsub : ∀ o i, subscripted slice false o i = operate [o, i] (getItem o i)) : Ev c n fd (.Subscript value slice pos) σ v σ₂ :=
  Ev.sub h1 h2 (.list ho) (item_l (k := (j : Int)) ho (by omega) (by omega) (by simpa using hv)) hsub
theorem Ev.idxS {value slice : Expr} {pos : Pos} {j ch : Nat} {l : List Nat} (h1 : Ev c n fd value σ (.str (T l)) σ₁) (h2 : Ev c n fd slice σ₁ (.int (j : Int)) σ₂) (hv : l[j]? = some ch) (hj : j < 1000000)
    (hsub : ∀ o i, subscripted slice false o i = operate [o, i] (getItem o i)) : Ev c n fd (.Subscript value slice pos) σ (.str (T [ch])) σ₂ := by
  have hlt := (List.getElem?_eq_some_iff.mp hv).1
  refine Ev.sub h1 h2 .str (item_s (x := T l) (i := (j : Int)) (ch := ch) ?_ ?_) hsub
  · simp; omega
  · rw [T_len, seqIx hlt]
    show (T l).cps[j]? = some ch
    simpa [T] using hv
end
end Mine
end

section
open PySem PySem.W PyProof.Rows PyProof.V PySem.Spec PySem.SeqAt
set_option linter.unusedVariables false
namespace Mine
section
variable {c : Cx} {n : Nat} {fd : FD} {σ σ₁ σ₂ σ₃ : S}

theorem item_str {os : List AO} {l : List Nat} {k : Nat} (h : k < l.length) : (Src.str (T l)).item os k = some (.str (T [l.getD k 0])) := by
  unfold Src.item
  show Option.map _ (l.toArray[k]?) = _
  rw [List.getElem?_toArray, List.getD_eq_getElem?_getD, List.getElem?_eq_getElem h]; rfl
theorem item_strE {os : List AO} {l : List Nat} : (Src.str (T l)).item os l.length = Option.none := by
  unfold Src.item
  show Option.map _ (l.toArray[l.length]?) = _
  rw [List.getElem?_toArray, List.getElem?_eq_none (Nat.le_refl _)]; rfl
theorem Ev.map (N : Nat) (osf : Nat → List AO) (item u : Nat → AV) {elt : Expr} {scope : Scope} {pos : Pos} {x : Str} {px : Pos} {iter : Expr} {a : AV} {src : Src} {vs : List (Str × AV)} (h1 : Ev c n fd iter σ a ⟨vs, osf 0⟩) (hi : Itr (osf 0) a src)
    (hitem : ∀ k, k < N → src.item (osf k) k = some (item k)) (hdone : src.item (osf N) N = Option.none) (ok : src.Ok (osf N)) (hl : (fd.sub scope).scope.names.lookup x = some .local) (turn : ∀ k, k < N → ∃ vs', Ev c n (fd.sub scope) elt ⟨[(x, item k)], osf k⟩ (u k) ⟨vs', osf (k + 1)⟩) (hz : N ≤ sizeLine) (k : CompOk fd scope)
    (hs : ∀ env v, foldedSetIterable iter env v = Pure.pure v) (hk : (fd.sub scope).scope.kind = .function := by rfl) :
    Ev c n fd (.ListComp elt [⟨.Name x px, iter, [], 0⟩] scope pos) σ (.ref (osf N).length) ⟨vs, osf N ++ [.list ((List.range N).map u)]⟩ := by
  have := Cp.loop (c := c) (n := n) (fd := fd.sub scope) (elt := elt) (gens := [⟨.Name x px, iter, [], 0⟩]) (scope := scope) (pos := pos) (d := 0) (src := src) (x := x) (px := px) (iter := iter) N osf item u [] hitem hdone ok hl turn (by simpa using hz) rfl rfl hk
  exact Ev.comp (σ₁ := ⟨vs, osf 0⟩) (σ₂ := ⟨[], osf N⟩) h1 hi this ⟨_, rfl⟩ k hs

theorem Ex.assignMap (N : Nat) (osf : Nat → List AO) (item u : Nat → AV) {y : Str} {py ps : Pos} {elt : Expr} {scope : Scope} {pos : Pos} {x : Str} {px : Pos} {iter : Expr} {a : AV} {src : Src} {vs : List (Str × AV)} (h1 : Ev c n fd iter σ a ⟨vs, osf 0⟩) (hi : Itr (osf 0) a src)
    (hitem : ∀ k, k < N → src.item (osf k) k = some (item k)) (hdone : src.item (osf N) N = Option.none) (ok : src.Ok (osf N)) (hl : (fd.sub scope).scope.names.lookup x = some .local) (turn : ∀ k, k < N → ∃ vs', Ev c n (fd.sub scope) elt ⟨[(x, item k)], osf k⟩ (u k) ⟨vs', osf (k + 1)⟩) (hz : N ≤ sizeLine) (k : CompOk fd scope)
    (hst : Sto fd y (.ref (osf N).length) ⟨vs, osf N ++ [.list ((List.range N).map u)]⟩ σ₃) (hw : ∀ env, env.scope = fd.scope → swapsWith (.ListComp elt [⟨.Name x px, iter, [], 0⟩] scope pos) (some (.Name y py)) ps.line env = Pure.pure true)
    (hs : ∀ env v, foldedSetIterable iter env v = Pure.pure v) (hk : fd.scope.kind = .function := by rfl) (hk' : (fd.sub scope).scope.kind = .function := by rfl) :
    Ex c n fd (.Assign [.Name y py] (.ListComp elt [⟨.Name x px, iter, [], 0⟩] scope pos) ps) σ .next σ₃ := by
  have := Cp.loop (c := c) (n := n) (fd := fd.sub scope) (elt := elt) (gens := [⟨.Name x px, iter, [], 0⟩]) (scope := scope) (pos := pos) (d := 0) (src := src) (x := x) (px := px) (iter := iter) N osf item u [] hitem hdone ok hl turn (by simpa using hz) rfl rfl hk'
  exact Ex.assignComp (σ₁ := ⟨vs, osf 0⟩) (σ₂ := ⟨[], osf N⟩) h1 hi this hst ⟨_, rfl⟩ k hw hk hs
theorem compOk_of {scope : Scope} (h1 : scope.kind = .function) (h2 : scope.names.all (fun x => !(x.2 == .local) || scope.names.lookup x.1 == some .local) = true) (h3 : scope.names.all (fun x => !(x.2 == .cell)) = true) (h4 : scope.names.all (fun x => !(x.2 == .free) || (fd.cells.lookup x.1).isSome) = true) : CompOk fd scope where
  kind := h1
  names := fun x hx e => by
    have := List.all_eq_true.mp h2 x hx
    rw [e] at this; simpa using this
  cell := fun x hx e => by
    have := List.all_eq_true.mp h3 x hx
    rw [e] at this; simp at this
  free := fun x hx e => by
    have := List.all_eq_true.mp h4 x hx
    rw [e] at this; simpa using this
end
end Mine
end

section
open PySem PySem.W PyProof.Rows PyProof.V PySem.Spec PySem.SeqAt
set_option linter.unusedVariables false
namespace Mine
section
variable {c : Cx} {n : Nat} {os os' os₁ os₂ : List AO} {v v' : AV}

theorem Op.sel {t : List Value → Sem Value} {args : List AV} (m : Nat) (π' : List Nat) (go : Op c n t args os v os₁) (hm : os.length = m) (nd : (List.range m ++ π').Nodup) (hd : Held (Mine.out (List.range m ++ π') os₁.length) os₁ (List.range m ++ π') os₂)
    (hc : ∀ o ∈ os₂, ∀ i ∈ o.refs, i < os₂.length) (hv : v = v'.ren (Mine.out (List.range m ++ π') os₁.length)) : Op c n t args os v' os₂ := fun A ρ s xs rm r hx Q E hq => by
  refine go A ρ s xs rm r hx Q E fun x h' tk' ρ' q p => ?_
  obtain ⟨new, rfl, hfr⟩ := q.grow
  have hlen : m = ρ.length := hm.symm.trans r.objs.length
  have hlen' := p.1.objs.length
  have hpl : plc (ρ ++ new) (List.range m ++ π') = ρ ++ plc (ρ ++ new) π' := by rw [plc_append, hlen, plc_range]
  have hlt : ∀ i ∈ List.range m ++ π', i < (ρ ++ new).length := fun i hi => hlen' ▸ hd.lt i hi
  have r' := p.1.sel nd hd hc
  rw [hpl] at r'
  have q' : Reach [] ρ s.heap (ρ ++ plc (ρ ++ new) π') h' := by
    refine ⟨⟨_, rfl, fun a ha => ?_⟩, q.keep, q.size⟩
    obtain ⟨j, pp, h1, h2⟩ := foot_get ha
    obtain ⟨k, h3, h4⟩ := plc_get' (fun i hi => hlt i (List.mem_append_right _ hi)) h1
    have hk : ¬ k < ρ.length := fun hk => (List.nodup_append.mp nd).2.2 k (List.mem_range.mpr (hlen ▸ hk)) k (List.mem_of_getElem? h3) rfl
    rw [List.getElem?_append_right (by omega)] at h4
    exact hfr a (foot_mem_of_get h4 a h2)
  refine hq x h' tk' _ q' ⟨r', ?_⟩
  have h2 := p.2
  rw [hv] at h2
  rw [← hpl]; exact h2.unout hlen'

theorem vsLt_of {vs : List (Str × AV)} {m : Nat} (h : vs.all (fun q => q.2.refs.all (fun i => Nat.blt i m)) = true) : ∀ q ∈ vs, ∀ i ∈ q.2.refs, i < m := fun q hq i hi => by
  have := List.all_eq_true.mp (List.all_eq_true.mp h q hq) i hi
  exact Nat.le_of_ble_eq_true this
theorem Op.as {t : List Value → Sem Value} {args args' : List AV} {os os' os'' : List AO} {v v' : AV} (h : Op c n t args os v os') (ha : args = args') (hv : v = v') (he : os' = os'') : Op c n t args' os v' os'' := by subst ha hv he; exact h
theorem Exs.done {fd : FD} {σ σ₁ : S} (hs : Sub σ₁.vs σ.vs) (ho : σ.os = σ₁.os) : Exs c n fd [] σ .next σ₁ := Exs.fewer hs ho Exs.nil
/-- a call that touches nothing -/
theorem Op.bare {f : Value} {args : List AV} (h : CallR c n f args [] v []) (ha : ∀ r, args.map (AV.ren r) = args) (hv : ∀ r, v.ren r = v) : CallR c n f args os v os := by
  have := Op.frame (c := c) (n := n) (t := fun xs => call f xs) (args := args) (v := v) (os₀ := []) (os₀' := []) (new := []) (π := []) (os := os) (by simpa using h) rfl List.nodup_nil trivial (fun _ h => nomatch h)
  exact Op.as this (ha _) (hv _) (by simp [upd])
end
end Mine
end

section
open PySem PySem.W PyProof.Rows
set_option linter.unusedVariables false
namespace Mine
section
variable {c : Cx} {n : Nat} {fd : FD} {σ σ₁ σ₂ σ₃ : S} {os' : List AO}

theorem Exs.append {f : AF} : ∀ {a b : List Stmt} {σ : S}, Exs c n fd a σ .next σ₁ → Exs c n fd b σ₁ f σ₂ → Exs c n fd (a ++ b) σ f σ₂ := fun {a b σ} h1 h2 env A ρ s rm i => by
  rw [execs_append]
  refine Run.bind (h1 env A ρ s rm i) fun x hx tk ρ₁ q₁ p₁ => ?_
  obtain ⟨i₁, rfl⟩ := p₁
  exact h2 env A ρ₁ _ rm i₁

theorem Ex.cut {st : Stmt} {f : AF} {vs' : List (Str × AV)} {js : List AO} (go : Ex c n fd st σ f ⟨vs', os' ++ js⟩) (hl : os'.length = σ.os.length) (hc : ∀ o ∈ os', ∀ i ∈ o.refs, i < os'.length) (hv : ∀ q ∈ vs', ∀ i ∈ q.2.refs, i < os'.length) (hf : ∀ i ∈ f.refs, i < os'.length) : Ex c n fd st σ f ⟨vs', os'⟩ := fun env A ρ s rm i Q E hq => by
  refine go env A ρ s rm i Q E fun x h' tk' ρ' q p => ?_
  obtain ⟨new, rfl, hfr⟩ := q.grow
  have hlen : os'.length = ρ.length := hl.trans i.rel.objs.length
  refine hq x h' tk' ρ q.cut ⟨p.1.cut hlen (fun o ho k hk => hlen ▸ hc o ho k hk) (fun y v e k hk => hlen ▸ hv (y, v) (mem_of_lookup' e) k hk) i.cellsLt, ?_⟩
  have p2 := p.2
  cases f with
  | ret v => obtain ⟨z, rfl, hz⟩ := p2; exact ⟨z, rfl, hz.cut fun k hk => hlen ▸ hf k hk⟩
  | _ => exact p2
theorem Ex.fewer {st : Stmt} {f : AF} (hs : Sub σ₁.vs σ.vs) (ho : σ.os = σ₁.os) (go : Ex c n fd st σ₁ f σ₂) : Ex c n fd st σ f σ₂ := fun env A ρ s rm i => go env A ρ s rm (i.fewer hs ho)
theorem Ex.less {st : Stmt} {f : AF} (go : Ex c n fd st σ f σ₁) (hs : Sub σ₂.vs σ₁.vs) (ho : σ₁.os = σ₂.os) : Ex c n fd st σ f σ₂ := fun env A ρ s rm i => (go env A ρ s rm i).mono fun x h₁ ρ₁ q p => ⟨p.1.fewer hs ho, p.2⟩

theorem Cp.two {y : Str} {pe pos : Pos} {gens : List Comprehension} {scope : Scope} {d i : Nat} {px : Pos} {iter : Expr} {a b : AV} {acc : List AV} {vs : List (Str × AV)} {os : List AO} (ho : os[i]? = some (.list [a, b])) (hl : fd.scope.names.lookup y = some .local) (hg : gens[d]? = some ⟨.Name y px, iter, [], 0⟩) (hn : gens[d + 1]? = Option.none)
    (hz : acc.length ≤ 1000) (hd : (y == ("__debug__" : Str)) = false) (hk : fd.scope.kind = .function := by rfl) : Cp c n fd (.Name y pe) gens scope pos d (.list i) 0 ⟨vs, os⟩ acc ⟨[], os⟩ (acc ++ [a, b]) := by
  have e1 : ∀ (v : AV) (vs : List (Str × AV)), Ev c n fd (.Name y pe) ⟨put y v vs, os⟩ v ⟨put y v vs, os⟩ := fun v vs => Ev.loc (by rw [lookup_put, if_pos rfl]) hl hk hd
  have h0 : (Src.list i).item os 0 = some a := by unfold Src.item; simp only [ho]; rfl
  have h1 : (Src.list i).item os 1 = some b := by unfold Src.item; simp only [ho]; rfl
  have h2 : (Src.list i).item os 2 = Option.none := by unfold Src.item; simp only [ho]; rfl
  have hz1 := sz1000
  refine Cp.step (σ₁ := ⟨put y a vs, os⟩) (σ₂ := ⟨put y a vs, os⟩) (u := a) h0 (.loc hl) (e1 _ _) ?_ (by omega) hg hn hk
  have : acc ++ [a, b] = (acc ++ [a]) ++ [b] := by simp
  rw [this]
  by_cases hz3 : (acc ++ [a]).length ≤ sizeLine
  · refine Cp.step (σ := ⟨put y a vs, os⟩) (σ₁ := ⟨put y b (put y a vs), os⟩) (σ₂ := ⟨put y b (put y a vs), os⟩) (u := b) h1 (.loc hl) (e1 _ _) ?_ hz3 hg hn hk
    exact Cp.fewer (σ₁ := ⟨[], os⟩) trivial rfl (Cp.done hg h2 ⟨_, ho⟩)
  · rw [sizeLine_eq] at hz3 hz1; simp at hz3; omega
variable {L : Law}
theorem Bk.st (B : Bk c L) (k : Nat) (q : List (AV × List AO)) (σ₁ : S) {st : Stmt} {st' : St} (h : bS c n fd L B.K B.G B.Mt false k st ⟨σ, q, True⟩ = some st') (hφ : st'.φ) (hs : Sub σ₁.vs st'.σ.vs) (ho : st'.σ.os = σ₁.os) (hk : fd.scope.kind = .function := by rfl) : Ex c n fd st σ .next σ₁ :=
  Ex.less (bS_ok B.H B.hK B.hG hk h hφ).2 hs ho
theorem Ev.mapAs (N : Nat) (osf : Nat → List AO) (item u : Nat → AV) (acc : List AV) (hacc : (List.range N).map u = acc) {elt : Expr} {scope : Scope} {pos : Pos} {x : Str} {px : Pos} {iter : Expr} {a : AV} {src : Src} {vs : List (Str × AV)} (h1 : Ev c n fd iter σ a ⟨vs, osf 0⟩) (hi : Itr (osf 0) a src)
    (hitem : ∀ k, k < N → src.item (osf k) k = some (item k)) (hdone : src.item (osf N) N = Option.none) (ok : src.Ok (osf N)) (hl : (fd.sub scope).scope.names.lookup x = some .local) (turn : ∀ k, k < N → ∃ vs', Ev c n (fd.sub scope) elt ⟨[(x, item k)], osf k⟩ (u k) ⟨vs', osf (k + 1)⟩) (hz : N ≤ sizeLine) (k : CompOk fd scope)
    (hs : ∀ env v, foldedSetIterable iter env v = Pure.pure v) (hk : (fd.sub scope).scope.kind = .function := by rfl) :
    Ev c n fd (.ListComp elt [⟨.Name x px, iter, [], 0⟩] scope pos) σ (.ref (osf N).length) ⟨vs, osf N ++ [.list acc]⟩ := hacc ▸ Ev.map N osf item u h1 hi hitem hdone ok hl turn hz k hs hk
/-- a statement alone -/
theorem Exs.one {st : Stmt} (h : Exs c n fd [st] σ .next σ₁) : Ex c n fd st σ .next σ₁ := fun env A ρ s rm i => by
  have := h env A ρ s rm i
  rw [execs_cons] at this
  refine Run.of_eq ?_ this
  refine (bind_pure (exec st env)).symm.trans ?_
  congr 1; funext f
  cases f <;> rfl
end

section
variable {c : Cx} {n : Nat} {fd : FD} {σ σ₁ σ₂ σ₃ σ₄ : S} {X : List Addr} {A : Around} {ρ : List Pl} {s : Shared} {os : List AO} {E : Value → Shared → Prop}

theorem gipB {l : Addr} {its : Array Value} {x : Value} (hb : c.hb.IsList l its) (r : Rel c X os ρ s.heap) (hv : VR ρ (.lit (.ref l)) x) {Q : Bool → Shared → Prop} (hq : Q false s) : wpAny c.M A (getitemInPython x) Q E s := by
  cases hv
  obtain ⟨o, h1, h2, h3⟩ := hb
  have hT : s.TypeIs (.ref l) "list" := Heap.IsList.typeIs ⟨o, r.keep _ _ h1, h2, h3⟩
  rw [getitemInPython_of_ne hT.not_modules]
  exact wpAny_bind (wpAny_specialOf hT slot_list_getitem.lookup (wpAny_pure hq))

theorem Ev.sliceB {value : Expr} {lower upper step : Option Expr} {p pos : Pos} {v : AV} {l : Addr} {its : Array Value} {lo hi st : Option Int} {os : List AO} (h1 : Ev c n fd value σ (.lit (.ref l)) σ₁) (h2 : EvP c n fd lower σ₁ lo σ₂) (h3 : EvP c n fd upper σ₂ hi σ₃) (h4 : EvP c n fd step σ₃ st σ₄) (hb : c.hb.IsList l its) (h5 : SlOp c n (.lit (.ref l)) lo hi st σ₄.os v os) :
    Ev c n fd (.Subscript value (.Slice lower upper step p) pos) σ v ⟨σ₄.vs, os⟩ := fun env A ρ s rm i => by
  rw [eval_Subscript]
  refine Run.bind (h1 env A ρ s rm i) fun x h₁ tk₁ ρ₁ q₁ p₁ => ?_
  refine Run.bind (P := fun ρ' h' y => ∃ sl vl vu vst, y = .ref sl ∧ In c fd σ₄ env ρ' h' ∧ VR ρ' (.lit (.ref l)) x ∧ h'.IsSliceOf sl vl vu vst ∧ PR lo vl ∧ PR hi vu ∧ PR st vst) (Run.holding ?_) fun y h₂ tk₂ ρ₂ q₂ p₂ => Run.stand ?_
  · rw [arm_eval_Slice]
    refine Run.bind (h2 env A ρ₁ _ rm p₁.1) fun vl h₂ tk₂ ρ₂ q₂ p₂ => ?_
    refine Run.bind (Run.holding (h3 env A ρ₂ _ rm p₂.1)) fun vu h₃ tk₃ ρ₃ q₃ p₃ => ?_
    refine Run.bind (Run.holding (h4 env A ρ₃ _ rm p₃.1)) fun vst h₄ tk₄ ρ₄ q₄ p₄ => ?_
    intro Q E hq
    refine wpAny_newObj_type (hq _ _ tk₄ ρ₄ (Reach.waste _ ρ₄ h₄ _) ⟨h₄.objs.size, vl, vu, vst, rfl, p₄.1.lift (Reach.waste [] ρ₄ h₄ _) (p₄.1.rel.none.waste _), ((p₁.2.reach q₂).reach q₃).reach q₄, Heap.IsSliceOf.new h₄ vl vu vst, p₂.2, p₃.2, p₄.2⟩) (by size_fits)
  · obtain ⟨sl, vl, vu, vst, rfl, i₂, ha, hsl, hl, hu, ht⟩ := p₂
    refine Run.bind (P := fun ρ' h' z => (In c fd σ₄ env ρ' h' ∧ VR ρ' (.lit (.ref l)) x ∧ h'.IsSliceOf sl vl vu vst) ∧ z = false) (fun Q E hq => gipB hb i₂.rel ha (hq _ _ tk₂ ρ₂ (Reach.refl ..) ⟨⟨i₂, ha, hsl⟩, rfl⟩)) fun z h₃ tk₃ ρ₃ q₃ p₃ => ?_
    obtain ⟨⟨i₃, ha₃, hsl₃⟩, rfl⟩ := p₃
    have hsub : ∃ l, subscripted (.Slice lower upper step p) false x (.ref sl) = PySem.operate l (getItem x (.ref sl)) := by cases step <;> exact ⟨_, rfl⟩
    obtain ⟨l, hl'⟩ := hsub
    rw [hl']
    refine Run.bind (Run.operate (i₃.op (h5 A ρ₃ _ x sl vl vu vst rm i₃.rel.none ha₃ hsl₃ hl hu ht))) fun r h₄ tk₄ ρ₄ q₄ p₄ => ?_
    exact fun Q E hq => wpAny_bind (wpAny_letTemporaryGo (wpAny_pure (hq _ h₄ tk₄ ρ₄ (Reach.refl ..) p₄)))
end
end Mine
end

section
open PySem PySem.W PyProof.Rows PyProof.V PySem.Spec PySem.SeqAt
set_option linter.unusedVariables false
set_option maxRecDepth 100000
namespace Mine
local macro_rules | `(tactic| walk_at "obl") => `(tactic| (first | exact trivial | ((try dsimp only [also]); all_goals (repeat' (refine' And.intro ?_ ?_)) <;> (first | exact trivial | rfl | exact (fun _ => rfl) | exact (fun _ _ => rfl) | exact Callee.bi _ | exact Callee.ty _ | assumption | exact Nat.le_of_ble_eq_true rfl | exact ⟨_, _, rfl, rfl, rfl⟩ | exact ⟨_, _, _, _, _, rfl, rfl, rfl⟩ | exact ⟨_, _, _, _, rfl, rfl⟩ | decide | exact Nat.le_trans (by decide) sz1000 | (have := sz1000; simp only [Str.length_append, List.length_cons, List.length_nil, List.length_append, List.length_map]; omega) | (have := sz1000; omega)))))
local macro_rules | `(tactic| walk_at "sub") => `(tactic| (repeat' (first | exact trivial | (refine' And.intro rfl ?_))))
local macro_rules | `(tactic| walk_at "clo") => `(tactic| (refine' CloP.all ?_; (repeat' (first | exact trivial | refine' And.intro ?_ ?_)) <;> (first | exact refsLt_of rfl | exact refsLt_strs | exact refsLt_ints | assumption)))
local macro_rules | `(tactic| walk_at "ob2") => `(tactic| ((try dsimp only [also]); (repeat' (refine' And.intro ?_ ?_)) <;> (try (first | exact trivial | rfl | exact (fun _ => rfl) | exact (fun _ _ => rfl) | exact Callee.bi _ | exact Callee.ty _ | assumption | exact Nat.le_of_ble_eq_true rfl | exact ⟨_, _, rfl, rfl, rfl⟩ | exact ⟨_, _, _, _, _, rfl, rfl, rfl⟩ | exact ⟨_, _, _, _, rfl, rfl⟩ | exact Nat.le_trans (by decide) sz1000 | (have := sz1000; omega)))))

noncomputable section
abbrev KK := hd.heap_39

noncomputable def fnOf (x : Str) : List Stmt := match PySem.Challenge.pw_pe0095_01.main.body.find? (fun s => match s with | .FunctionDef name _ _ _ _ _ _ _ _ _ => name == x | _ => false) with
  | some (.FunctionDef _ _ body _ _ _ _ _ _ _) => body
  | _ => []
noncomputable def bodyK (P : Params) (a : Addr) : List Stmt := match (KK P).lookup a with
  | some ⟨_, _, .func d, _⟩ => (match d.body with | .stmts b => b | _ => [])
  | _ => []
noncomputable def scopeK (P : Params) (a : Addr) : Scope := match (KK P).lookup a with
  | some ⟨_, _, .func d, _⟩ => d.scope
  | _ => { kind := .function, names := [], isGenerator := false, isCoroutine := false }
/-- the frame of a def without cells -/
noncomputable def fdK (P : Params) (a : Addr) : FD := ⟨scopeK P a, [], none⟩
noncomputable def nstOf (q : Str) : Stmt → Nst
  | .FunctionDef name params body _ _ _ scope _ _ pos => ⟨name, q ++ name, params, .stmts body, scope, pos⟩
  | .Assign _ (.Lambda params body scope pos) _ => ⟨"<lambda>", q ++ "<lambda>", params, .expr body, scope, pos⟩
  | _ => ⟨"", "", { posonlyargs := [], args := [], vararg := none, kwonlyargs := [], kw_defaults := [], kwarg := none, defaults := [] }, .stmts [], { kind := .function, names := [], isGenerator := false, isCoroutine := false }, ⟨0, 0, 0, 0⟩⟩
noncomputable def LL1 : Law := { N := fun j => nstOf "_law_lexer.<locals>." ((fnOf "_law_lexer").getD (j + 1) (.Pass ⟨0, 0, 0, 0⟩)), tb := 72, C := 59, fR := 42 }

section
variable {c : Cx} {n : Nat} {P : Params}
theorem Lc1 (hK : c.K = KK P) (hx : c.XR = XRof LL1) : Lc c LL1 where
  xr := hx
  cls := by rw [hK]; exact ⟨_, rfl, rfl⟩
  ga := by rw [hK]; rfl
  gt := by rw [hK]; rfl
  sa := by rw [hK]; rfl
  po := by rw [hK]; rfl
  mks := by rw [hK]; rfl

noncomputable def GG : List (Str × AV) := [("ELLIPSIS_MARKER", .str "..."), ("_ellipsis_match", .lit (.ref 21)), ("_netrclex", .lit (.ref 59)), ("replace", .lit (.ref 70)), ("_law_lexer", .lit (.ref 77)), ("_law_written", .lit (.ref 84)), ("_law_turns", .lit (.ref 89)), ("_law_both_ways", .lit (.ref 96)), ("_law_even", .lit (.ref 101)),
  ("len", .lit (.builtin "len")), ("range", .lit (.type "range")), ("iter", .lit (.builtin "iter")), ("list", .lit (.type "list")), ("sum", .lit (.builtin "sum")), ("sorted", .lit (.builtin "sorted")), ("max", .lit (.builtin "max")), ("min", .lit (.builtin "min"))]
theorem GG_ok (hK : c.K = KK P) : GOK c GG := by
  unfold GG
  refine .glob (v := .str "..." 189) (by rw [hK]; rfl) (fun _ => ⟨_, rfl⟩) ?_
  iterate 8 refine .glob (by rw [hK]; rfl) (fun _ => rfl) ?_
  iterate 8 refine .blt (by rw [hK]; rfl) rfl (by decide) ?_
  exact .nil
noncomputable def B1 (hK : c.K = KK P) (hx : c.XR = XRof LL1) : Bk c LL1 := ⟨Lc1 hK hx, KK P, hK, GG, GG_ok hK, [("_read_char", 42), ("get_token", 49), ("push_token", 56)]⟩
end
end

section
variable {c : Cx} {n : Nat}

noncomputable def ellOs (p got : Str) : List AO := [.list [.str "", .str p, .str ""], .tup [.int 0, .int got.length]]
noncomputable def ellSt (p got : Str) (sp : Nat) : S := ⟨[("got", .str got), ("ws", .ref 0), ("startpos", .int sp), ("endpos", .int got.length)], ellOs p got⟩
noncomputable def ellSw (p got w : Str) (sp : Nat) : S := ⟨[("w", .str w), ("got", .str got), ("ws", .ref 0), ("startpos", .int sp), ("endpos", .int got.length)], ellOs p got⟩

theorem ell_loop {fd : FD} {body : List Stmt} {p got : Str} (hl : fd.scope.names.lookup ("w" : Str) = some .local) (hk : fd.scope.kind = .function)
    (turn : ∀ (w : Str) (sp j : Nat), w.length ≤ 1000 → find4 got w sp got.length = j → Exs c n fd body (ellSw p got w sp) .next (ellSt p got (j + w.length)))
    (stop : ∀ (w : Str) (sp : Nat), w.length ≤ 1000 → find4 got w sp got.length = -1 → Exs c n fd body (ellSw p got w sp) (.ret (.bool false)) ⟨[], ellOs p got⟩) (hp : p.length ≤ 1000)
    (h0 : find4 got "" 0 got.length = (0 : Nat)) (h2 : ∀ k : Nat, find4 got p 0 got.length = k → find4 got "" (k + p.length) got.length = (k + p.length : Nat)) :
    (∀ k : Nat, find4 got p 0 got.length = k → Lp c n fd "w" body (.list 0) 0 (ellSt p got 0) .next (ellSt p got (k + p.length))) ∧
    (find4 got p 0 got.length = -1 → ∃ σ' : S, σ'.os = ellOs p got ∧ Lp c n fd "w" body (.list 0) 0 (ellSt p got 0) (.ret (.bool false)) σ') := by
  have sw : ∀ (w : Str) (sp : Nat) {f : AF} {σ' : S}, Exs c n fd body (ellSw p got w sp) f σ' → Exs c n fd body ⟨put "w" (.str w) (ellSt p got sp).vs, ellOs p got⟩ f σ' := fun w sp f σ' h =>
    Exs.fewer (σ₁ := ellSw p got w sp) (And.intro rfl (And.intro rfl (And.intro rfl (And.intro rfl (And.intro rfl trivial))))) rfl h
  constructor
  · intro k hk1
    refine Lp.step (v := .str "") rfl (.loc hl) (sw "" 0 (turn "" 0 0 (by decide) h0)) ?_ hk
    refine Lp.step (v := .str p) rfl (.loc hl) (sw p 0 (turn p 0 k hp hk1)) ?_ hk
    refine Lp.step (v := .str "") rfl (.loc hl) (sw "" _ (turn "" _ (k + p.length) (by decide) (h2 k hk1))) ?_ hk
    exact Lp.done rfl ⟨_, rfl⟩
  · intro hk1
    refine ⟨_, ?_, Lp.step (v := .str "") rfl (.loc hl) (sw "" 0 (turn "" 0 0 (by decide) h0)) (Lp.ret (v := .str p) rfl (.loc hl) (sw p 0 (stop p 0 hp hk1)) hk) hk⟩
    rfl

theorem ell_for {fd : FD} {body rest : List Stmt} {iter : Expr} {px pos : Pos} {p got : Str} (hl : fd.scope.names.lookup ("w" : Str) = some .local) (hk : fd.scope.kind = .function)
    (turn : ∀ (w : Str) (sp j : Nat), w.length ≤ 1000 → find4 got w sp got.length = j → Exs c n fd body (ellSw p got w sp) .next (ellSt p got (j + w.length)))
    (stop : ∀ (w : Str) (sp : Nat), w.length ≤ 1000 → find4 got w sp got.length = -1 → Exs c n fd body (ellSw p got w sp) (.ret (.bool false)) ⟨[], ellOs p got⟩) (hp : p.length ≤ 1000)
    (h0 : find4 got "" 0 got.length = (0 : Nat)) (h2 : ∀ k : Nat, find4 got p 0 got.length = k → find4 got "" (k + p.length) got.length = (k + p.length : Nat))
    (h3 : find4 got p 0 got.length = -1 ∨ ∃ k : Nat, find4 got p 0 got.length = k)
    (hev : Ev c n fd iter (ellSt p got 0) (.ref 0) (ellSt p got 0)) (hf : ∀ env v, foldedSetIterable iter env v = Pure.pure v) (hr : ∀ sp, Exs c n fd rest (ellSt p got sp) (.ret (.bool true)) ⟨[], ellOs p got⟩) :
    Exs c n fd (.For (.Name "w" px) iter body [] pos :: rest) (ellSt p got 0) (.ret (.bool (decide (find4 got p 0 got.length ≠ -1)))) ⟨[], ellOs p got⟩ := by
  have L := ell_loop hl hk turn stop hp h0 h2
  rcases h3 with h3 | ⟨k, h3⟩
  · rw [show decide (find4 got p 0 got.length ≠ -1) = false from decide_eq_false (by rw [h3]; decide)]
    obtain ⟨σ', ho, hl⟩ := L.2 h3
    exact Exs.less (Exs.out (Ex.for hev (.list rfl) hl hf) (by intro e; cases e)) trivial ho
  · rw [show decide (find4 got p 0 got.length ≠ -1) = true from decide_eq_true (by rw [h3]; omega)]
    exact Exs.less (Exs.cons (Ex.for hev (.list rfl) (L.1 k h3) hf) (hr _)) trivial rfl

set_option maxHeartbeats 1000000 in
theorem ell_call {P : Params} (hK : c.K = KK P) (hx : c.XR = XRof LL1) {want got p : Str} (hin : inS want "..." = true) (hsp : Txt.split want "..." = [Str.ofString "", p, Str.ofString ""]) (hw : want.length ≤ 1000) (hg : got.length ≤ 1000) (hp : p.length ≤ 1000)
    (hz : (Builtin.Str.partsBetween want (Builtin.Str.occurrences want "..." 0 want.length (want.length + 1)) 3).length ≤ sizeLine)
    (h0 : find4 got "" 0 got.length = (0 : Nat)) (h2 : ∀ k : Nat, find4 got p 0 got.length = k → find4 got "" (k + p.length) got.length = (k + p.length : Nat))
    (h3 : find4 got p 0 got.length = -1 ∨ ∃ k : Nat, find4 got p 0 got.length = k) : CallR c (n + 1) (.ref 21) [.str want, .str got] [] (.bool (decide (find4 got p 0 got.length ≠ -1))) [] := by
  have sl : 1000 ≤ sizeLine := by rw [sizeLine_eq]; decide
  have hgz : got.length ≤ sizeLine := by omega
  have hpz : p.length ≤ sizeLine := by omega
  have hsl : CallR c n (.builtin "str.split") [.str want, .str "..."] [] (.ref 0) [.list [.str "", .str p, .str ""]] := by
    have := split_s (c := c) (n := n) (os := []) (x := want) (y := "...") (by decide) (by omega) hz
    rw [hsp] at this
    exact this
  refine' CallR.of_def (ps := [Str.ofString "want", Str.ofString "got"]) (σ' := ⟨[], ellOs p got⟩) (DefAt.of hK rfl rfl rfl rfl rfl rfl rfl rfl) (by decide) ?bind (by decide) ?r (Back.val (os' := []) (os₁ := ellOs p got) rfl (fun _ h => nomatch h) rfl)
  case bind =>
    intro xs h
    match xs, h with
    | [a, b], _ => rfl
  case' r => refine' (B1 hK hx).test 5 [] false rfl ?f1 ?f2 ?r1
  case f1 => walk_at "obl"
  case f2 => exact (by rw [hin]; rfl)
  case' r1 => refine' (B1 hK hx).run 5 2 [(.ref 0, [.list [.str "", .str p, .str ""]])] ⟨[("want", .str want), ("got", .str got), ("ws", .ref 0)], [.list [.str "", .str p, .str ""]]⟩ rfl ?f3 ?s3 ?o3 ?r2
  case f3 => walk_at "obl"
  case s3 => walk_at "sub"
  case o3 => rfl
  case' r2 => refine' Exs.cons (Ex.assign2 ((B1 hK hx).ev 5 [] rfl ?f4 rfl rfl) rfl (sto_ok rfl) (sto_ok rfl) ?w1 ?w2) ?r3
  case f4 => walk_at "obl"
  case w1 => exact fun _ => rfl
  case w2 => exact fun env e => by cases env; dsimp only at e; subst e; rfl
  case' r3 => refine' (B1 hK hx).run 5 1 [] (ellSw p got "" 0) rfl ?f5 ?s5 ?o5 ?r4
  case f5 => walk_at "obl"
  case s5 => walk_at "sub"
  case o5 => rfl
  case' r4 => refine' (B1 hK hx).test 5 [] false rfl ?f6 rfl ?r5
  case f6 => walk_at "obl"
  case' r5 => refine' (B1 hK hx).run 5 1 [] (ellSw p got "" 0) rfl ?f7 ?s7 ?o7 ?r6
  case f7 => walk_at "obl"
  case s7 => walk_at "sub"
  case o7 => rfl
  case' r6 => refine' (B1 hK hx).test 5 [] false rfl ?f8 rfl ?r7
  case f8 => walk_at "obl"
  case' r7 => refine' (B1 hK hx).test 5 [] false rfl ?f9 ?z9 ?r8
  case f9 => walk_at "obl"
  case z9 => exact decide_eq_false (by omega)
  case' r8 => refine' Exs.fewer (σ₁ := ellSt p got 0) ?s10 rfl ?r9
  case s10 => walk_at "sub"
  case' r9 => refine' ell_for rfl rfl ?turn ?stop hp h0 h2 h3 ?ev ?fold ?ret
  case ev => refine' (B1 hK hx).ev 5 [] rfl ?_ rfl rfl; walk_at "obl"
  case fold => exact fun _ _ => rfl
  case ret => intro sp; refine' (B1 hK hx).ret 5 [] rfl ?_ rfl rfl; walk_at "obl"
  case turn =>
    intro w sp j hw1 hj
    have hwz : w.length ≤ sizeLine := by omega
    have hfi : CallR c n (.builtin "str.find") [.str got, .str w, .int (sp : Int), .int (got.length : Int)] (ellOs p got) (.int (j : Int)) (ellOs p got) := hj ▸ find_s
    refine' (B1 hK hx).run 5 1 [(.int j, ellOs p got)] (ellSw p got w j) rfl ?tf ?ts rfl ?tr
    case tf => walk_at "obl"
    case ts => walk_at "sub"
    refine' (B1 hK hx).test 5 [] false rfl ?tf2 ?tz ?tr2
    case tf2 => walk_at "obl"
    case tz => exact decide_eq_false (by omega)
    refine' (B1 hK hx).run 5 1 [] (ellSt p got (j + w.length)) rfl ?tf3 ?ts3 rfl Exs.nil
    case tf3 => walk_at "obl"
    case ts3 => walk_at "sub"
  case stop =>
    intro w sp hw1 hj
    have hfi : CallR c n (.builtin "str.find") [.str got, .str w, .int (sp : Int), .int (got.length : Int)] (ellOs p got) (.int (-1)) (ellOs p got) := hj ▸ find_s
    refine' (B1 hK hx).run 5 1 [(.int (-1), ellOs p got)] ⟨[("startpos", .int (-1))], ellOs p got⟩ rfl ?pf ?ps rfl ?pr
    case pf => walk_at "obl"
    case ps => walk_at "sub"
    refine' (B1 hK hx).test 5 [] true rfl ?pf2 rfl ?pr2
    case pf2 => walk_at "obl"
    refine' (B1 hK hx).ret 5 [] rfl ?g3 rfl rfl
    case g3 => walk_at "obl"
end

section
variable {c : Cx} {n : Nat} {P : Params}

noncomputable def wsS : Str := "\n\t\r "
/-- a lexer with what hangs on it -/
noncomputable def lexA (w : Str) (pos : Nat) (ln : Int) (pb : List AV) (js : List AO) : List AO := [
  .x (.inst [("lineno", .int ln), ("instream", .ref 2), ("whitespace", .str wsS), ("pushback", .ref 1)]),
  .list pb,
  .x (.fn 1 [] 9 (some 3)),
  .x (.rdict 4),
  .x (.fn 0 [("written", 6), ("at", 5)] 8 none),
  .cell (some (.ref 7)),
  .cell (some (.str w)),
  .list [.int pos],
  .x (.code 0),
  .x (.code 1)] ++ js

/-- the sign that is read -/
noncomputable def chAt (w : Str) (pos : Nat) : Str := cutS w (some (pos : Int)) (some ((pos : Int) + 1))

theorem readOn (hK : c.K = KK P) (hx : c.XR = XRof LL1) {w : Str} {pos : Nat} {ln : Int} {pb : List AV} {js : List AO} (hw : w.length ≤ 1000) (hc : (chAt w pos).length ≤ 1) :
    CallV c (n + 1) (.ref 4) [.int 1] (lexA w pos ln pb js) (.str (chAt w pos)) (lexA w (pos + (chAt w pos).length) ln pb js) := by
  have B := B1 hK hx
  refine' CallV.of_fn (ps := [Str.ofString "size"]) (σ' := ⟨[], lexA w (pos + (chAt w pos).length) ln pb js⟩) (Lc1 hK hx) rfl rfl rfl (by decide) ?bind (by decide) rfl rfl rfl ?r (Back.all)
  case bind =>
    intro xs clos doc pm cv ctv h
    match xs, h with
    | [a], _ => rfl
  case' r => refine' (B1 hK hx).run 5 1 [] ⟨[("sign", .str (chAt w pos))], lexA w pos ln pb js⟩ rfl ?f1 ?s1 rfl ?r1
  case f1 => walk_at "obl"
  case s1 => walk_at "sub"
  case' r1 => refine' Exs.cons (Ex.setSub (j := 0) (k := 7) ((B1 hK hx).ev 5 [] rfl ?f2 rfl rfl) ((B1 hK hx).ev 5 [] rfl ?f3 rfl rfl) ((B1 hK hx).ev 5 [] rfl ?f4 rfl rfl) rfl ?h1 ?h2 ?h3 ?h4) ?r2
  case f2 => walk_at "obl"
  case f3 => walk_at "obl"
  case f4 => walk_at "obl"
  case h1 => exact Nat.one_pos
  case h2 => decide
  case h3 => exact fun _ => rfl
  case h4 => exact fun _ _ _ => rfl
  case r2 => exact (B1 hK hx).ret 5 [] rfl trivial rfl rfl
end
section
variable {c : Cx} {n : Nat} {P : Params}

noncomputable def lnAt (w : Str) (pos : Nat) (ln : Int) : Int := if chAt w pos = "\n" then ln + 1 else ln
theorem dReadChar (hK : c.K = KK P) : ∃ d body, DefAt c 42 d body := ⟨_, _, DefAt.of hK rfl rfl rfl rfl rfl rfl rfl rfl⟩

set_option maxHeartbeats 400000 in
theorem readChar (hK : c.K = KK P) (hx : c.XR = XRof LL1) {w : Str} {pos : Nat} {ln : Int} {pb : List AV} {js : List AO} (hw : w.length ≤ 1000) (hc : (chAt w pos).length ≤ 1) :
    CodeR c (n + 2) (.ref 42) [.ref 0] (lexA w pos ln pb js) (.str (chAt w pos)) (lexA w (pos + (chAt w pos).length) (lnAt w pos ln) pb js) := by
  have hr := readOn (n := n) hK hx (ln := ln) (pb := pb) (js := js) hw hc
  refine' CodeR.of_def (ps := [Str.ofString "self"]) (σ' := ⟨[], lexA w (pos + (chAt w pos).length) (lnAt w pos ln) pb js⟩) (DefAt.of hK rfl rfl rfl rfl rfl rfl rfl rfl) (by decide) ?bind (by decide) ?r (Back.all)
  case bind =>
    intro xs h
    match xs, h with
    | [a], _ => rfl
  case' r => refine' (B1 hK hx).run 5 1 [(.str (chAt w pos), lexA w (pos + (chAt w pos).length) ln pb js)] ⟨[("self", .ref 0), ("ch", .str (chAt w pos))], lexA w (pos + (chAt w pos).length) ln pb js⟩ rfl ?f1 ?s1 rfl ?r1
  case f1 => walk_at "obl"
  case s1 => walk_at "sub"
  case r1 =>
    unfold lnAt
    by_cases hz : chAt w pos = "\n"
    · rw [if_pos hz]
      refine' (B1 hK hx).test 5 [] true rfl ?f2 ?z2 ?r2
      case f2 => walk_at "obl"
      case z2 => exact beq_iff_eq.mpr hz
      refine' Exs.cons (Ex.augAttr (m := [("lineno", .int ln), ("instream", .ref 2), ("whitespace", .str wsS), ("pushback", .ref 1)]) (v := .int (ln + 1)) (Lc1 hK hx) ((B1 hK hx).ev 5 [] rfl trivial rfl rfl) rfl rfl rfl (by rw [hK]; rfl) ((B1 hK hx).ev 5 [] rfl trivial rfl rfl) iadd_i (by rw [hK]; rfl) (Nat.le_of_ble_eq_true rfl)) ?r3
      exact (B1 hK hx).ret 5 [] rfl trivial rfl rfl
    · rw [if_neg hz]
      refine' (B1 hK hx).test 5 [] false rfl ?f4 ?z3 ?r4
      case f4 => walk_at "obl"
      case z3 => exact beq_eq_false_iff_ne.mpr hz
      exact (B1 hK hx).ret 5 [] rfl trivial rfl rfl
end

section
variable {c : Cx} {n : Nat} {P : Params}

noncomputable def lnx (x : Str) (ln : Int) : Int := if x = "\n" then ln + 1 else ln
theorem rcAt (hK : c.K = KK P) (hx : c.XR = XRof LL1) {w x : Str} {pos : Nat} {ln : Int} {pb : List AV} {js : List AO} (hw : w.length ≤ 1000) (h : chAt w pos = x) (hl : x.length = 1) :
    CodeR c (n + 2) (.ref 42) [.ref 0] (lexA w pos ln pb js) (.str x) (lexA w (pos + 1) (lnx x ln) pb js) := by
  have := readChar (n := n) hK hx (ln := ln) (pb := pb) (js := js) hw (by rw [h, hl]; exact Nat.le_refl _)
  unfold lnAt at this
  rw [h, hl] at this
  exact this
theorem rcEnd (hK : c.K = KK P) (hx : c.XR = XRof LL1) {w : Str} {pos : Nat} {ln : Int} {pb : List AV} {js : List AO} (hw : w.length ≤ 1000) (h : chAt w pos = "") :
    CodeR c (n + 2) (.ref 42) [.ref 0] (lexA w pos ln pb js) (.str "") (lexA w pos ln pb js) := by
  have := readChar (n := n) hK hx (ln := ln) (pb := pb) (js := js) hw (by rw [h]; decide)
  unfold lnAt at this
  rw [h] at this
  exact this

/-- what was pushed comes first -/
theorem gtPush (hK : c.K = KK P) (hx : c.XR = XRof LL1) {w t : Str} {pos : Nat} {ln : Int} {pb : List AV} {js : List AO} (hp : pb.length + 1 ≤ 1000) :
    CallR c (n + 1) (.ref 49) [.ref 0] (lexA w pos ln (.str t :: pb) js) (.str t) (lexA w pos ln pb js) := by
  have hpop : CallR c n (.builtin "list.pop") [.ref 1, .int 0] (lexA w pos ln (.str t :: pb) js) (.str t) (lexA w pos ln pb js) := pop0_l (xs := pb) rfl (by have := sz1000; omega)
  refine' CallR.of_def (ps := [Str.ofString "self"]) (σ' := ⟨[], lexA w pos ln pb js⟩) (DefAt.of hK rfl rfl rfl rfl rfl rfl rfl rfl) (by decide) ?bind (by decide) ?r (Back.all)
  case bind =>
    intro xs h
    match xs, h with
    | [a], _ => rfl
  case' r => refine' (B1 hK hx).test 5 [] true rfl ?f1 rfl ?r1
  case f1 => walk_at "obl"
  case r1 =>
    refine' (B1 hK hx).ret 5 [(.str t, lexA w pos ln pb js)] rfl ?f2 rfl rfl
    walk_at "obl"

noncomputable def lexB (w : Str) (pos : Nat) (ln : Int) : List AO := lexA w pos ln [] [.x (.meth 0), .x (.citer 10)]
noncomputable def gtS (w : Str) (pos : Nat) (ln : Int) (tok : Str) : S := ⟨[("token", .str tok), ("self", .ref 0), ("fiter", .ref 11)], lexB w pos ln⟩
noncomputable def gtC (w : Str) (pos : Nat) (ln : Int) (tok ch : Str) : S := ⟨[("ch", .str ch), ("token", .str tok), ("self", .ref 0), ("fiter", .ref 11)], lexB w pos ln⟩

/-- the two first steps of a token that is read -/
theorem gtHead (hK : c.K = KK P) (hx : c.XR = XRof LL1) {w tok : Str} {pos pos' : Nat} {ln ln' : Int} {js : List AO}
    (main : Exs c (n + 3) (fdK P 49) ((bodyK P 49).drop 3) (gtS w pos ln "") (.ret (.str tok)) ⟨[], lexA w pos' ln' [] js⟩) : CallR c (n + 4) (.ref 49) [.ref 0] (lexA w pos ln [] []) (.str tok) (lexA w pos' ln' [] []) := by
  refine' CallR.of_def (ps := [Str.ofString "self"]) (σ' := ⟨[], lexA w pos' ln' [] js⟩) (DefAt.of hK rfl rfl rfl rfl rfl rfl rfl rfl) (by decide) ?bind (by decide) ?r (Back.val (os' := lexA w pos' ln' [] []) (os₁ := js) rfl ?cl rfl)
  case cl => walk_at "clo"
  case bind =>
    intro xs h
    match xs, h with
    | [a], _ => rfl
  case' r => refine' (B1 hK hx).test 5 [] false rfl ?f1 rfl ?r1
  case f1 => walk_at "obl"
  case r1 =>
    refine' (B1 hK hx).run 5 2 [(.ref 10, lexA w pos ln [] [.x (.meth 0)]), (.ref 11, lexB w pos ln)] (gtS w pos ln "") rfl ?f2 ?s2 rfl main
    case s2 => walk_at "sub"
    case f2 =>
      walk_at "ob2"
      · refine' Ev.attrM (σ := ⟨[("token", .str ""), ("self", .ref 0)], lexA w pos ln [] []⟩) (σ₁ := ⟨[("token", .str ""), ("self", .ref 0)], lexA w pos ln [] []⟩) (i := 0) (m := [("lineno", .int ln), ("instream", .ref 2), ("whitespace", .str wsS), ("pushback", .ref 1)]) (Lc1 hK hx) ?a1 ?a2 ?a3 ?a4 ?a5 ?a6 ?a7 ?a8 ?a9 ?a10
        case a1 => exact (B1 hK hx).ev 5 [] rfl trivial rfl rfl
        case a2 => rfl
        case a3 => rfl
        case a4 => rw [hK]; rfl
        case a5 => rw [hK]; rfl
        case a6 => rw [hK]; rfl
        case a7 => rw [hK]; rfl
        case a8 => decide
        case a9 => rw [hK]; rfl
        case a10 => exact fun _ => rfl
      · exact iter_m (Lc1 hK hx) rfl

theorem gtEnd (hK : c.K = KK P) (hx : c.XR = XRof LL1) {w : Str} {pos : Nat} {ln : Int} (hw : w.length ≤ 1000) (h0 : chAt w pos = "") : CallR c (n + 4) (.ref 49) [.ref 0] (lexA w pos ln [] []) (.str "") (lexA w pos ln [] []) := by
  obtain ⟨d, bR, D⟩ := dReadChar (P := P) hK
  refine gtHead (js := [.x (.meth 0), .x .junk]) hK hx ?_
  refine' Exs.cons (Ex.forC (Lc1 hK hx) (σ₁ := gtS w pos ln "") (k := 11) (b := 10) ?a1 rfl (Lt.done (Lc1 hK hx) D rfl rfl (rcEnd hK hx hw h0) rfl rfl) ?a2) ?a3
  case a1 => exact (B1 hK hx).ev 5 [] rfl trivial rfl rfl
  case a2 => exact fun _ _ => rfl
  case a3 => exact (B1 hK hx).ret 5 [] rfl trivial rfl rfl

theorem ws_q : inS wsS "\"" = false := by decide +kernel
theorem ws_b : inS wsS "\\" = false := by decide +kernel
theorem ws_s : inS wsS " " = true := by decide +kernel
theorem empty_app (x : Str) : Str.ofString "" ++ x = x := by
  cases x with
  | mk a => show Str.mk (#[] ++ a) = _; rw [Array.empty_append]

/-- a sign in quotation marks -/
theorem gtQuote (hK : c.K = KK P) (hx : c.XR = XRof LL1) {w x : Str} {pos : Nat} {ln : Int} (hw : w.length ≤ 1000) (hl : x.length = 1) (h1 : x ≠ "\"") (h2 : x ≠ "\\") (c0 : chAt w pos = "\"") (c1 : chAt w (pos + 1) = x) (c2 : chAt w (pos + 2) = "\"") :
    CallR c (n + 4) (.ref 49) [.ref 0] (lexA w pos ln [] []) (.str x) (lexA w (pos + 3) (lnx x ln) [] []) := by
  obtain ⟨d, bR, D⟩ := dReadChar (P := P) hK
  have hne : x ≠ "" := fun e => by rw [e] at hl; cases hl
  have hz0 : (Str.ofString "").length + x.length ≤ sizeLine := by rw [hl]; exact Nat.le_trans (by decide) sz1000
  have hb1 : (x == Str.ofString "\"") = false := beq_eq_false_iff_ne.mpr h1
  have hb2 : (x == Str.ofString "\\") = false := beq_eq_false_iff_ne.mpr h2
  refine gtHead (js := [.x (.meth 0), .x (.citer 10)]) hK hx ?_
  refine' Exs.out (Ex.forC (Lc1 hK hx) (σ₁ := gtS w pos ln "") (k := 11) (b := 10) ?a1 rfl (Lt.ret (Lc1 hK hx) D rfl rfl (rcAt hK hx hw c0 rfl) rfl rfl (by decide) (sto_ok rfl) ?o rfl) ?a2) ?a3
  case a1 => exact (B1 hK hx).ev 5 [] rfl trivial rfl rfl
  case a2 => exact fun _ _ => rfl
  case a3 => exact fun e => by cases e
  case o =>
    refine' (B1 hK hx).test 5 [] false rfl ?f1 ws_q ?r1
    case f1 => walk_at "obl"
    refine' (B1 hK hx).test 5 [] true rfl ?f2 rfl ?r2
    case f2 => walk_at "obl"
    refine' Exs.out (Ex.forC (Lc1 hK hx) (σ₁ := gtC w (pos + 1) ln "" "\"") (k := 11) (b := 10) ?b1 rfl (Lt.next (σ₂ := gtC w (pos + 2) (lnx x ln) ("" ++ x) x) (Lc1 hK hx) D rfl rfl (rcAt hK hx hw c1 hl) rfl rfl hne (sto_ok rfl) ?o1 rfl ?o2) ?b2) ?b3
    case b1 => exact (B1 hK hx).ev 5 [] rfl trivial rfl rfl
    case b2 => exact fun _ _ => rfl
    case b3 => exact fun e => by cases e
    case o1 =>
      refine' (B1 hK hx).test 5 [] false rfl ?g1 hb1 ?t1
      case g1 => walk_at "obl"
      refine' (B1 hK hx).test 5 [] false rfl ?g2 hb2 ?t2
      case g2 => walk_at "obl"
      refine' (B1 hK hx).run 5 1 [] (gtC w (pos + 2) (lnx x ln) ("" ++ x) x) rfl ?g3 ?s3 rfl Exs.nil
      case g3 => walk_at "obl"
      case s3 => walk_at "sub"
    case o2 => 
      refine' Lt.ret (Lc1 hK hx) D rfl rfl (rcAt hK hx hw c2 rfl) rfl rfl (by decide) (sto_ok rfl) ?o3 rfl
      refine' (B1 hK hx).test 5 [] true rfl ?k1 rfl ?k2
      case k1 => walk_at "obl"
      exact (B1 hK hx).ret 5 [] rfl trivial (congrArg AV.str (empty_app x)) rfl

/-- a sign in quotation marks, behind a backslash -/
theorem gtQuoteE (hK : c.K = KK P) (hx : c.XR = XRof LL1) {w x : Str} {pos : Nat} {ln : Int} (hw : w.length ≤ 1000) (hl : x.length = 1) (c0 : chAt w pos = "\"") (c1 : chAt w (pos + 1) = "\\") (c2 : chAt w (pos + 2) = x) (c3 : chAt w (pos + 3) = "\"") :
    CallR c (n + 4) (.ref 49) [.ref 0] (lexA w pos ln [] []) (.str x) (lexA w (pos + 4) (lnx x ln) [] []) := by
  obtain ⟨d, bR, D⟩ := dReadChar (P := P) hK
  have hne : x ≠ "" := fun e => by rw [e] at hl; cases hl
  have hz0 : (Str.ofString "").length + x.length ≤ sizeLine := by rw [hl]; exact Nat.le_trans (by decide) sz1000
  have hrc : CallR c (n + 3) (.ref 42) [.ref 0] (lexB w (pos + 2) ln) (.str x) (lexB w (pos + 3) (lnx x ln)) := Op.up (Nat.le_succ _) (rcAt (n := n) hK hx hw c2 hl).call
  refine gtHead (js := [.x (.meth 0), .x (.citer 10)]) hK hx ?_
  refine' Exs.out (Ex.forC (Lc1 hK hx) (σ₁ := gtS w pos ln "") (k := 11) (b := 10) ?a1 rfl (Lt.ret (Lc1 hK hx) D rfl rfl (rcAt hK hx hw c0 rfl) rfl rfl (by decide) (sto_ok rfl) ?o rfl) ?a2) ?a3
  case a1 => exact (B1 hK hx).ev 5 [] rfl trivial rfl rfl
  case a2 => exact fun _ _ => rfl
  case a3 => exact fun e => by cases e
  case o =>
    refine' (B1 hK hx).test 5 [] false rfl ?f1 ws_q ?r1
    case f1 => walk_at "obl"
    refine' (B1 hK hx).test 5 [] true rfl ?f2 rfl ?r2
    case f2 => walk_at "obl"
    refine' Exs.out (Ex.forC (Lc1 hK hx) (σ₁ := gtC w (pos + 1) ln "" "\"") (k := 11) (b := 10) ?b1 rfl (Lt.next (σ₂ := gtC w (pos + 3) (lnx x ln) ("" ++ x) x) (Lc1 hK hx) D rfl rfl (rcAt hK hx hw c1 rfl) rfl rfl (by decide) (sto_ok rfl) ?o1 rfl ?o2) ?b2) ?b3
    case b1 => exact (B1 hK hx).ev 5 [] rfl trivial rfl rfl
    case b2 => exact fun _ _ => rfl
    case b3 => exact fun e => by cases e
    case o1 =>
      refine' (B1 hK hx).test 5 [] false rfl ?g1 rfl ?t1
      case g1 => walk_at "obl"
      refine' (B1 hK hx).test 5 [] true rfl ?g2 rfl ?t2
      case g2 => walk_at "obl"
      refine' (B1 hK hx).run 5 2 [(.str x, lexB w (pos + 3) (lnx x ln))] (gtC w (pos + 3) (lnx x ln) ("" ++ x) x) rfl ?g3 ?s3 rfl Exs.nil
      case g3 => walk_at "obl"
      case s3 => walk_at "sub"
    case o2 => 
      refine' Lt.ret (Lc1 hK hx) D rfl rfl (rcAt hK hx hw c3 rfl) rfl rfl (by decide) (sto_ok rfl) ?o3 rfl
      refine' (B1 hK hx).test 5 [] true rfl ?k1 rfl ?k2
      case k1 => walk_at "obl"
      exact (B1 hK hx).ret 5 [] rfl trivial (congrArg AV.str (empty_app x)) rfl

/-- a sign behind a backslash, a blank behind it -/
theorem gtEsc (hK : c.K = KK P) (hx : c.XR = XRof LL1) {w x b : Str} {pos : Nat} {ln : Int} (hw : w.length ≤ 1000) (hl : x.length = 1) (hb : inS wsS b = true) (hbl : b.length = 1) (hbn : b ≠ "\n") (c0 : chAt w pos = "\\") (c1 : chAt w (pos + 1) = x) (c2 : chAt w (pos + 2) = b) :
    CallR c (n + 4) (.ref 49) [.ref 0] (lexA w pos ln [] []) (.str x) (lexA w (pos + 3) (lnx x ln) [] []) := by
  obtain ⟨d, bR, D⟩ := dReadChar (P := P) hK
  have hne : b ≠ "" := fun e => by rw [e] at hbl; cases hbl
  have hz0 : (Str.ofString "").length + x.length ≤ sizeLine := by rw [hl]; exact Nat.le_trans (by decide) sz1000
  have hrc : CallR c (n + 3) (.ref 42) [.ref 0] (lexB w (pos + 1) ln) (.str x) (lexB w (pos + 2) (lnx x ln)) := Op.up (Nat.le_succ _) (rcAt (n := n) hK hx hw c1 hl).call
  have hrb := rcAt (n := n) (ln := lnx x ln) (pb := []) (js := [.x (.meth 0), .x (.citer 10)]) hK hx hw c2 hbl
  rw [show lnx b (lnx x ln) = lnx x ln from if_neg hbn] at hrb
  refine gtHead (js := [.x (.meth 0), .x (.citer 10)]) hK hx ?_
  refine' Exs.out (Ex.forC (Lc1 hK hx) (σ₁ := gtS w pos ln "") (k := 11) (b := 10) ?a1 rfl (Lt.ret (Lc1 hK hx) D rfl rfl (rcAt hK hx hw c0 rfl) rfl rfl (by decide) (sto_ok rfl) ?o rfl) ?a2) ?a3
  case a1 => exact (B1 hK hx).ev 5 [] rfl trivial rfl rfl
  case a2 => exact fun _ _ => rfl
  case a3 => exact fun e => by cases e
  case o =>
    refine' (B1 hK hx).test 5 [] false rfl ?f1 ws_b ?r1
    case f1 => walk_at "obl"
    refine' (B1 hK hx).test 5 [] false rfl ?f2 rfl ?r2
    case f2 => walk_at "obl"
    refine' (B1 hK hx).test 5 [] true rfl ?f3 rfl ?r3
    case f3 => walk_at "obl"
    refine' (B1 hK hx).run 5 2 [(.str x, lexB w (pos + 2) (lnx x ln))] (gtC w (pos + 2) (lnx x ln) ("" ++ x) x) rfl ?g3 ?s3 rfl ?r4
    case g3 => walk_at "obl"
    case s3 => walk_at "sub"
    refine' Exs.out (Ex.forC (Lc1 hK hx) (σ₁ := gtC w (pos + 2) (lnx x ln) ("" ++ x) x) (k := 11) (b := 10) ?b1 rfl (Lt.ret (Lc1 hK hx) D rfl rfl hrb rfl rfl hne (sto_ok rfl) ?o1 rfl) ?b2) ?b3
    case b1 => exact (B1 hK hx).ev 5 [] rfl trivial rfl rfl
    case b2 => exact fun _ _ => rfl
    case b3 => exact fun e => by cases e
    case o1 =>
      refine' (B1 hK hx).test 5 [] true rfl ?k1 hb ?k2
      case k1 => walk_at "obl"
      exact (B1 hK hx).ret 5 [] rfl trivial (congrArg AV.str (empty_app x)) rfl
end

section
variable {c : Cx} {n : Nat} {P : Params}

theorem pushTok (hK : c.K = KK P) (hx : c.XR = XRof LL1) {w t : Str} {pos : Nat} {ln : Int} {pb : List AV} {js : List AO} (hp : pb.length ≤ 1000) :
    CallR c (n + 1) (.ref 56) [.ref 0, .str t] (lexA w pos ln pb js) .none (lexA w pos ln (pb ++ [.str t]) js) := by
  have hpp : CallR c n (.builtin "list.append") [.ref 1, .str t] (lexA w pos ln pb js) .none (lexA w pos ln (pb ++ [.str t]) js) := append_l (xs := pb) rfl (by have := sz1000; omega)
  refine CodeR.call ?_
  refine' CodeR.of_def0 (ps := [Str.ofString "self", Str.ofString "token"]) (σ' := ⟨[], lexA w pos ln (pb ++ [.str t]) js⟩) (DefAt.of hK rfl rfl rfl rfl rfl rfl rfl rfl) (by decide) ?bind (by decide) ?r (Back.all)
  case bind =>
    intro xs h
    match xs, h with
    | [a, b], _ => rfl
  case r =>
    refine' (B1 hK hx).run 5 1 [(.none, lexA w pos ln (pb ++ [.str t]) js)] ⟨[], lexA w pos ln (pb ++ [.str t]) js⟩ rfl ?f1 ?s1 rfl Exs.nil
    case f1 =>
      have hz : pb.length ≤ sizeLine := by have := sz1000; omega
      walk_at "obl"
    case s1 => walk_at "sub"
end

section
variable {c : Cx} {n : Nat} {P : Params}

/-- what the first call of the maker leaves: the table, two codes, the lexer -/
noncomputable def lex1p (w : Str) : List AO := [.x (.tab [4, 6]), .cell (some (.str w)), .cell (some (.ref 3)), .list [.int 0], .x (.code 0), .x (.fn 0 [("written", 1), ("at", 2)] 4 none), .x (.code 1), .x (.fn 1 [] 6 (some 8)), .x (.rdict 5)]
noncomputable def lex1 (w : Str) : List AO := lex1p w ++ [.x (.inst [("lineno", .int 1), ("instream", .ref 7), ("whitespace", .str wsS), ("pushback", .ref 10)]), .list []]
/-- the second call: the table and the codes are there -/
noncomputable def lex2p (w : Str) : List AO := [.x (.tab [1, 2]), .x (.code 0), .x (.code 1), .cell (some (.str w)), .cell (some (.ref 5)), .list [.int 0], .x (.fn 0 [("written", 3), ("at", 4)] 1 none), .x (.fn 1 [] 2 (some 8)), .x (.rdict 6)]
noncomputable def lex2 (w : Str) : List AO := lex2p w ++ [.x (.inst [("lineno", .int 1), ("instream", .ref 7), ("whitespace", .str wsS), ("pushback", .ref 10)]), .list []]

theorem initLex1 (hK : c.K = KK P) (hx : c.XR = XRof LL1) {w : Str} : CodeR c (n + 1) (.ref 35) [.ref 9, .ref 7] (lex1p w ++ [.x (.inst [])]) .none (lex1p w ++ [.x (.inst [("lineno", .int 1), ("instream", .ref 7), ("whitespace", .str wsS), ("pushback", .ref 10)]), .list []]) := by
  refine' CodeR.of_def0 (ps := [Str.ofString "self", Str.ofString "fp"]) (σ' := ⟨[], lex1p w ++ [.x (.inst [("lineno", .int 1), ("instream", .ref 7), ("whitespace", .str wsS), ("pushback", .ref 10)]), .list []]⟩) (DefAt.of hK rfl rfl rfl rfl rfl rfl rfl rfl) (by decide) ?bind (by decide) ?r (Back.all)
  case bind =>
    intro xs h
    match xs, h with
    | [a, b], _ => rfl
  case r =>
    refine' (B1 hK hx).run 5 4 [] ⟨[], lex1p w ++ [.x (.inst [("lineno", .int 1), ("instream", .ref 7), ("whitespace", .str wsS), ("pushback", .ref 10)]), .list []]⟩ rfl ?f1 ?s1 rfl Exs.nil
    case f1 => walk_at "obl"
    case s1 => walk_at "sub"

theorem initLex2 (hK : c.K = KK P) (hx : c.XR = XRof LL1) {w : Str} : CodeR c (n + 1) (.ref 35) [.ref 9, .ref 7] (lex2p w ++ [.x (.inst [])]) .none (lex2p w ++ [.x (.inst [("lineno", .int 1), ("instream", .ref 7), ("whitespace", .str wsS), ("pushback", .ref 10)]), .list []]) := by
  refine' CodeR.of_def0 (ps := [Str.ofString "self", Str.ofString "fp"]) (σ' := ⟨[], lex2p w ++ [.x (.inst [("lineno", .int 1), ("instream", .ref 7), ("whitespace", .str wsS), ("pushback", .ref 10)]), .list []]⟩) (DefAt.of hK rfl rfl rfl rfl rfl rfl rfl rfl) (by decide) ?bind (by decide) ?r (Back.all)
  case bind =>
    intro xs h
    match xs, h with
    | [a, b], _ => rfl
  case r =>
    refine' (B1 hK hx).run 5 4 [] ⟨[], lex2p w ++ [.x (.inst [("lineno", .int 1), ("instream", .ref 7), ("whitespace", .str wsS), ("pushback", .ref 10)]), .list []]⟩ rfl ?f1 ?s1 rfl Exs.nil
    case f1 => walk_at "obl"
    case s1 => walk_at "sub"

theorem clo2 {fd : FD} {i j : Nat} (h1 : fd.cells.lookup ("written" : Str) = some i) (h2 : fd.cells.lookup ("at" : Str) = some j) : Clo fd (LL1.N 0).scope [("written", i), ("at", j)] := by
  refine ⟨fun q hq => ?_, fun env f h => ?_⟩
  · rcases List.mem_cons.mp hq with rfl | hq
    · exact h1
    · rcases List.mem_cons.mp hq with rfl | hq
      · exact h2
      · cases hq
  · have e1 : env.cells.lookup (Str.ofString "written") = some (f (Str.ofString "written")) := h ("written", i) List.mem_cons_self
    have e2 : env.cells.lookup (Str.ofString "at") = some (f (Str.ofString "at")) := h ("at", j) (List.mem_cons_of_mem _ List.mem_cons_self)
    have hn : (LL1.N 0).scope.names = [(Str.ofString "size", NameKind.local), (Str.ofString "sign", NameKind.local), (Str.ofString "at", NameKind.free), (Str.ofString "written", NameKind.free), (Str.ofString "len", NameKind.globalImplicit)] := rfl
    rw [closure_eq, hn]
    · show Pure.pure (clOf env.cells [(Str.ofString "size", NameKind.local), (Str.ofString "sign", NameKind.local), (Str.ofString "at", NameKind.free), (Str.ofString "written", NameKind.free), (Str.ofString "len", NameKind.globalImplicit)] []) = _
      simp [clOf, e1, e2, show (NameKind.local == NameKind.free) = false from rfl, show (NameKind.globalImplicit == NameKind.free) = false from rfl]
    · rw [hn]
      intro x hx hk
      simp only [List.mem_cons, List.not_mem_nil, or_false] at hx
      rcases hx with rfl | rfl | rfl | rfl | rfl <;> first | (cases hk; done) | (rw [e1]; rfl) | (rw [e2]; rfl)

theorem lexNew (hK : c.K = KK P) (hx : c.XR = XRof LL1) (M : Lm c LL1 76) {w : Str} : CallR c (n + 6) (.ref 77) [.str w] [.x (.tab [])] (.ref 9) (lex1 w) := by
  refine CodeR.call ?_
  refine' CodeR.of_cells (ps := [Str.ofString "written"]) (cn := [Str.ofString "written", Str.ofString "at"]) (σ' := ⟨[], lex1 w⟩) (DefAt.of hK rfl rfl rfl rfl rfl rfl rfl rfl) rfl ?hcs ?nd ?bind ?hps ?hcn ?r (Back.all)
  case hcs => exact fun _ => rfl
  case nd => decide
  case bind =>
    intro xs h
    match xs, h with
    | [a], _ => rfl
  case hps => decide
  case hcn => decide
  case r =>
    refine' (B1 hK hx).run 5 1 [] ⟨[], [.x (.tab []), .cell (some (.str w)), .cell (some (.ref 3)), .list [.int 0]]⟩ rfl ?f1 ?s1 rfl ?r1
    case f1 => walk_at "obl"
    case s1 => walk_at "sub"
    refine' Exs.cons (Ex.defNew (c0 := 76) (t := 0) (cs := []) (cl := [("written", 1), ("at", 2)]) (q := "_law_lexer.<locals>.") (Lc1 hK hx) M ?a1 rfl rfl ?a2 ?a3 ?a4 rfl rfl ?a5 (sto_ok rfl)) ?r2
    case a1 => rfl
    case a2 => exact clo2 rfl rfl
    case a3 =>
      intro as has
      match as, has with
      | [], _ => rfl
    case a4 => decide
    case a5 => exact fun _ => rfl
    refine' Exs.cons (Ex.assign' (Ev.lamNew (c0 := 76) (t := 0) (cs := [4]) (cl := []) (q := "_law_lexer.<locals>.") (Lc1 hK hx) M ?b1 rfl rfl ?b2 ?b3 ?b4) (sto_ok rfl) ?b5) ?r3
    case b1 => rfl
    case b2 => exact And.intro (fun _ h => nomatch h) (fun _ _ _ => rfl)
    case b3 =>
      intro as has
      match as, has with
      | [_], _ => rfl
    case b4 => exact fun _ => rfl
    case b5 => exact fun _ => rfl
    refine' Exs.cons (Ex.setRead (Lc1 hK hx) ((B1 hK hx).ev 5 [] rfl trivial rfl rfl) ((B1 hK hx).ev 5 [] rfl trivial rfl rfl) rfl ?c5) ?r4
    case c5 => exact fun _ => rfl
    refine' (B1 hK hx).ret 5 [(.ref 9, lex1 w)] rfl ?d1 rfl rfl
    walk_at "ob2"
    exact CallR.of_class (os := lex1p w) (n := n + 2) (Lc1 hK hx) (fI := 35) (by rw [hK]; rfl) (by rw [hK]; rfl) (initLex1 (n := n + 1) hK hx)

theorem lexHit (hK : c.K = KK P) (hx : c.XR = XRof LL1) (M : Lm c LL1 76) {w : Str} : CallR c (n + 6) (.ref 77) [.str w] [.x (.tab [1, 2]), .x (.code 0), .x (.code 1)] (.ref 9) (lex2 w) := by
  refine CodeR.call ?_
  refine' CodeR.of_cells (ps := [Str.ofString "written"]) (cn := [Str.ofString "written", Str.ofString "at"]) (σ' := ⟨[], lex2 w⟩) (DefAt.of hK rfl rfl rfl rfl rfl rfl rfl rfl) rfl ?hcs ?nd ?bind ?hps ?hcn ?r (Back.all)
  case hcs => exact fun _ => rfl
  case nd => decide
  case bind =>
    intro xs h
    match xs, h with
    | [a], _ => rfl
  case hps => decide
  case hcn => decide
  case r =>
    refine' (B1 hK hx).run 5 1 [] ⟨[], [.x (.tab [1, 2]), .x (.code 0), .x (.code 1), .cell (some (.str w)), .cell (some (.ref 5)), .list [.int 0]]⟩ rfl ?f1 ?s1 rfl ?r1
    case f1 => walk_at "obl"
    case s1 => walk_at "sub"
    refine' Exs.cons (Ex.defHit (c0 := 76) (t := 0) (j := 0) (ci := 1) (cs := [1, 2]) (cl := [("written", 3), ("at", 4)]) (q := "_law_lexer.<locals>.") (Lc1 hK hx) M ?a1 rfl rfl rfl ?a2 ?a3 ?a4 rfl rfl ?a5 (sto_ok rfl)) ?r2
    case a1 => rfl
    case a2 => exact clo2 rfl rfl
    case a3 =>
      intro as a has
      match as, has with
      | b :: _, h => cases h; rfl
    case a4 => decide
    case a5 => exact fun _ => rfl
    refine' Exs.cons (Ex.assign' (Ev.lamHit (c0 := 76) (t := 0) (j := 1) (ci := 2) (cs := [1, 2]) (cl := []) (q := "_law_lexer.<locals>.") (Lc1 hK hx) M ?b1 rfl rfl rfl ?b2 ?b3 ?b4) (sto_ok rfl) ?b5) ?r3
    case b1 => rfl
    case b2 => exact And.intro (fun _ h => nomatch h) (fun _ _ _ => rfl)
    case b3 =>
      intro as a has
      match as, has with
      | b :: b' :: _, h => cases h; rfl
    case b4 => exact fun _ => rfl
    case b5 => exact fun _ => rfl
    refine' Exs.cons (Ex.setRead (Lc1 hK hx) ((B1 hK hx).ev 5 [] rfl trivial rfl rfl) ((B1 hK hx).ev 5 [] rfl trivial rfl rfl) rfl ?c5) ?r4
    case c5 => exact fun _ => rfl
    refine' (B1 hK hx).ret 5 [(.ref 9, lex2 w)] rfl ?d1 rfl rfl
    walk_at "ob2"
    exact CallR.of_class (os := lex2p w) (n := n + 2) (Lc1 hK hx) (fI := 35) (by rw [hK]; rfl) (by rw [hK]; rfl) (initLex2 (n := n + 1) hK hx)
end

noncomputable section
variable {c : Cx} {n : Nat} {P : Params}

noncomputable def wTest : Stmt → Expr
  | .While t _ _ _ => t
  | _ => .Constant .none 0 ⟨0, 0, 0, 0⟩
noncomputable def wBody : Stmt → List Stmt
  | .While _ b _ _ => b
  | _ => []
noncomputable def stK (P : Params) (a : Addr) (i : Nat) : Stmt := (bodyK P a).getD i (.Pass ⟨0, 0, 0, 0⟩)

noncomputable def flatPs : List (List Nat × List Nat) → List AV
  | [] => []
  | q :: r => .str (T q.1) :: .str (T q.2) :: flatPs r
theorem flatPs_len : ∀ ps : List (List Nat × List Nat), (flatPs ps).length = 2 * ps.length
  | [] => rfl
  | _ :: r => by show (flatPs r).length + 2 = _; rw [flatPs_len r, List.length_cons]; omega
/-- all pairs, one behind the other -/
noncomputable def replAll : List (List Nat × List Nat) → List Nat → List Nat
  | [], l => l
  | q :: r, l => replAll r (repl q.1 q.2 l 0)
noncomputable def ReplOk : List (List Nat × List Nat) → List Nat → Prop
  | [], l => l.length ≤ 1000
  | q :: r, l => l.length ≤ 1000 ∧ q.1 ≠ [] ∧ q.2.length ≤ 1000 ∧ ReplOk r (repl q.1 q.2 l 0)

theorem replLoop (hK : c.K = KK P) (hx : c.XR = XRof LL1) : ∀ (ps : List (List Nat × List Nat)) (l : List Nat) (i : Nat) (os : List AO), os[i]? = some (.tup (flatPs ps)) → ps.length ≤ 1000 → ReplOk ps l →
    ∃ j js, Wl c (n + 1) (fdK P 70) (wTest (stK P 70 0)) (wBody (stK P 70 0)) ⟨[("text", .str (T l)), ("pairs", .ref i)], os⟩ .next ⟨[("text", .str (T (replAll ps l))), ("pairs", .ref j)], os ++ js⟩
  | [], l, i, os, ho, hn, hok => by
    refine ⟨i, [], ?_⟩
    rw [List.append_nil]
    refine' Wl.done (Tst.val (a := .ref i) ?a1 (tru_t ho (Nat.zero_le _)) ?a2)
    case a1 => exact (B1 hK hx).ev 5 [] rfl trivial rfl rfl
    case a2 => exact fun _ _ => rfl
  | (p, q) :: ps, l, i, os, ho, hn, hok => by
    obtain ⟨h1, h2, h3, h4⟩ := hok
    have h2l : (T p).length ≠ 0 := by rw [T_len]; exact fun h => h2 (List.length_eq_zero_iff.mp h)
    have hz : sizeLine = 2 ^ 24 := sizeLine_eq
    have ho' : (os ++ [.list ((Txt.split (T l) (T p)).map .str)])[i]? = some (.tup (flatPs ((p, q) :: ps))) := getElem?_mono ho
    obtain ⟨j, js, W⟩ := replLoop hK hx ps (repl p q l 0) (os ++ [AO.list ((Txt.split (T l) (T p)).map AV.str)]).length (os ++ [.list ((Txt.split (T l) (T p)).map .str)] ++ [.tup (flatPs ps)]) (by rw [List.getElem?_append_right (Nat.le_refl _), Nat.sub_self]; rfl) (by simp at hn; omega) h4
    refine ⟨j, [.list ((Txt.split (T l) (T p)).map .str)] ++ [.tup (flatPs ps)] ++ js, ?_⟩
    rw [show os ++ ([.list ((Txt.split (T l) (T p)).map .str)] ++ [.tup (flatPs ps)] ++ js) = os ++ [.list ((Txt.split (T l) (T p)).map .str)] ++ [.tup (flatPs ps)] ++ js by simp]
    have hfl := flatPs_len ((p, q) :: ps)
    have hsp : CallR c (n + 1) (.builtin "str.split") [.str (T l), .str (T p)] os (.ref os.length) (os ++ [.list ((Txt.split (T l) (T p)).map .str)]) := split_s h2l (by rw [T_len]; omega) (by have := split_len h2l (x := T l) (by rw [T_len]; exact h1); omega)
    have hjo : CallR c (n + 1) (.builtin "str.join") [.str (T q), .ref os.length] (os ++ [.list ((Txt.split (T l) (T p)).map .str)]) (.str (T (repl p q l 0))) (os ++ [.list ((Txt.split (T l) (T p)).map .str)]) := by
      rw [← join_split l p q h2]
      exact join_s (by simp) (split_ok h2l (by rw [T_len]; exact h1) (by rw [T_len]; exact h3))
    refine' Wl.step (Tst.val (a := .ref i) ?a1 (b := true) ?a3 ?a2) ?b1 W
    case a1 => exact (B1 hK hx).ev 5 [] rfl trivial rfl rfl
    case a2 => exact fun _ _ => rfl
    case a3 => exact tru_t ho (by rw [hfl, hz]; simp at hn ⊢; omega)
    case b1 =>
      refine' (B1 hK hx).run' 8 1 [(.str (T q), os), (.str (T p), os), (.ref os.length, os ++ [.list ((Txt.split (T l) (T p)).map .str)]), (.str (T (repl p q l 0)), os ++ [.list ((Txt.split (T l) (T p)).map .str)])] ⟨[("text", .str (T (repl p q l 0))), ("pairs", .ref i)], os ++ [.list ((Txt.split (T l) (T p)).map .str)]⟩ rfl ?c1 ?c2 rfl ?c3
      case c2 => walk_at "sub"
      case c1 =>
        walk_at "ob2"
        · refine' Ev.idxT (i := i) (j := 1) (xs := flatPs ((p, q) :: ps)) ?d1 ?d2 ho rfl (by decide) ?d3
          case d1 => exact (B1 hK hx).ev 5 [] rfl trivial rfl rfl
          case d2 => exact (B1 hK hx).ev 5 [] rfl trivial rfl rfl
          case d3 => exact fun _ _ => rfl
        · refine' Ev.idxT (i := i) (j := 0) (xs := flatPs ((p, q) :: ps)) ?e1 ?e2 ho rfl (by decide) ?e3
          case e1 => exact (B1 hK hx).ev 5 [] rfl trivial rfl rfl
          case e2 => exact (B1 hK hx).ev 5 [] rfl trivial rfl rfl
          case e3 => exact fun _ _ => rfl
      case c3 =>
        refine' Exs.cons (Ex.assign' (Ev.slice (σ₄ := ⟨[("text", .str (T (repl p q l 0))), ("pairs", .ref i)], os ++ [.list ((Txt.split (T l) (T p)).map .str)]⟩) (a := .ref i) (lo := some 2) ?f1 (EvP.some ?f2) EvP.none EvP.none (.tup ho') (slice_tf (a := 2) ho' (by decide) ?f3 ?f4)) (sto_ok rfl) ?f5) ?f6
        case f1 => exact (B1 hK hx).ev 5 [] rfl trivial rfl rfl
        case f2 => exact (B1 hK hx).ev 5 [] rfl trivial rfl rfl
        case f3 => rw [hfl]; simp; omega
        case f4 => rw [hfl, hz]; simp at hn ⊢; omega
        case f5 => exact fun _ => rfl
        case f6 =>
          refine' Exs.fewer (σ₁ := ⟨[("text", .str (T (repl p q l 0))), ("pairs", .ref (os ++ [AO.list ((Txt.split (T l) (T p)).map AV.str)]).length)], os ++ [.list ((Txt.split (T l) (T p)).map .str)] ++ [.tup (flatPs ps)]⟩) ?g1 rfl Exs.nil
          walk_at "sub"

theorem replaceD (hK : c.K = KK P) (hx : c.XR = XRof LL1) (ps : List (List Nat × List Nat)) (l : List Nat) (hn : ps.length ≤ 1000) (hok : ReplOk ps l)
    (hb : ∀ (d : FuncData) (x : Value) (xs : List Value), xs.length = (flatPs ps).length → (∃ o od sl, (KK P).lookup 70 = some ⟨o, od, .func d, sl⟩) → bindArgs d ⟨x :: xs, []⟩ = (newTuple xs >>= fun t => Pure.pure [(Str.ofString "text", x), (Str.ofString "pairs", t)])) :
    CallR c (n + 2) (.ref 70) (.str (T l) :: flatPs ps) [] (.str (T (replAll ps l))) [] := by
  refine CodeR.call ?_
  obtain ⟨j, js, W⟩ := replLoop (n := n) hK hx ps l 0 [.tup (flatPs ps)] rfl hn hok
  refine' CodeR.of_var (p := "text") (q := "pairs") (σ' := ⟨[], [.tup (flatPs ps)] ++ js⟩) (DefAt.of hK rfl rfl rfl rfl rfl rfl rfl rfl) (by decide) ?bind rfl rfl ?hz ?r (Back.val (os' := []) rfl ?cl rfl)
  case bind => exact fun x xs h => hb _ x xs h ⟨_, _, _, rfl⟩
  case hz => rw [flatPs_len, sizeLine_eq]; omega
  case cl => walk_at "clo"
  case r =>
    refine' Exs.fewer (σ₁ := ⟨[("text", .str (T l)), ("pairs", .ref 0)], [.tup (flatPs ps)]⟩) ?w1 rfl (Exs.cons (σ₁ := ⟨[("text", .str (T (replAll ps l))), ("pairs", .ref j)], [.tup (flatPs ps)] ++ js⟩) (Ex.while W) ?r2)
    case w1 => walk_at "sub"
    case r2 => exact (B1 hK hx).ret 5 [] rfl trivial rfl rfl
end

noncomputable section
variable {c : Cx} {n : Nat} {P : Params}

noncomputable def forBody : Stmt → List Stmt
  | .For _ _ b _ _ => b
  | _ => []

/-- how a sign is written -/
noncomputable def pieceL (x : Nat) (e : Bool) : List Nat := bif e then [92, x, 32] else bif decide (x ∈ [34, 92]) then [34, 92, x, 34] else [34, x, 34]
noncomputable def escB (ns : List Int) (k : Nat) : Bool := ((ns.getD (k % ns.length) 0).fdiv 2).fmod 2 == 1
noncomputable def pcs (l : List Nat) (ns : List Int) (k : Nat) : List (List Nat) := (List.range k).map fun j => pieceL (l.getD j 0) (escB ns j)
noncomputable def writtenL (l : List Nat) (ns : List Int) : List Nat := (pcs l ns l.length).flatten
theorem pcs_succ (l : List Nat) (ns : List Int) (k : Nat) : pcs l ns (k + 1) = pcs l ns k ++ [pieceL (l.getD k 0) (escB ns k)] := by
  unfold pcs; rw [List.range_succ, List.map_append]; rfl
theorem fmod_nat (k m : Nat) : Int.fmod (k : Int) (m : Int) = ((k % m : Nat) : Int) := by
  rw [Int.fmod_eq_emod_of_nonneg _ (by omega)]; omega
theorem pc1 (x : Nat) : Str.ofString "\\" ++ T [x] ++ Str.ofString " " = T [92, x, 32] := by
  rw [show Str.ofString "\\" = T [92] by decide +kernel, show Str.ofString " " = T [32] by decide +kernel, T_app, T_app]; rfl
theorem pc2 (x : Nat) : Str.ofString "\"\\" ++ T [x] ++ Str.ofString "\"" = T [34, 92, x, 34] := by
  rw [show Str.ofString "\"\\" = T [34, 92] by decide +kernel, show Str.ofString "\"" = T [34] by decide +kernel, T_app, T_app]; rfl
theorem pc3 (x : Nat) : Str.ofString "\"" ++ T [x] ++ Str.ofString "\"" = T [34, x, 34] := by
  rw [show Str.ofString "\"" = T [34] by decide +kernel, T_app, T_app]; rfl
theorem pcIn (x : Nat) : inS (Str.ofString "\"\\") (T [x]) = decide (x ∈ [34, 92]) := by
  rw [show Str.ofString "\"\\" = T [34, 92] by decide +kernel]; exact inS_T [34, 92] x

theorem put1 {l : List Nat} {ns : List Int} {k : Nat} {y : List Nat} (h : pieceL (l.getD k 0) (escB ns k) = y) : ((pcs l ns k).map T).map AV.str ++ [AV.str (T y)] = ((pcs l ns (k + 1)).map T).map AV.str := by
  rw [pcs_succ, h]; simp

noncomputable def wrS (l : List Nat) (ns : List Int) (k : Nat) : S := ⟨[("word", .str (T l)), ("numbers", .ref 0), ("pieces", .ref 1)], [.list (ns.map .int), .list (((pcs l ns k).map T).map .str), .rng 0 l.length]⟩
noncomputable def wrK (l : List Nat) (ns : List Int) (k : Nat) : S := ⟨[("k", .int k), ("word", .str (T l)), ("numbers", .ref 0), ("pieces", .ref 1)], [.list (ns.map .int), .list (((pcs l ns k).map T).map .str), .rng 0 l.length]⟩

theorem wrTurn (hK : c.K = KK P) (hx : c.XR = XRof LL1) {l : List Nat} {ns : List Int} {k : Nat} (hl : l.length ≤ 200) (hn : ns.length ≤ 200) (h0 : 0 < ns.length) (hk : k < l.length) :
    Exs c (n + 1) (fdK P 84) (forBody (stK P 84 1)) (wrK l ns k) .next (wrS l ns (k + 1)) := by
  have hz : sizeLine = 2 ^ 24 := sizeLine_eq
  have hzn : (ns.map AV.int).length ≤ sizeLine := by rw [List.length_map]; omega
  have hlk : l[k]? = some (l.getD k 0) := by rw [List.getD_eq_getElem?_getD, List.getElem?_eq_getElem hk]; rfl
  have hm : k % ns.length < ns.length := Nat.mod_lt _ h0
  have hnk : (ns.map AV.int)[k % ns.length]? = some (.int (ns.getD (k % ns.length) 0)) := by rw [List.getElem?_map, List.getD_eq_getElem?_getD, List.getElem?_eq_getElem hm]; rfl
  have hgw : ∀ (pos : Pos) (o i : Expr), o = o → True := fun _ _ _ _ => trivial
  refine' (B1 hK hx).test' 8 [(.int (ns.getD (k % ns.length) 0), (wrK l ns k).os)] (escB ns k) rfl ?f1 rfl ?r1
  case f1 =>
    walk_at "ob2"
    refine' Ev.idxL (i := 0) (j := k % ns.length) (xs := ns.map .int) ?d1 ?d2 rfl hnk (by omega) ?d3
    case d1 => exact (B1 hK hx).ev 5 [] rfl trivial rfl rfl
    case d2 =>
      refine' (B1 hK hx).ev 5 [] rfl ?d4 ?d5 rfl
      case d4 =>
        walk_at "ob2"
        rw [List.length_map]; omega
      case d5 =>
        show AV.int (Int.fmod (k : Int) ((ns.map AV.int).length : Nat)) = _
        rw [List.length_map, fmod_nat]
    case d3 => exact fun _ _ => rfl
  case r1 =>
    have idx : ∀ {value slice : Expr} {pos : Pos}, Ev c (n + 1) (fdK P 84) value (wrK l ns k) (.str (T l)) (wrK l ns k) → Ev c (n + 1) (fdK P 84) slice (wrK l ns k) (.int k) (wrK l ns k) → (∀ o i, subscripted slice false o i = operate [o, i] (getItem o i)) →
        Ev c (n + 1) (fdK P 84) (.Subscript value slice pos) (wrK l ns k) (.str (T [l.getD k 0])) (wrK l ns k) := fun h1 h2 h3 => Ev.idxS h1 h2 hlk (by omega) h3
    have pz : (((pcs l ns k).map T).map AV.str).length ≤ sizeLine := by rw [List.length_map, List.length_map]; unfold pcs; rw [List.length_map, List.length_range]; omega
    cases he : escB ns k with
    | true =>
      refine' (B1 hK hx).run' 8 1 [(.str (T [l.getD k 0]), (wrK l ns k).os)] (wrS l ns (k + 1)) rfl ?g1 ?g2 ?g3 Exs.nil
      case g1 =>
        walk_at "ob2"
        exact idx ((B1 hK hx).ev 5 [] rfl trivial rfl rfl) ((B1 hK hx).ev 5 [] rfl trivial rfl rfl) (fun _ _ => rfl)
      case g2 => walk_at "sub"
      case g3 =>
        show [AO.list (ns.map .int), AO.list (((pcs l ns k).map T).map AV.str ++ [AV.str (Str.ofString "\\" ++ T [l.getD k 0] ++ Str.ofString " ")]), AO.rng 0 l.length] = _
        rw [pc1, put1 (y := [92, l.getD k 0, 32]) (by rw [he]; rfl)]; rfl
    | false =>
      refine' (B1 hK hx).test' 8 [(.str (T [l.getD k 0]), (wrK l ns k).os)] (decide (l.getD k 0 ∈ [34, 92])) rfl ?g4 (pcIn _) ?g5
      case g4 =>
        walk_at "ob2"
        exact idx ((B1 hK hx).ev 5 [] rfl trivial rfl rfl) ((B1 hK hx).ev 5 [] rfl trivial rfl rfl) (fun _ _ => rfl)
      case g5 =>
        cases hm2 : decide (l.getD k 0 ∈ [34, 92]) with
        | true =>
          refine' (B1 hK hx).run' 8 1 [(.str (T [l.getD k 0]), (wrK l ns k).os)] (wrS l ns (k + 1)) rfl ?h1 ?h2 ?h3 Exs.nil
          case h1 =>
            walk_at "ob2"
            exact idx ((B1 hK hx).ev 5 [] rfl trivial rfl rfl) ((B1 hK hx).ev 5 [] rfl trivial rfl rfl) (fun _ _ => rfl)
          case h2 => walk_at "sub"
          case h3 =>
            show [AO.list (ns.map .int), AO.list (((pcs l ns k).map T).map AV.str ++ [AV.str (Str.ofString "\"\\" ++ T [l.getD k 0] ++ Str.ofString "\"")]), AO.rng 0 l.length] = _
            rw [pc2, put1 (y := [34, 92, l.getD k 0, 34]) (by rw [he]; unfold pieceL; rw [hm2]; rfl)]; rfl
        | false =>
          refine' (B1 hK hx).run' 8 1 [(.str (T [l.getD k 0]), (wrK l ns k).os)] (wrS l ns (k + 1)) rfl ?i1 ?i2 ?i3 Exs.nil
          case i1 =>
            walk_at "ob2"
            exact idx ((B1 hK hx).ev 5 [] rfl trivial rfl rfl) ((B1 hK hx).ev 5 [] rfl trivial rfl rfl) (fun _ _ => rfl)
          case i2 => walk_at "sub"
          case i3 =>
            show [AO.list (ns.map .int), AO.list (((pcs l ns k).map T).map AV.str ++ [AV.str (Str.ofString "\"" ++ T [l.getD k 0] ++ Str.ofString "\"")]), AO.rng 0 l.length] = _
            rw [pc3, put1 (y := [34, l.getD k 0, 34]) (by rw [he]; unfold pieceL; rw [hm2]; rfl)]; rfl

theorem pcs_len (l : List Nat) (ns : List Int) (k : Nat) : (pcs l ns k).length = k := by unfold pcs; rw [List.length_map, List.length_range]
theorem flat_le {ls : List (List Nat)} {m : Nat} (h : ∀ x ∈ ls, x.length ≤ m) : ls.flatten.length ≤ ls.length * m := by
  induction ls with
  | nil => simp
  | cons x r ih =>
    have h1 := h x List.mem_cons_self
    have h2 := ih fun y hy => h y (List.mem_cons_of_mem _ hy)
    rw [List.flatten_cons, List.length_append, List.length_cons, Nat.succ_mul]; omega
theorem piece_le (x : Nat) (e : Bool) : (pieceL x e).length ≤ 4 := by
  unfold pieceL
  cases e <;> cases decide (x ∈ [34, 92]) <;> simp
theorem pcs_le (l : List Nat) (ns : List Int) (k : Nat) : (pcs l ns k).flatten.length ≤ 4 * k := by
  have := flat_le (ls := pcs l ns k) (m := 4) (fun x hx => by
    unfold pcs at hx
    obtain ⟨j, _, rfl⟩ := List.mem_map.mp hx
    exact piece_le _ _)
  rw [pcs_len] at this; omega

theorem writtenD (hK : c.K = KK P) (hx : c.XR = XRof LL1) {l : List Nat} {ns : List Int} (hl : l.length ≤ 200) (hn : ns.length ≤ 200) (h0 : 0 < ns.length) :
    CallR c (n + 2) (.ref 84) [.str (T l), .ref 0] [.list (ns.map .int)] (.str (T (writtenL l ns))) [.list (ns.map .int)] := by
  have hz : sizeLine = 2 ^ 24 := sizeLine_eq
  have hzl : (T l).length ≤ sizeLine := by rw [T_len]; omega
  have hjo : CallR c (n + 1) (.builtin "str.join") [.str (Str.ofString ""), .ref 1] (wrS l ns l.length).os (.str (T (writtenL l ns))) (wrS l ns l.length).os := by
    rw [T_nil, show T (writtenL l ns) = Txt.join (T []) ((pcs l ns l.length).map T) from (join_T0 _).symm]
    refine join_s rfl (joinOk_T ?_)
    have := pcs_le l ns l.length
    rw [pcs_len, List.length_nil, Nat.mul_zero]; omega
  refine' CallR.of_def (ps := [Str.ofString "word", Str.ofString "numbers"]) (σ' := ⟨[], (wrS l ns l.length).os⟩) (DefAt.of hK rfl rfl rfl rfl rfl rfl rfl rfl) (by decide) ?bind (by decide) ?r (Back.val (os' := [.list (ns.map .int)]) rfl ?cl rfl)
  case cl => walk_at "clo"
  case bind =>
    intro xs h
    match xs, h with
    | [a, b], _ => rfl
  case r =>
    refine' (B1 hK hx).run 8 1 [] ⟨[("word", .str (T l)), ("numbers", .ref 0), ("pieces", .ref 1)], [.list (ns.map .int), .list []]⟩ rfl ?f1 ?s1 rfl ?r1
    case f1 => walk_at "ob2"
    case s1 => walk_at "sub"
    case r1 =>
      refine' Exs.cons (σ₁ := wrS l ns l.length) (Ex.for (σ₁ := wrS l ns 0) (a := .ref 2) (src := .rng 0 l.length) ?g1 (.rng rfl ?g2) ?g3 ?g4) ?g5
      case g1 =>
        refine' (B1 hK hx).ev 8 [] rfl ?g6 rfl ?g7
        case g6 => walk_at "ob2"
        case g7 => rfl
      case g2 => exact small_rng (by omega)
      case g3 =>
        refine' Lp.less (Lp.loop l.length (fun k => wrS l ns k) (fun k => .int k) ?k1 ?k2 trivial rfl rfl ?k3) ?k4 rfl
        case k1 => exact fun k hk => item_rng hk
        case k2 => exact item_rngE
        case k3 => exact fun k hk => Exs.fewer (σ₁ := wrK l ns k) (by walk_at "sub") rfl (wrTurn hK hx hl hn h0 hk)
        case k4 => walk_at "sub"
      case g4 => exact fun _ _ => rfl
      case g5 =>
        refine' (B1 hK hx).ret 8 [(.str (T (writtenL l ns)), (wrS l ns l.length).os)] rfl ?m1 rfl rfl
        walk_at "ob2"
end

noncomputable section
variable {c : Cx} {n : Nat} {P : Params}

theorem chAt_T {w t : List Nat} {pos x : Nat} (h : w.drop pos = x :: t) : chAt (T w) pos = T [x] := by
  show T (cut w (some (pos : Int)) (some ((pos : Int) + 1))) = _
  rw [show ((pos : Int) + 1) = ((pos + 1 : Nat) : Int) by omega, cut_nat, h, show pos + 1 - pos = 1 by omega]; rfl
theorem chAt_end {w : List Nat} {pos : Nat} (h : w.length ≤ pos) : chAt (T w) pos = "" := by
  show T (cut w (some (pos : Int)) (some ((pos : Int) + 1))) = _
  rw [show ((pos : Int) + 1) = ((pos + 1 : Nat) : Int) by omega, cut_nat, List.drop_eq_nil_of_le h, T_nil]; simp
theorem drop_next {w t : List Nat} {pos x : Nat} (h : w.drop pos = x :: t) : w.drop (pos + 1) = t := (drop_cons h).2

theorem T_q : Str.ofString "\"" = T [34] := by decide +kernel
theorem T_b : Str.ofString "\\" = T [92] := by decide +kernel
theorem T_s : Str.ofString " " = T [32] := by decide +kernel
theorem T_nl : Str.ofString "\n" = T [10] := by decide +kernel

noncomputable def nl (x : Nat) : Int := if x = 10 then 1 else 0
theorem lnx_T (x : Nat) (ln : Int) : lnx (T [x]) ln = ln + nl x := by
  unfold lnx nl
  rw [T_nl]
  by_cases h : x = 10
  · subst h; simp
  · rw [if_neg (fun e => h (by simpa using T_inj e)), if_neg h]; omega

/-- one written sign read -/
theorem gtPiece (hK : c.K = KK P) (hx : c.XR = XRof LL1) {w t : List Nat} {pos x : Nat} {e : Bool} {ln : Int} (hw : w.length ≤ 1000) (h : w.drop pos = pieceL x e ++ t) :
    CallR c (n + 4) (.ref 49) [.ref 0] (lexA (T w) pos ln [] []) (.str (T [x])) (lexA (T w) (pos + (pieceL x e).length) (ln + nl x) [] []) := by
  have hw' : (T w).length ≤ 1000 := by rw [T_len]; exact hw
  rw [← lnx_T]
  unfold pieceL at h ⊢
  cases e with
  | true =>
    have h0 : w.drop pos = 92 :: x :: 32 :: t := h
    have h1 := drop_next h0
    have h2 := drop_next h1
    refine gtEsc (b := " ") hK hx hw' rfl ws_s rfl (by decide) ?_ (chAt_T h1) ?_
    · rw [chAt_T h0, T_b]
    · rw [chAt_T h2, T_s]
  | false =>
    cases hm : decide (x ∈ [34, 92]) with
    | true =>
      rw [hm] at h
      have h0 : w.drop pos = 34 :: 92 :: x :: 34 :: t := h
      have h1 := drop_next h0
      have h2 := drop_next h1
      have h3 := drop_next h2
      refine gtQuoteE hK hx hw' rfl ?_ ?_ (chAt_T h2) ?_
      · rw [chAt_T h0, T_q]
      · rw [chAt_T h1, T_b]
      · rw [chAt_T h3, T_q]
    | false =>
      rw [hm] at h
      have h0 : w.drop pos = 34 :: x :: 34 :: t := h
      have h1 := drop_next h0
      have h2 := drop_next h1
      have hn : x ∉ [34, 92] := of_decide_eq_false hm
      refine gtQuote hK hx hw' rfl ?_ ?_ ?_ (chAt_T h1) ?_
      · rw [T_q]; exact fun e => hn (by have := T_inj e; simp at this; simp [this])
      · rw [T_b]; exact fun e => hn (by have := T_inj e; simp at this; simp [this])
      · rw [chAt_T h0, T_q]
      · rw [chAt_T h2, T_q]

/-- how far the first k signs reach -/
noncomputable def off (l : List Nat) (ns : List Int) (k : Nat) : Nat := (pcs l ns k).flatten.length
theorem off_succ (l : List Nat) (ns : List Int) (k : Nat) : off l ns (k + 1) = off l ns k + (pieceL (l.getD k 0) (escB ns k)).length := by
  unfold off; rw [pcs_succ, List.flatten_append, List.length_append]; simp
theorem drop_off (l : List Nat) (ns : List Int) {k : Nat} (hk : k < l.length) : ∃ t, (writtenL l ns).drop (off l ns k) = pieceL (l.getD k 0) (escB ns k) ++ t := by
  have key : ∀ m, k < m → ∃ t, (pcs l ns m).flatten = (pcs l ns k).flatten ++ (pieceL (l.getD k 0) (escB ns k) ++ t) := by
    intro m
    induction m with
    | zero => intro h; omega
    | succ m ih =>
      intro h
      rw [pcs_succ, List.flatten_append]
      by_cases hm : k < m
      · obtain ⟨t, ht⟩ := ih hm
        exact ⟨t ++ [pieceL (l.getD m 0) (escB ns m)].flatten, by rw [ht]; simp⟩
      · obtain rfl : k = m := by omega
        exact ⟨[], by simp⟩
  obtain ⟨t, ht⟩ := key l.length hk
  refine ⟨t, ?_⟩
  unfold writtenL off
  rw [ht, List.drop_left]
noncomputable def lnK (l : List Nat) : Nat → Int
  | 0 => 1
  | k + 1 => lnK l k + nl (l.getD k 0)
theorem written_le (l : List Nat) (ns : List Int) : (writtenL l ns).length ≤ 4 * l.length := pcs_le l ns l.length
theorem count_piece (x : Nat) (e : Bool) : ((pieceL x e).count 10 : Int) = nl x := by
  unfold pieceL nl
  cases e <;> cases decide (x ∈ [34, 92]) <;> by_cases h : x = 10 <;> simp [h, List.count_cons]
theorem lnK_count (l : List Nat) (ns : List Int) : ∀ k, lnK l k = 1 + ((pcs l ns k).flatten.count 10 : Int)
  | 0 => by simp [lnK, pcs]
  | k + 1 => by
    rw [lnK, lnK_count l ns k, pcs_succ, List.flatten_append, List.count_append]
    have := count_piece (l.getD k 0) (escB ns k)
    rw [List.flatten_cons, List.flatten_nil, List.append_nil, Int.natCast_add]
    omega

/-! ### turning -/
noncomputable def rot (k : Nat) (l : List Nat) : List Nat := l.drop k ++ l.take k
noncomputable def sgs (l : List Nat) : List Str := l.map fun x => T [x]
theorem rot_head {l : List Nat} {k : Nat} (hk : k < l.length) : rot k l = l.getD k 0 :: (l.drop (k + 1) ++ l.take k) := by
  unfold rot
  rw [List.drop_eq_getElem_cons hk, List.getD_eq_getElem?_getD, List.getElem?_eq_getElem hk]; rfl
theorem rot_next {l : List Nat} {k : Nat} (hk : k < l.length) : rot (k + 1) l = (l.drop (k + 1) ++ l.take k) ++ [l.getD k 0] := by
  unfold rot
  rw [List.take_add_one, List.getElem?_eq_getElem hk, List.getD_eq_getElem?_getD, List.getElem?_eq_getElem hk]; simp
theorem rot_len {l : List Nat} {k : Nat} (hk : k ≤ l.length) : (rot k l).length = l.length := by
  unfold rot; rw [List.length_append, List.length_drop, List.length_take]; omega
theorem flat_one (l : List Nat) : (l.map fun x => [x]).flatten = l := by
  induction l with
  | nil => rfl
  | cons x t ih =>
    rw [List.map_cons, List.flatten_cons, ih]; rfl
theorem join_sgs (l : List Nat) : Txt.join (T []) (sgs l) = T l := by
  unfold sgs
  rw [show l.map (fun x => T [x]) = (l.map fun x => [x]).map T by rw [List.map_map]; rfl, join_T0]
  rw [flat_one]
theorem sgs_range (l : List Nat) : (List.range l.length).map (fun k => AV.str (T [l.getD k 0])) = (sgs l).map .str := by
  apply List.ext_getElem?
  intro i
  unfold sgs
  rw [List.getElem?_map, List.getElem?_map, List.getElem?_map]
  by_cases hi : i < l.length
  · rw [List.getElem?_range hi, List.getElem?_eq_getElem hi]
    show some (AV.str (T [l.getD i 0])) = some (AV.str (T [l[i]]))
    rw [List.getD_eq_getElem?_getD, List.getElem?_eq_getElem hi]; rfl
  · rw [List.getElem?_eq_none (by rw [List.length_range]; omega), List.getElem?_eq_none (by omega)]; rfl
theorem sgs_joinOk (l : List Nat) (h : l.length ≤ 1000) : JoinOk (T []) (sgs l) = true := by
  unfold sgs
  rw [show l.map (fun x => T [x]) = (l.map fun x => [x]).map T by rw [List.map_map]; rfl]
  refine joinOk_T ?_
  rw [flat_one, List.length_nil, Nat.mul_zero]; omega
end

noncomputable section
variable {c : Cx} {n : Nat} {P : Params}

/-- the objects of _law_turns -/
noncomputable def tnO (ns : List Int) (w : Str) (pos : Nat) (ln : Int) (pb : List Str) (js : List AO) : List AO := [
  .list (ns.map .int), .x (.tab [6, 8]), .cell (some (.ref 11)), .cell (some (.str w)), .cell (some (.ref 5)), .list [.int pos], .x (.code 0), .x (.fn 0 [("written", 3), ("at", 4)] 6 none), .x (.code 1), .x (.fn 1 [] 8 (some 10)), .x (.rdict 7),
  .x (.inst [("lineno", .int ln), ("instream", .ref 9), ("whitespace", .str wsS), ("pushback", .ref 12)]), .list (pb.map .str)] ++ js

noncomputable def tnπ : List Nat := [11, 12, 9, 10, 7, 4, 3, 5, 6, 8]

theorem lexClo {w : Str} {pos : Nat} {ln : Int} {pb : List Str} : ∀ o ∈ lexA w pos ln (pb.map .str) [], ∀ i ∈ o.refs, i < (lexA w pos ln (pb.map .str) []).length := by walk_at "clo"

theorem tnHeld {ns : List Int} {w : Str} {pos : Nat} {ln : Int} {pb : List Str} {js : List AO} {m : Nat} : Held (Mine.out tnπ m) (tnO ns w pos ln pb js) tnπ (lexA w pos ln (pb.map .str) []) := by
  refine ⟨rfl, ?_, rfl, rfl, rfl, rfl, rfl, rfl, rfl, rfl, trivial⟩
  show some (AO.list (pb.map .str)) = some (AO.list ((pb.map AV.str).map (AV.ren (Mine.out tnπ m))))
  rw [ren_strs]
theorem tnUpd {ns : List Int} {w : Str} {pos pos' : Nat} {ln ln' : Int} {pb pb' : List Str} {js : List AO} {m : Nat} : upd (Mine.out tnπ m) tnπ (lexA w pos' ln' (pb'.map .str) []) (tnO ns w pos ln pb js) ++ ([] : List AO).map (AO.ren (Mine.out tnπ m)) = tnO ns w pos' ln' pb' js := by
  show [AO.list (ns.map .int), _, _, _, _, _, _, _, _, _, _, _, AO.list ((pb'.map AV.str).map (AV.ren (Mine.out tnπ m)))] ++ js ++ [] = _
  rw [ren_strs, List.append_nil]; rfl
theorem tnCall {ns : List Int} {w : Str} {pos pos' : Nat} {ln ln' : Int} {pb pb' : List Str} {js : List AO} {f : Value} {args : List AV} {v : AV} (h : CallR c n f (.ref 0 :: args) (lexA w pos ln (pb.map .str) []) v (lexA w pos' ln' (pb'.map .str) [])) (ha : ∀ r, args.map (AV.ren r) = args) (hv : ∀ r, v.ren r = v) :
    CallR c n f (.ref 11 :: args) (tnO ns w pos ln pb js) v (tnO ns w pos' ln' pb' js) := by
  have := Op.frame (c := c) (n := n) (t := fun xs => call f xs) (args := .ref 0 :: args) (v := v) (os₀ := lexA w pos ln (pb.map .str) []) (π := tnπ) (os := tnO ns w pos ln pb js) (new := []) (os₀' := lexA w pos' ln' (pb'.map .str) []) (by rw [List.append_nil]; exact h) rfl (by decide) tnHeld lexClo
  exact Op.as this (congrArg (AV.ref 11 :: ·) (ha _)) (hv _) tnUpd

noncomputable def trn (l : List Nat) : List Str := (List.range l.length).map fun k => T (rot (k + 1) l)

/-- at the end of _law_turns -/
noncomputable def tnE (ns : List Int) (l : List Nat) : List AO := tnO ns (T (writtenL l ns)) (off l ns l.length) (lnK l l.length) (sgs (rot l.length l)) [.list ((sgs l).map .str), .list ((sgs l).map .str), .list ((trn l).map .str), .rng 0 l.length]

theorem sgs_snoc {l : List Nat} {x : Nat} : (sgs l).map AV.str ++ [AV.str (T [x])] = (sgs (l ++ [x])).map .str := by unfold sgs; simp
noncomputable def trnK (l : List Nat) (k : Nat) : List Str := (List.range k).map fun j => T (rot (j + 1) l)
theorem trnK_succ (l : List Nat) (k : Nat) : (trnK l k).map AV.str ++ [AV.str (T (rot (k + 1) l))] = (trnK l (k + 1)).map .str := by unfold trnK; rw [List.range_succ]; simp

set_option maxHeartbeats 4000000 in
theorem turnsD (hK : c.K = KK P) (hx : c.XR = XRof LL1) (M : Lm c LL1 76) {l : List Nat} {ns : List Int} (hl : l.length ≤ 200) (hn : ns.length ≤ 200) (h0 : 0 < ns.length) (hch : ∀ x ∈ l, x < 1000) :
    CallR c (n + 10) (.ref 89) [.str (T l), .ref 0] [.list (ns.map .int), .x (.tab [])] (.ref 4) [.list (ns.map .int), .x (.tab [2, 3]), .x (.code 0), .x (.code 1), .list ((trn l).map .str)] := by
  have hz : sizeLine = 2 ^ 24 := sizeLine_eq
  have hzl : (T l).length ≤ sizeLine := by rw [T_len]; omega
  have hw : (writtenL l ns).length ≤ 1000 := by have := written_le l ns; omega
  refine Op.sel 2 [6, 8, 15] (v := .ref 15) (os₁ := tnE ns l) ?call rfl (by decide) ?held ?cl rfl
  case held => exact ⟨by show some (AO.list (ns.map .int)) = some (AO.list ((ns.map AV.int).map (AV.ren _))); rw [ren_ints], rfl, rfl, rfl, by show some (AO.list ((trn l).map .str)) = some (AO.list (((trn l).map AV.str).map (AV.ren _))); rw [ren_strs], trivial⟩
  case cl => walk_at "clo"
  refine CodeR.call ?_
  refine' CodeR.of_cells (ps := [Str.ofString "word", Str.ofString "numbers"]) (cn := [Str.ofString "ring"]) (σ' := ⟨[], tnE ns l⟩) (DefAt.of hK rfl rfl rfl rfl rfl rfl rfl rfl) rfl ?hcs ?nd ?bind ?hps ?hcn ?rr (Back.all)
  case hcs => exact fun _ => rfl
  case nd => decide
  case bind =>
    intro xs h
    match xs, h with
    | [a, b], _ => rfl
  case hps => decide
  case hcn => decide
  case rr =>
    have h1 : CallR c (n + 9) (.ref 84) [.str (T l), .ref 0] [.list (ns.map .int), .x (.tab []), .cell none] (.str (T (writtenL l ns))) [.list (ns.map .int), .x (.tab []), .cell none] := by
      have := Op.frame (new := []) (os₀ := [.list (ns.map .int)]) (os₀' := [.list (ns.map .int)]) (os := [.list (ns.map .int), .x (.tab []), .cell none]) (π := [0]) (by rw [List.append_nil]; exact writtenD (n := n + 7) hK hx hl hn h0) rfl (by decide) ⟨by show some (AO.list (ns.map .int)) = some (AO.list ((ns.map AV.int).map (AV.ren _))); rw [ren_ints], trivial⟩ (by walk_at "clo")
      refine Op.as this rfl rfl ?_
      show [AO.list ((ns.map AV.int).map (AV.ren (Mine.out [0] 3))), _, _] ++ [] = _
      rw [ren_ints]; rfl
    have h2 : CallR c (n + 9) (.ref 77) [.str (T (writtenL l ns))] [.list (ns.map .int), .x (.tab []), .cell none] (.ref 11) [.list (ns.map .int), .x (.tab [6, 8]), .cell none, .cell (some (.str (T (writtenL l ns)))), .cell (some (.ref 5)), .list [.int 0], .x (.code 0), .x (.fn 0 [("written", 3), ("at", 4)] 6 none), .x (.code 1), .x (.fn 1 [] 8 (some 10)), .x (.rdict 7),
        .x (.inst [("lineno", .int 1), ("instream", .ref 9), ("whitespace", .str wsS), ("pushback", .ref 12)]), .list []] := by
      have := Op.frame (os := [.list (ns.map .int), .x (.tab []), .cell none]) (π := [1]) (os₀' := [.x (.tab [4, 6])]) (new := (lex1 (T (writtenL l ns))).tail) (lexNew (n := n + 3) hK hx M) rfl (by decide) ⟨rfl, trivial⟩ (by walk_at "clo")
      exact this
    refine' (B1 hK hx).run 8 2 [(.str (T (writtenL l ns)), [.list (ns.map .int), .x (.tab []), .cell none]), (.ref 11, [.list (ns.map .int), .x (.tab [6, 8]), .cell none, .cell (some (.str (T (writtenL l ns)))), .cell (some (.ref 5)), .list [.int 0], .x (.code 0), .x (.fn 0 [("written", 3), ("at", 4)] 6 none), .x (.code 1), .x (.fn 1 [] 8 (some 10)), .x (.rdict 7),
        .x (.inst [("lineno", .int 1), ("instream", .ref 9), ("whitespace", .str wsS), ("pushback", .ref 12)]), .list []])] ⟨[("word", .str (T l)), ("numbers", .ref 0), ("written", .str (T (writtenL l ns)))], tnO ns (T (writtenL l ns)) 0 1 [] []⟩ rfl ?f1 ?s1 rfl ?r1
    case f1 => walk_at "ob2"
    case s1 => walk_at "sub"
    case r1 =>
      refine' Exs.cons (Ex.assignMap (vs := [("word", .str (T l)), ("numbers", .ref 0), ("written", .str (T (writtenL l ns)))]) (src := .str (T l)) l.length (fun k => tnO ns (T (writtenL l ns)) (off l ns k) (lnK l k) [] []) (fun k => .str (T [l.getD k 0])) (fun k => .str (T [l.getD k 0])) ?c1 .str ?c2 ?c3 ?c4 ?c5 ?c6 ?c7 ?c8 (sto_ok rfl) ?c10 ?c11) ?r2
      case c1 => exact (B1 hK hx).ev 5 [] rfl trivial rfl rfl
      case c2 => intro k hk; exact item_str hk
      case c3 => exact item_strE
      case c4 => exact trivial
      case c5 => rfl
      case c6 =>
        intro k hk
        refine ⟨_, (B1 hK hx).ev 8 [(.str (T [l.getD k 0]), tnO ns (T (writtenL l ns)) (off l ns (k + 1)) (lnK l (k + 1)) [] [])] rfl ?_ rfl rfl⟩
        obtain ⟨t, ht⟩ := drop_off l ns hk
        have hg := tnCall (ns := ns) (js := []) (pb := []) (pb' := []) (gtPiece (n := n + 5) hK hx (ln := lnK l k) hw ht) (fun _ => rfl) (fun _ => rfl)
        rw [← off_succ] at hg
        walk_at "ob2"
      case c7 => omega
      case c8 => exact compOk_of rfl rfl rfl rfl
      case c10 => exact fun env he => by cases env; dsimp only at he; subst he; rfl
      case c11 => exact fun _ _ => rfl
      rw [sgs_range]
      have hend := tnCall (n := n + 9) (ns := ns) (js := [.list ((sgs l).map .str), .list ((sgs l).map .str)]) (pb := []) (pb' := []) (gtEnd (n := n + 5) hK hx (w := T (writtenL l ns)) (pos := off l ns l.length) (ln := lnK l l.length) (by rw [T_len]; exact hw) (chAt_end (Nat.le_refl _))) (fun _ => rfl) (fun _ => rfl)
      have hok : (sgs l).all PyData.strOk = true := by
        rw [List.all_eq_true]
        intro x hx
        unfold sgs at hx
        obtain ⟨y, hy, rfl⟩ := List.mem_map.mp hx
        have := hch y hy
        show (T [y]).cps.all _ = true
        simp [T]; omega
      refine' Exs.fewer (σ₁ := ⟨[("word", .str (T l)), ("written", .str (T (writtenL l ns))), ("read", .ref 13)], tnO ns (T (writtenL l ns)) (off l ns l.length) (lnK l l.length) [] [.list ((sgs l).map .str)]⟩) (by walk_at "sub") rfl ?r3
      refine' (B1 hK hx).test 8 [(.ref 14, tnO ns (T (writtenL l ns)) (off l ns l.length) (lnK l l.length) [] [.list ((sgs l).map .str), .list ((sgs l).map .str)]), (.bool false, tnO ns (T (writtenL l ns)) (off l ns l.length) (lnK l l.length) [] [.list ((sgs l).map .str), .list ((sgs l).map .str)]), (.str "", tnO ns (T (writtenL l ns)) (off l ns l.length) (lnK l l.length) [] [.list ((sgs l).map .str), .list ((sgs l).map .str)])] false rfl ?d1 ?d2 ?r4
      case d1 =>
        walk_at "ob2"
        · exact list_str hzl
        · have := ne_ls (c := c) (n := n + 9) (i := 13) (j := 14) (os := tnO ns (T (writtenL l ns)) (off l ns l.length) (lnK l l.length) [] [.list ((sgs l).map .str), .list ((sgs l).map .str)]) (xs := sgs l) (ys := sgs l) rfl rfl hok hok
          rw [decide_eq_true rfl] at this
          exact this
      case d2 =>
        show ((lnK l l.length) != 1 + Txt.count (T (writtenL l ns)) (Str.ofString "\n")) = false
        rw [T_nl, count_T, lnK_count l ns]
        simp [writtenL]
      case r4 =>
        refine' Exs.fewer (σ₁ := ⟨[("word", .str (T l)), ("read", .ref 13)], tnO ns (T (writtenL l ns)) (off l ns l.length) (lnK l l.length) (sgs (l.take 0)) [.list ((sgs l).map .str), .list ((sgs l).map .str)]⟩) (by walk_at "sub") rfl ?r5
        refine' Exs.cons (σ₁ := ⟨[("word", .str (T l)), ("read", .ref 13)], tnO ns (T (writtenL l ns)) (off l ns l.length) (lnK l l.length) (sgs (l.take l.length)) [.list ((sgs l).map .str), .list ((sgs l).map .str)]⟩) (Ex.for (a := .ref 13) (src := .list 13) (σ₁ := ⟨[("word", .str (T l)), ("read", .ref 13)], tnO ns (T (writtenL l ns)) (off l ns l.length) (lnK l l.length) (sgs (l.take 0)) [.list ((sgs l).map .str), .list ((sgs l).map .str)]⟩) ?e1 (.list rfl) (Lp.loop l.length (fun k => ⟨[("word", .str (T l)), ("read", .ref 13)], tnO ns (T (writtenL l ns)) (off l ns l.length) (lnK l l.length) (sgs (l.take k)) [.list ((sgs l).map .str), .list ((sgs l).map .str)]⟩) (fun k => .str (T [l.getD k 0])) ?e2 ?e3 ⟨_, rfl⟩ rfl rfl ?e4) ?e5) ?r6
        case e1 => exact (B1 hK hx).ev 5 [] rfl trivial rfl rfl
        case e5 => exact fun _ _ => rfl
        case e2 =>
          intro k hk
          show ((sgs l).map AV.str)[k]? = _
          unfold sgs
          rw [List.getElem?_map, List.getElem?_map, List.getElem?_eq_getElem hk, List.getD_eq_getElem?_getD, List.getElem?_eq_getElem hk]; rfl
        case e3 =>
          show ((sgs l).map AV.str)[l.length]? = _
          unfold sgs
          rw [List.getElem?_map, List.getElem?_map, List.getElem?_eq_none (Nat.le_refl _)]; rfl
        case e4 =>
          intro k hk
          have hpu := tnCall (n := n + 9) (ns := ns) (js := [.list ((sgs l).map .str), .list ((sgs l).map .str)]) (pb := sgs (l.take k)) (pb' := sgs (l.take (k + 1))) (by
            have := pushTok (n := n + 8) hK hx (w := T (writtenL l ns)) (t := T [l.getD k 0]) (pos := off l ns l.length) (ln := lnK l l.length) (pb := (sgs (l.take k)).map .str) (js := []) (by unfold sgs; simp; omega)
            rw [sgs_snoc, show l.take k ++ [l.getD k 0] = l.take (k + 1) by rw [List.take_add_one, List.getElem?_eq_getElem hk, List.getD_eq_getElem?_getD, List.getElem?_eq_getElem hk]; rfl] at this
            exact this) (fun _ => rfl) (fun _ => rfl)
          refine' (B1 hK hx).run 8 1 [(.none, tnO ns (T (writtenL l ns)) (off l ns l.length) (lnK l l.length) (sgs (l.take (k + 1))) [.list ((sgs l).map .str), .list ((sgs l).map .str)])] ⟨[("word", .str (T l)), ("read", .ref 13)], tnO ns (T (writtenL l ns)) (off l ns l.length) (lnK l l.length) (sgs (l.take (k + 1))) [.list ((sgs l).map .str), .list ((sgs l).map .str)]⟩ rfl ?m1 ?m2 rfl Exs.nil
          case m1 => walk_at "ob2"
          case m2 => walk_at "sub"
        case r6 =>
          have hj0 : l.take l.length = rot 0 l := by unfold rot; simp
          rw [hj0]
          refine' (B1 hK hx).run 8 1 [] ⟨[("word", .str (T l)), ("turns", .ref 15)], tnO ns (T (writtenL l ns)) (off l ns l.length) (lnK l l.length) (sgs (rot 0 l)) [.list ((sgs l).map .str), .list ((sgs l).map .str), .list ((trnK l 0).map .str)]⟩ rfl ?k1 ?k2 rfl ?r7
          case k1 => walk_at "ob2"
          case k2 => walk_at "sub"
          case r7 =>
            refine' Exs.cons (σ₁ := ⟨[("turns", .ref 15)], tnE ns l⟩) (Ex.for (a := .ref 16) (src := .rng 0 l.length) (σ₁ := ⟨[("word", .str (T l)), ("turns", .ref 15)], tnO ns (T (writtenL l ns)) (off l ns l.length) (lnK l l.length) (sgs (rot 0 l)) [.list ((sgs l).map .str), .list ((sgs l).map .str), .list ((trnK l 0).map .str), .rng 0 l.length]⟩) ?i1 (.rng rfl (small_rng (by omega))) (Lp.fewer (σ₁ := ⟨[("turns", .ref 15)], tnO ns (T (writtenL l ns)) (off l ns l.length) (lnK l l.length) (sgs (rot 0 l)) [.list ((sgs l).map .str), .list ((sgs l).map .str), .list ((trnK l 0).map .str), .rng 0 l.length]⟩) (by walk_at "sub") rfl <| Lp.loop l.length (fun k => ⟨[("turns", .ref 15)], tnO ns (T (writtenL l ns)) (off l ns l.length) (lnK l l.length) (sgs (rot k l)) [.list ((sgs l).map .str), .list ((sgs l).map .str), .list ((trnK l k).map .str), .rng 0 l.length]⟩) (fun k => .int k) ?i2 ?i3 trivial rfl rfl ?i4) ?i5) ?r8
            case i1 =>
              refine' (B1 hK hx).ev 8 [] rfl ?j1 rfl ?j2
              case j1 => walk_at "ob2"
              case j2 => rfl
            case i2 => exact fun k hk => item_rng hk
            case i3 => exact item_rngE
            case i5 => exact fun _ _ => rfl
            case i4 => 
              intro k hk
              have hlen1 : (sgs (l.drop (k + 1) ++ l.take k)).length + 1 ≤ 1000 := by unfold sgs; simp; omega
              have hg0 := gtPush (n := n + 8) hK hx (w := T (writtenL l ns)) (t := T [l.getD k 0]) (pos := off l ns l.length) (ln := lnK l l.length) (pb := (sgs (l.drop (k + 1) ++ l.take k)).map .str) (js := []) (by rw [List.length_map]; exact hlen1)
              have hp0 := pushTok (n := n + 8) hK hx (w := T (writtenL l ns)) (t := T [l.getD k 0]) (pos := off l ns l.length) (ln := lnK l l.length) (pb := (sgs (l.drop (k + 1) ++ l.take k)).map .str) (js := []) (by rw [List.length_map]; omega)
              rw [sgs_snoc, ← rot_next hk] at hp0
              have hg := tnCall (n := n + 9) (ns := ns) (js := [.list ((sgs l).map .str), .list ((sgs l).map .str), .list ((trnK l k).map .str), .rng 0 l.length]) (pb := sgs (rot k l)) (pb' := sgs (l.drop (k + 1) ++ l.take k)) (by rw [rot_head hk]; exact hg0) (fun _ => rfl) (fun _ => rfl)
              have hp := tnCall (n := n + 9) (ns := ns) (js := [.list ((sgs l).map .str), .list ((sgs l).map .str), .list ((trnK l k).map .str), .rng 0 l.length]) (pb' := sgs (rot (k + 1) l)) (pb := sgs (l.drop (k + 1) ++ l.take k)) hp0 (fun _ => rfl) (fun _ => rfl)
              have hjo : CallR c (n + 9) (.builtin "str.join") [.str (Str.ofString ""), .ref 12] (tnO ns (T (writtenL l ns)) (off l ns l.length) (lnK l l.length) (sgs (rot (k + 1) l)) [.list ((sgs l).map .str), .list ((sgs l).map .str), .list ((trnK l k).map .str), .rng 0 l.length]) (.str (T (rot (k + 1) l))) (tnO ns (T (writtenL l ns)) (off l ns l.length) (lnK l l.length) (sgs (rot (k + 1) l)) [.list ((sgs l).map .str), .list ((sgs l).map .str), .list ((trnK l k).map .str), .rng 0 l.length]) := by
                rw [T_nil, ← join_sgs (rot (k + 1) l)]
                exact join_s rfl (sgs_joinOk _ (by rw [rot_len (by omega)]; omega))
              have htz : ((trnK l k).map AV.str).length ≤ sizeLine := by unfold trnK; rw [List.length_map, List.length_map, List.length_range]; omega
              refine' (B1 hK hx).run 8 2 [(.str (T [l.getD k 0]), tnO ns (T (writtenL l ns)) (off l ns l.length) (lnK l l.length) (sgs (l.drop (k + 1) ++ l.take k)) [.list ((sgs l).map .str), .list ((sgs l).map .str), .list ((trnK l k).map .str), .rng 0 l.length]), (.none, tnO ns (T (writtenL l ns)) (off l ns l.length) (lnK l l.length) (sgs (rot (k + 1) l)) [.list ((sgs l).map .str), .list ((sgs l).map .str), .list ((trnK l k).map .str), .rng 0 l.length]),
                (.str (T (rot (k + 1) l)), tnO ns (T (writtenL l ns)) (off l ns l.length) (lnK l l.length) (sgs (rot (k + 1) l)) [.list ((sgs l).map .str), .list ((sgs l).map .str), .list ((trnK l k).map .str), .rng 0 l.length])]
                ⟨[("turns", .ref 15)], tnO ns (T (writtenL l ns)) (off l ns l.length) (lnK l l.length) (sgs (rot (k + 1) l)) [.list ((sgs l).map .str), .list ((sgs l).map .str), .list ((trnK l (k + 1)).map .str), .rng 0 l.length]⟩ rfl ?l1 ?l2 ?l3 Exs.nil
              case l1 => walk_at "ob2"
              case l2 => walk_at "sub"
              case l3 => rw [← trnK_succ]; rfl
            case r8 => exact (B1 hK hx).ret 5 [] rfl trivial rfl rfl
end

noncomputable section
variable {c : Cx} {n : Nat} {P : Params}

/-- p stands in l -/
noncomputable def infx (p l : List Nat) : Bool := (fnd p l 0).isSome

theorem ellT (hK : c.K = KK P) (hx : c.XR = XRof LL1) {p l : List Nat} (hp : 46 ∉ p) (hpl : p.length ≤ 900) (hl : l.length ≤ 1000) : CallR c (n + 1) (.ref 21) [.str (T (dots p)), .str (T l)] [] (.bool (infx p l)) [] := by
  have hf : ∀ k : Nat, find4 (T l) (T p) 0 (T l).length = k → fnd p l 0 = some k := fun k h => by
    rw [find4_T l p 0 (Nat.zero_le _), List.drop_zero] at h
    cases e : fnd p l 0 with
    | none => rw [e] at h; simp at h
    | some j => rw [e] at h; simp at h; rw [show j = k by omega]
  have := ell_call (c := c) (n := n) hK hx (want := T (dots p)) (got := T l) (p := T p) (dots_in p hp) (dots_split p hp) (by rw [T_len]; simp [dots]; omega) (by rw [T_len]; exact hl) (by rw [T_len]; omega) (by rw [dots_parts p hp]; exact Nat.le_trans (by decide) sz1000)
    (by rw [T_nil, find4_T l [] 0 (Nat.zero_le _), fnd_nil])
    (fun k h => by
      have := fnd_le p l 0 k (hf k h)
      rw [T_nil, T_len p, find4_T l [] (k + p.length) (by omega), fnd_nil])
    (by
      rw [find4_T l p 0 (Nat.zero_le _), List.drop_zero]
      cases fnd p l 0 with
      | none => exact .inl rfl
      | some j => exact .inr ⟨j, rfl⟩)
  have e : decide (find4 (T l) (T p) 0 (T l).length ≠ -1) = infx p l := by
    rw [find4_T l p 0 (Nat.zero_le _), List.drop_zero]
    unfold infx
    cases fnd p l 0 with
    | none => rfl
    | some j => exact decide_eq_true (by show (j : Int) ≠ -1; omega)
  rw [e] at this
  exact this

/-- the words that go on both ways, their sizes -/
noncomputable def bw (lo hi : Nat) (tw : List Nat) : Nat → List (List Nat) → List Int → List Int
  | 0, _, s => s
  | _ + 1, [], s => s
  | m + 1, p :: r, s => bif infx (p ++ [lo]) tw && infx (p ++ [hi]) tw then bw lo hi tw m (r ++ [lo :: p, hi :: p]) (s ++ [(p.length : Int)]) else bw lo hi tw m r s

noncomputable def bwG (pb : List Str) (js : List AO) : List AO := lex2p (T []) ++ [.x (.inst [("lineno", .int 1), ("instream", .ref 7), ("whitespace", .str wsS), ("pushback", .ref 10)]), .list (pb.map .str)] ++ js
abbrev bwO (pb : List Str) (sz : List Int) (js : List AO) : List AO := bwG pb ([.list (sz.map .int)] ++ js)
noncomputable def bwπ : List Nat := [9, 10, 7, 8, 6, 4, 3, 5, 1, 2]

theorem bwHeld {pb : List Str} {js : List AO} {m : Nat} : Held (Mine.out bwπ m) (bwG pb js) bwπ (lexA (T []) 0 1 (pb.map .str) []) := by
  refine ⟨rfl, ?_, rfl, rfl, rfl, rfl, rfl, rfl, rfl, rfl, trivial⟩
  show some (AO.list (pb.map .str)) = some (AO.list ((pb.map AV.str).map (AV.ren (Mine.out bwπ m))))
  rw [ren_strs]
theorem bwUpd {pb pb' : List Str} {js : List AO} {m : Nat} : upd (Mine.out bwπ m) bwπ (lexA (T []) 0 1 (pb'.map .str) []) (bwG pb js) ++ ([] : List AO).map (AO.ren (Mine.out bwπ m)) = bwG pb' js := by
  show [_, _, _, _, _, _, _, _, _, _, AO.list ((pb'.map AV.str).map (AV.ren (Mine.out bwπ m)))] ++ js ++ [] = _
  rw [ren_strs, List.append_nil]; rfl
theorem bwCall {pb pb' : List Str} {js : List AO} {f : Value} {args : List AV} {v : AV} (h : CallR c n f (.ref 0 :: args) (lexA (T []) 0 1 (pb.map .str) []) v (lexA (T []) 0 1 (pb'.map .str) [])) (ha : ∀ r, args.map (AV.ren r) = args) (hv : ∀ r, v.ren r = v) :
    CallR c n f (.ref 9 :: args) (bwG pb js) v (bwG pb' js) := by
  have := Op.frame (c := c) (n := n) (t := fun xs => call f xs) (args := .ref 0 :: args) (v := v) (os₀ := lexA (T []) 0 1 (pb.map .str) []) (π := bwπ) (os := bwG pb js) (new := []) (os₀' := lexA (T []) 0 1 (pb'.map .str) []) (by rw [List.append_nil]; exact h) rfl (by decide) bwHeld lexClo
  exact Op.as this (congrArg (AV.ref 9 :: ·) (ha _)) (hv _) bwUpd

noncomputable def bwS (lo hi : Nat) (tw : List Nat) (q : List (List Nat)) (s : List Int) (js : List AO) : S := ⟨[("low", .str (T [lo])), ("high", .str (T [hi])), ("twice", .str (T tw)), ("line", .ref 9), ("sizes", .ref 11)], bwO (q.map T) s js⟩
noncomputable def bwP (lo hi : Nat) (tw : List Nat) (p : List Nat) (q : List (List Nat)) (s : List Int) (js : List AO) : S := ⟨[("piece", .str (T p)), ("low", .str (T [lo])), ("high", .str (T [hi])), ("twice", .str (T tw)), ("line", .ref 9), ("sizes", .ref 11)], bwO (q.map T) s js⟩

theorem dotsT (p : List Nat) (x : Nat) : Str.ofString "..." ++ T p ++ T [x] ++ Str.ofString "..." = T (dots (p ++ [x])) := by
  rw [T_dot3, T_app, T_app, T_app]; rfl

theorem bwCut {fd : FD} {sts : List Stmt} {σ : S} {f : AF} {lo hi N : Nat} {tw : List Nat} {q : List (List Nat)} {s : List Int} {j : List AO} (hl : σ.os.length = 13) (hf : f.refs = []) (go : Exs c n fd sts σ f (bwS lo hi tw q s ([.rng 0 N] ++ j))) : Exs c n fd sts σ f (bwS lo hi tw q s [.rng 0 N]) :=
  Exs.cut (os' := bwO (q.map T) s [.rng 0 N]) (js := j) go (by rw [hl]; rfl) (by walk_at "clo") (vsLt_of rfl) (by rw [hf]; exact fun _ h => nomatch h)

theorem bwTurn0 (hK : c.K = KK P) (hx : c.XR = XRof LL1) {lo hi N : Nat} {tw p : List Nat} {q : List (List Nat)} {s : List Int} {k : Int} (hlo : lo < 1000) (hhi : hi < 1000) (hlo' : lo ≠ 46) (hhi' : hi ≠ 46) (htw : tw.length ≤ 400) (hp : p.length ≤ 500) (hp46 : 46 ∉ p)
    (hq : ∀ p' ∈ p :: q, ∀ x ∈ p', x < 1000) (hql : q.length ≤ 500) (hs : s.length ≤ 500) :
    Exs c (n + 9) (fdK P 96) (forBody (stK P 96 3)) ⟨put "step" (.int k) (bwS lo hi tw (p :: q) s [.rng 0 N]).vs, (bwS lo hi tw (p :: q) s [.rng 0 N]).os⟩ .next
      (bif infx (p ++ [lo]) tw && infx (p ++ [hi]) tw then bwS lo hi tw (q ++ [lo :: p, hi :: p]) (s ++ [(p.length : Int)]) [.rng 0 N, .list []] else bwS lo hi tw q s [.rng 0 N, .list []]) := by
  have hz : sizeLine = 2 ^ 24 := sizeLine_eq
  have hok : (((p :: q).map T)).all PyData.strOk = true := by
    rw [List.all_eq_true]
    intro x hx
    obtain ⟨y, hy, rfl⟩ := List.mem_map.mp hx
    show (T y).cps.all _ = true
    rw [Array.all_eq_true']
    intro z hz'
    have := hq y hy z (by simpa [T] using hz')
    simp; omega
  have hcmp : Op2 c (n + 9) (compareOp .Eq) (.ref 10) (.ref 13) (bwO ((p :: q).map T) s [.rng 0 N, .list []]) (.bool false) (bwO ((p :: q).map T) s [.rng 0 N, .list []]) := by
    have := eq_ls (c := c) (n := n + 9) (i := 10) (j := 13) (os := bwO ((p :: q).map T) s [.rng 0 N, .list []]) (xs := (p :: q).map T) (ys := []) rfl rfl hok rfl
    rw [decide_eq_false (by simp)] at this
    exact this
  have hget : CallR c (n + 9) (.ref 49) [.ref 9] (bwO ((p :: q).map T) s [.rng 0 N, .list []]) (.str (T p)) (bwO (q.map T) s [.rng 0 N, .list []]) :=
    bwCall (args := []) (pb := (p :: q).map T) (pb' := q.map T) (gtPush (n := n + 8) hK hx (w := T []) (t := T p) (pos := 0) (ln := 1) (pb := (q.map T).map .str) (js := []) (by rw [List.length_map, List.length_map]; omega)) (fun _ => rfl) (fun _ => rfl)
  have hell : ∀ (x : Nat) (os : List AO), x ≠ 46 → CallR c (n + 9) (.ref 21) [.str (Str.ofString "..." ++ T p ++ T [x] ++ Str.ofString "..."), .str (T tw)] os (.bool (infx (p ++ [x]) tw)) os := fun x os hx46 => by
    rw [dotsT]
    exact Op.bare (Op.up (by omega) (ellT (n := n) hK hx (p := p ++ [x]) (l := tw) (fun h => (List.mem_append.mp h).elim hp46 fun h => hx46 (List.mem_singleton.mp h).symm) (by simp; omega) (by omega))) (fun _ => rfl) (fun _ => rfl)
  have hd3 : (Str.ofString "...").length = 3 := rfl
  have hsz : ∀ x : Nat, (Str.ofString "...").length + (T p).length ≤ sizeLine ∧ (Str.ofString "..." ++ T p).length + (T [x]).length ≤ sizeLine ∧ (Str.ofString "..." ++ T p ++ T [x]).length + (Str.ofString "...").length ≤ sizeLine := fun x => by
    rw [Str.length_append, Str.length_append, Str.length_append, T_len, T_len, hd3]
    simp; omega
  obtain ⟨z1, z2, z3⟩ := hsz lo
  obtain ⟨y1, y2, y3⟩ := hsz hi
  refine' (B1 hK hx).test 8 [(.bool false, bwO ((p :: q).map T) s [.rng 0 N, .list []])] false rfl ?f1 rfl ?r1
  case f1 => walk_at "ob2"
  refine' (B1 hK hx).run 8 1 [(.str (T p), bwO (q.map T) s [.rng 0 N, .list []])] (bwP lo hi tw p q s [.rng 0 N, .list []]) rfl ?f2 ?s2 rfl ?r2
  case f2 => walk_at "ob2"
  case s2 => walk_at "sub"
  cases h1 : infx (p ++ [lo]) tw with
  | false =>
    refine' (B1 hK hx).test 8 [(.bool false, bwO (q.map T) s [.rng 0 N, .list []])] false rfl ?f3 rfl ?r3
    case f3 =>
      walk_at "ob2"
      exact h1 ▸ hell lo _ hlo'
    exact Exs.done (σ₁ := bwS lo hi tw q s [.rng 0 N, .list []]) (by walk_at "sub") rfl
  | true =>
    refine' (B1 hK hx).test 8 [(.bool true, bwO (q.map T) s [.rng 0 N, .list []])] true rfl ?f4 rfl ?r4
    case f4 =>
      walk_at "ob2"
      exact h1 ▸ hell lo _ hlo'
    cases h2 : infx (p ++ [hi]) tw with
    | false =>
      refine' (B1 hK hx).test 8 [(.bool false, bwO (q.map T) s [.rng 0 N, .list []])] false rfl ?f5 rfl ?r5
      case f5 =>
        walk_at "ob2"
        exact h2 ▸ hell hi _ hhi'
      exact Exs.done (σ₁ := bwS lo hi tw q s [.rng 0 N, .list []]) (by walk_at "sub") rfl
    | true =>
      refine' (B1 hK hx).test 8 [(.bool true, bwO (q.map T) s [.rng 0 N, .list []])] true rfl ?f6 rfl ?r6
      case f6 =>
        walk_at "ob2"
        exact h2 ▸ hell hi _ hhi'
      have hs1 : (s.map AV.int).length ≤ sizeLine := by rw [List.length_map]; omega
      have hl1 : (T p).length ≤ sizeLine := by rw [T_len]; omega
      have hpu : ∀ (x : Nat) (qq : List (List Nat)) (s' : List Int), qq.length ≤ 900 → CallR c (n + 9) (.ref 56) [.ref 9, .str (T [x] ++ T p)] (bwO (qq.map T) s' [.rng 0 N, .list []]) .none (bwO ((qq ++ [x :: p]).map T) s' [.rng 0 N, .list []]) := fun x qq s' hqq => by
        have := pushTok (n := n + 8) hK hx (w := T []) (t := T (x :: p)) (pos := 0) (ln := 1) (pb := (qq.map T).map .str) (js := []) (by rw [List.length_map, List.length_map]; omega)
        rw [T_app]
        refine bwCall (args := [.str (T (x :: p))]) (pb := qq.map T) (pb' := (qq ++ [x :: p]).map T) ?_ (fun _ => rfl) (fun _ => rfl)
        rw [List.map_append, List.map_append]
        exact this
      have hz2 : ∀ x : Nat, (T [x]).length + (T p).length ≤ sizeLine := fun x => by rw [T_len, T_len]; simp; omega
      have hz2l := hz2 lo
      have hz2h := hz2 hi
      refine' (B1 hK hx).run 8 1 [] (bwP lo hi tw p q (s ++ [(p.length : Int)]) [.rng 0 N, .list []]) rfl ?f8 ?s8 ?o8 ?r8
      case s8 => walk_at "sub"
      case o8 =>
        show lex2p (T []) ++ [_, _, AO.list (s.map AV.int ++ [AV.int (T p).length])] ++ [_, _] = lex2p (T []) ++ [_, _, AO.list ((s ++ [(p.length : Int)]).map AV.int)] ++ [_, _]
        rw [List.map_append]; rfl
      case f8 => walk_at "ob2"
      have hp1 := hpu lo q (s ++ [(p.length : Int)]) (by omega)
      have hp2 := hpu hi (q ++ [lo :: p]) (s ++ [(p.length : Int)]) (by simp; omega)
      refine' (B1 hK hx).run 8 2 [(.none, bwO ((q ++ [lo :: p]).map T) (s ++ [(p.length : Int)]) [.rng 0 N, .list []]), (.none, bwO (((q ++ [lo :: p]) ++ [hi :: p]).map T) (s ++ [(p.length : Int)]) [.rng 0 N, .list []])] (bwS lo hi tw ((q ++ [lo :: p]) ++ [hi :: p]) (s ++ [(p.length : Int)]) [.rng 0 N, .list []]) rfl ?f7 ?s7 rfl ?r7
      case s7 => walk_at "sub"
      case f7 => walk_at "ob2"
      case r7 =>
        rw [List.append_assoc]
        exact Exs.done (σ₁ := bwS lo hi tw (q ++ [lo :: p, hi :: p]) (s ++ [(p.length : Int)]) [.rng 0 N, .list []]) (by walk_at "sub") rfl

theorem bwTurn (hK : c.K = KK P) (hx : c.XR = XRof LL1) {lo hi N : Nat} {tw p : List Nat} {q : List (List Nat)} {s : List Int} {k : Int} (hlo : lo < 1000) (hhi : hi < 1000) (hlo' : lo ≠ 46) (hhi' : hi ≠ 46) (htw : tw.length ≤ 400) (hp : p.length ≤ 500) (hp46 : 46 ∉ p)
    (hq : ∀ p' ∈ p :: q, ∀ x ∈ p', x < 1000) (hql : q.length ≤ 500) (hs : s.length ≤ 500) :
    Exs c (n + 9) (fdK P 96) (forBody (stK P 96 3)) ⟨put "step" (.int k) (bwS lo hi tw (p :: q) s [.rng 0 N]).vs, (bwS lo hi tw (p :: q) s [.rng 0 N]).os⟩ .next
      (bif infx (p ++ [lo]) tw && infx (p ++ [hi]) tw then bwS lo hi tw (q ++ [lo :: p, hi :: p]) (s ++ [(p.length : Int)]) [.rng 0 N] else bwS lo hi tw q s [.rng 0 N]) := by
  have h0 := bwTurn0 (n := n) (N := N) (k := k) hK hx hlo hhi hlo' hhi' htw hp hp46 hq hql hs
  cases h : infx (p ++ [lo]) tw && infx (p ++ [hi]) tw with
  | true => rw [h] at h0; exact bwCut (j := [.list []]) rfl rfl h0
  | false => rw [h] at h0; exact bwCut (j := [.list []]) rfl rfl h0

theorem bwLoop (hK : c.K = KK P) (hx : c.XR = XRof LL1) {lo hi N : Nat} {tw : List Nat} (hlo : lo < 1000) (hhi : hi < 1000) (hlo' : lo ≠ 46) (hhi' : hi ≠ 46) (htw : tw.length ≤ 400) (hN : N ≤ 450) : ∀ (m k : Nat) (q : List (List Nat)) (s : List Int), k + m = N →
    (∀ p ∈ q, p.length ≤ k ∧ ∀ x ∈ p, x < 1000 ∧ x ≠ 46) → q.length ≤ k + 1 → s.length ≤ k →
    ∃ q', Lp c (n + 9) (fdK P 96) "step" (forBody (stK P 96 3)) (.rng 0 N) k (bwS lo hi tw q s [.rng 0 N]) .next (bwS lo hi tw q' (bw lo hi tw m q s) [.rng 0 N])
  | 0, k, q, s, hk, h1, h2, h3 => ⟨q, Lp.done (by obtain rfl : k = N := hk; exact item_rngE) trivial⟩
  | m + 1, k, [], s, hk, h1, h2, h3 => by
    refine ⟨[], ?_⟩
    have hcmp : Op2 c (n + 9) (compareOp .Eq) (.ref 10) (.ref 13) (bwO [] s [.rng 0 N, .list []]) (.bool true) (bwO [] s [.rng 0 N, .list []]) := by
      have := eq_ls (c := c) (n := n + 9) (i := 10) (j := 13) (os := bwO [] s [.rng 0 N, .list []]) (xs := []) (ys := []) rfl rfl rfl rfl
      rw [decide_eq_true rfl] at this
      exact this
    refine Lp.brk (item_rng (by omega)) (.loc rfl) ?_ rfl
    refine bwCut (q := []) (j := [.list []]) rfl rfl ?_
    refine' (B1 hK hx).test 8 [(.bool true, bwO [] s [.rng 0 N, .list []])] true rfl ?f1 rfl ?r1
    case f1 => walk_at "ob2"
    exact Exs.less (Exs.out (Ex.brk) (by intro e; cases e)) (by walk_at "sub") rfl
  | m + 1, k, p :: q, s, hk, h1, h2, h3 => by
    have hp := h1 p List.mem_cons_self
    have h2' : q.length ≤ k := by simpa using h2
    have ht := bwTurn (n := n) (P := P) (N := N) (k := (k : Int)) (lo := lo) (hi := hi) (tw := tw) (p := p) (q := q) (s := s) hK hx hlo hhi hlo' hhi' htw (by omega) (fun h => (hp.2 46 h).2 rfl) (fun p' hp' x hx' => ((h1 p' hp').2 x hx').1) (by omega) (by omega)
    unfold bw
    cases hb : infx (p ++ [lo]) tw && infx (p ++ [hi]) tw with
    | true =>
      rw [hb] at ht
      obtain ⟨q', W⟩ := bwLoop hK hx hlo hhi hlo' hhi' htw hN m (k + 1) (q ++ [lo :: p, hi :: p]) (s ++ [(p.length : Int)]) (by omega) (fun p' hp' => by
        rcases List.mem_append.mp hp' with hm | hm
        · have := h1 p' (List.mem_cons_of_mem _ hm); exact ⟨by omega, this.2⟩
        · simp only [List.mem_cons, List.not_mem_nil, or_false] at hm
          rcases hm with rfl | rfl
          · exact ⟨by simp; omega, fun x hx' => by rcases List.mem_cons.mp hx' with rfl | hx'; exact ⟨hlo, hlo'⟩; exact hp.2 x hx'⟩
          · exact ⟨by simp; omega, fun x hx' => by rcases List.mem_cons.mp hx' with rfl | hx'; exact ⟨hhi, hhi'⟩; exact hp.2 x hx'⟩) (by simp; omega) (by simp; omega)
      exact ⟨q', Lp.step (item_rng (by omega)) (.loc rfl) ht W rfl⟩
    | false =>
      rw [hb] at ht
      obtain ⟨q', W⟩ := bwLoop hK hx hlo hhi hlo' hhi' htw hN m (k + 1) q s (by omega) (fun p' hp' => by
        have := h1 p' (List.mem_cons_of_mem _ hp'); exact ⟨by omega, this.2⟩) (by omega) (by omega)
      exact ⟨q', Lp.step (item_rng (by omega)) (.loc rfl) ht W rfl⟩

theorem bothD (hK : c.K = KK P) (hx : c.XR = XRof LL1) (M : Lm c LL1 76) {lo hi : Nat} {tw : List Nat} (hlo : lo < 1000) (hhi : hi < 1000) (hlo' : lo ≠ 46) (hhi' : hi ≠ 46) (htw : tw.length ≤ 400) :
    CallR c (n + 10) (.ref 96) [.str (T [lo]), .str (T [hi]), .str (T tw)] [.x (.tab [1, 2]), .x (.code 0), .x (.code 1)] (.ref 3) [.x (.tab [1, 2]), .x (.code 0), .x (.code 1), .list ((bw lo hi tw (tw.length + 1) [[]] []).map .int)] := by
  have hz : sizeLine = 2 ^ 24 := sizeLine_eq
  have hzl : (T tw).length ≤ sizeLine := by rw [T_len]; omega
  obtain ⟨q', W⟩ := bwLoop (n := n) hK hx hlo hhi hlo' hhi' htw (N := tw.length + 1) (by omega) (tw.length + 1) 0 [[]] [] (by omega) (fun p hp => by simp at hp; subst hp; exact ⟨Nat.le_refl _, fun _ h => nomatch h⟩) (by simp) (by simp)
  refine Op.sel 3 [11] (v := .ref 11) (os₁ := bwO (q'.map T) (bw lo hi tw (tw.length + 1) [[]] []) [.rng 0 ((tw.length + 1 : Nat) : Int)]) ?call rfl (by decide) ?held ?cl rfl
  case held => exact ⟨rfl, rfl, rfl, by show some (AO.list ((bw lo hi tw (tw.length + 1) [[]] []).map .int)) = some (AO.list (((bw lo hi tw (tw.length + 1) [[]] []).map AV.int).map (AV.ren _))); rw [ren_ints], trivial⟩
  case cl => walk_at "clo"
  refine' CallR.of_def (ps := [Str.ofString "low", Str.ofString "high", Str.ofString "twice"]) (σ' := ⟨[], bwO (q'.map T) (bw lo hi tw (tw.length + 1) [[]] []) [.rng 0 ((tw.length + 1 : Nat) : Int)]⟩) (DefAt.of hK rfl rfl rfl rfl rfl rfl rfl rfl) (by decide) ?bind (by decide) ?rr (Back.all)
  case bind =>
    intro xs h
    match xs, h with
    | [a, b, d], _ => rfl
  case rr =>
    have h2 : CallR c (n + 9) (.ref 77) [.str (Str.ofString "")] [.x (.tab [1, 2]), .x (.code 0), .x (.code 1)] (.ref 9) (lex2 (T [])) := by rw [T_nil]; exact lexHit (n := n + 3) hK hx M
    have hpu : CallR c (n + 9) (.ref 56) [.ref 9, .str (Str.ofString "")] (lex2 (T [])) .none (bwG [Str.ofString ""] []) :=
      bwCall (args := [.str (Str.ofString "")]) (pb := []) (pb' := [Str.ofString ""]) (js := []) (pushTok (n := n + 8) hK hx (w := T []) (t := Str.ofString "") (pos := 0) (ln := 1) (pb := []) (js := []) (by decide)) (fun _ => rfl) (fun _ => rfl)
    refine' (B1 hK hx).run 8 3 [(.ref 9, lex2 (T [])), (.none, bwG [Str.ofString ""] [])] (bwS lo hi tw [[]] [] []) rfl ?f1 ?s1 ?o1 ?r1
    case f1 => walk_at "ob2"
    case s1 => walk_at "sub"
    case o1 =>
      show bwG [Str.ofString ""] [AO.list []] = bwG [T []] [AO.list []]
      rw [T_nil]
    case r1 =>
      refine' Exs.cons (σ₁ := bwS lo hi tw q' (bw lo hi tw (tw.length + 1) [[]] []) [.rng 0 ((tw.length + 1 : Nat) : Int)]) (Ex.for (a := .ref 12) (src := .rng 0 ((tw.length + 1 : Nat) : Int)) (σ₁ := bwS lo hi tw [[]] [] [.rng 0 ((tw.length + 1 : Nat) : Int)]) ?i1 (.rng rfl (small_rng (by omega))) W ?i5) ?r8
      case i1 =>
        refine' (B1 hK hx).ev 8 [] rfl ?j1 rfl ?j2
        case j1 => walk_at "ob2"
        case j2 => rfl
      case i5 => exact fun _ _ => rfl
      case r8 => exact (B1 hK hx).ret 5 [] rfl trivial rfl rfl
end

noncomputable section
variable {c : Cx} {n : Nat} {P : Params}

noncomputable def maxL : List Int → Int
  | [] => 0
  | x :: r => r.foldl max x
noncomputable def minL : List Int → Int
  | [] => 0
  | x :: r => r.foldl min x
theorem foldMax (r : List Int) : ∀ x : Int, (r.foldl max x = x ∨ r.foldl max x ∈ r) ∧ x ≤ r.foldl max x ∧ ∀ a ∈ r, a ≤ r.foldl max x := by
  induction r with
  | nil => intro x; exact ⟨.inl rfl, Int.le_refl _, fun _ h => nomatch h⟩
  | cons y r ih =>
    intro x
    obtain ⟨h1, h2, h3⟩ := ih (max x y)
    rw [List.foldl_cons]
    refine ⟨?_, by omega, fun a ha => ?_⟩
    · rcases h1 with h1 | h1
      · rw [h1]
        by_cases h : x ≤ y
        · exact .inr (by rw [Int.max_eq_right h]; exact List.mem_cons_self)
        · exact .inl (Int.max_eq_left (by omega))
      · exact .inr (List.mem_cons_of_mem _ h1)
    · rcases List.mem_cons.mp ha with rfl | ha
      · omega
      · exact h3 a ha
theorem foldMin (r : List Int) : ∀ x : Int, (r.foldl min x = x ∨ r.foldl min x ∈ r) ∧ r.foldl min x ≤ x ∧ ∀ a ∈ r, r.foldl min x ≤ a := by
  induction r with
  | nil => intro x; exact ⟨.inl rfl, Int.le_refl _, fun _ h => nomatch h⟩
  | cons y r ih =>
    intro x
    obtain ⟨h1, h2, h3⟩ := ih (min x y)
    rw [List.foldl_cons]
    refine ⟨?_, by omega, fun a ha => ?_⟩
    · rcases h1 with h1 | h1
      · rw [h1]
        by_cases h : y ≤ x
        · exact .inr (by rw [Int.min_eq_right h]; exact List.mem_cons_self)
        · exact .inl (Int.min_eq_left (by omega))
      · exact .inr (List.mem_cons_of_mem _ h1)
    · rcases List.mem_cons.mp ha with rfl | ha
      · omega
      · exact h3 a ha
theorem maxL_ok {l : List Int} (h : l ≠ []) : maxL l ∈ l ∧ ∀ a ∈ l, a ≤ maxL l := by
  cases l with
  | nil => exact absurd rfl h
  | cons x r =>
    obtain ⟨h1, h2, h3⟩ := foldMax r x
    refine ⟨?_, fun a ha => ?_⟩
    · rcases h1 with h1 | h1
      · show r.foldl max x ∈ _; rw [h1]; exact List.mem_cons_self
      · exact List.mem_cons_of_mem _ h1
    · rcases List.mem_cons.mp ha with rfl | ha
      · exact h2
      · exact h3 a ha
theorem minL_ok {l : List Int} (h : l ≠ []) : minL l ∈ l ∧ ∀ a ∈ l, minL l ≤ a := by
  cases l with
  | nil => exact absurd rfl h
  | cons x r =>
    obtain ⟨h1, h2, h3⟩ := foldMin r x
    refine ⟨?_, fun a ha => ?_⟩
    · rcases h1 with h1 | h1
      · show r.foldl min x ∈ _; rw [h1]; exact List.mem_cons_self
      · exact List.mem_cons_of_mem _ h1
    · rcases List.mem_cons.mp ha with rfl | ha
      · exact h2
      · exact h3 a ha

noncomputable def cnts (w : List Nat) (hi size : Nat) : List Int := (List.range w.length).map fun k => ((((w ++ w).drop k).take size).count hi : Int)
noncomputable def gapB (w : List Nat) (hi size : Nat) : Bool := decide (1 < maxL (cnts w hi size) - minL (cnts w hi size))
noncomputable def evenFrom (w : List Nat) (hi : Nat) : Nat → Nat → Bool
  | 0, _ => true
  | m + 1, size => bif gapB w hi size then false else evenFrom w hi m (size + 1)
noncomputable def evenB (w : List Nat) (hi : Nat) : Bool := evenFrom w hi (w.length - 1) 1

noncomputable def fdE (P : Params) (cq : Option (Value × Str)) : FD := ⟨scopeK P 101, [("word", 0), ("high", 1), ("size", 2)], cq⟩
noncomputable def evO (w : List Nat) (hi : Nat) (u : Option AV) (js : List AO) : List AO := [.cell (some (.str (T w))), .cell (some (.str (T [hi]))), .cell u, .rng 1 w.length] ++ js

noncomputable def forIter : Stmt → Expr
  | .For _ i _ _ _ => i
  | _ => .Constant .none 0 ⟨0, 0, 0, 0⟩
theorem evTurn (hK : c.K = KK P) (hx : c.XR = XRof LL1) {cq : Option (Value × Str)} {w : List Nat} {hi size : Nat} (hw : w.length ≤ 100) (hw0 : 0 < w.length) :
    Exs c (n + 1) (fdE P cq) (forBody (stK P 101 0)) ⟨[], evO w hi (some (.int size)) []⟩ (bif gapB w hi size then .ret (.bool false) else .next) ⟨[], evO w hi (some (.int size)) []⟩ := by
  have hz : sizeLine = 2 ^ 24 := sizeLine_eq
  have hzw : (T w).length ≤ sizeLine := by rw [T_len]; omega
  have hww : (T w).length + (T w).length ≤ sizeLine := by rw [T_len]; omega
  have hww2 : (T w ++ T w).length ≤ sizeLine := by rw [T_app, T_len]; simp; omega
  have hne : cnts w hi size ≠ [] := fun h => by
    have := congrArg List.length h
    unfold cnts at this
    rw [List.length_map, List.length_range] at this
    simp only [List.length_nil] at this; omega
  have hcl : ∀ f : AF, f.refs = [] → ∀ {vs' : List (Str × AV)}, Exs c (n + 1) (fdE P cq) (forBody (stK P 101 0)) ⟨[], evO w hi (some (.int size)) []⟩ f ⟨vs', evO w hi (some (.int size)) [] ++ [.rng 0 w.length, .list ((cnts w hi size).map .int)]⟩ → Exs c (n + 1) (fdE P cq) (forBody (stK P 101 0)) ⟨[], evO w hi (some (.int size)) []⟩ f ⟨[], evO w hi (some (.int size)) []⟩ := fun f hf vs' h =>
    Exs.cut (js := [.rng 0 w.length, .list ((cnts w hi size).map .int)]) (Exs.less h trivial rfl) rfl (by walk_at "clo") (fun _ h => nomatch h) (by rw [hf]; exact fun _ h => nomatch h)
  have hmx : CallR c (n + 1) (.builtin "max") [.ref 5] (evO w hi (some (.int size)) [.rng 0 w.length, .list ((cnts w hi size).map .int)]) (.int (maxL (cnts w hi size))) (evO w hi (some (.int size)) [.rng 0 w.length, .list ((cnts w hi size).map .int)]) := max_l rfl (maxL_ok hne).1 (maxL_ok hne).2
  have hmn : CallR c (n + 1) (.builtin "min") [.ref 5] (evO w hi (some (.int size)) [.rng 0 w.length, .list ((cnts w hi size).map .int)]) (.int (minL (cnts w hi size))) (evO w hi (some (.int size)) [.rng 0 w.length, .list ((cnts w hi size).map .int)]) := min_l rfl (minL_ok hne).1 (minL_ok hne).2
  have main : Exs c (n + 1) (fdE P cq) (forBody (stK P 101 0)) ⟨[], evO w hi (some (.int size)) []⟩ (bif gapB w hi size then .ret (.bool false) else .next) ⟨[], evO w hi (some (.int size)) [] ++ [.rng 0 w.length, .list ((cnts w hi size).map .int)]⟩ := by
    refine' Exs.cons (Ex.assignMap (a := .ref 4) (vs := []) (src := .rng 0 w.length) w.length (fun _ => evO w hi (some (.int size)) [.rng 0 w.length]) (fun k => .int k) (fun k => .int ((((w ++ w).drop k).take size).count hi : Int)) ?c1 (.rng rfl (small_rng (by omega))) ?c2 ?c3 trivial ?c5 ?c6 ?c7 ?c8 (sto_ok rfl) ?c10 ?c11) ?r2
    case c1 =>
      refine' (B1 hK hx).ev 8 [] rfl ?d1 rfl ?d2
      case d1 => walk_at "ob2"
      case d2 => rfl
    case c2 => exact fun k hk => item_rng hk
    case c3 => exact item_rngE
    case c5 => rfl
    case c6 =>
      intro k hk
      refine ⟨_, (B1 hK hx).ev 8 [] rfl ?_ ?_ rfl⟩
      · walk_at "ob2"
      · show AV.int (Txt.count (cutS (T w ++ T w) (some (k : Int)) (some ((k : Int) + (size : Int)))) (T [hi])) = _
        rw [T_app, show ((k : Int) + (size : Int)) = ((k + size : Nat) : Int) by omega]
        show AV.int (Txt.count (T (cut (w ++ w) (some (k : Int)) (some ((k + size : Nat) : Int)))) (T [hi])) = _
        rw [cut_nat, count_T, Nat.add_sub_cancel_left]
    case c7 => omega
    case c8 => exact compOk_of rfl rfl rfl rfl
    case c10 => exact fun env he => by cases env; dsimp only at he; subst he; rfl
    case c11 => exact fun _ _ => rfl
    refine' Exs.fewer (σ₁ := ⟨[("counts", .ref 5)], evO w hi (some (.int size)) [.rng 0 w.length, .list ((cnts w hi size).map .int)]⟩) (by walk_at "sub") ?e1 ?r3
    case e1 =>
      show evO w hi (some (.int size)) [AO.rng 0 w.length, AO.list _] = evO w hi (some (.int size)) [AO.rng 0 w.length, AO.list ((cnts w hi size).map .int)]
      unfold cnts
      rw [List.map_map]; rfl
    refine' (B1 hK hx).test 8 [(.int (maxL (cnts w hi size)), evO w hi (some (.int size)) [.rng 0 w.length, .list ((cnts w hi size).map .int)]), (.int (minL (cnts w hi size)), evO w hi (some (.int size)) [.rng 0 w.length, .list ((cnts w hi size).map .int)])] (gapB w hi size) rfl ?f1 rfl ?r4
    case f1 => walk_at "ob2"
    cases gapB w hi size with
    | true => exact (B1 hK hx).ret 5 [] rfl trivial rfl rfl
    | false => exact Exs.done (by trivial) rfl
  cases hg : gapB w hi size with
  | true => rw [hg] at main; exact hcl _ rfl main
  | false => rw [hg] at main; exact hcl _ rfl main

theorem evLoop (hK : c.K = KK P) (hx : c.XR = XRof LL1) {cq : Option (Value × Str)} {w : List Nat} {hi : Nat} (hw : w.length ≤ 100) (hw0 : 0 < w.length) : ∀ (m k : Nat) (u : Option AV), 1 + k + m = w.length → (∀ i ∈ (AO.cell u).refs, False) →
    ∃ u', Lp c (n + 1) (fdE P cq) "size" (forBody (stK P 101 0)) (.rng 1 w.length) k ⟨[], evO w hi u []⟩ (bif evenFrom w hi m (1 + k) then .next else .ret (.bool false)) ⟨[], evO w hi u' []⟩
  | 0, k, u, hk, hu => ⟨u, Lp.done (item_rE (by omega)) trivial⟩
  | m + 1, k, u, hk, hu => by
    have ht := evTurn (n := n) (P := P) (cq := cq) (w := w) (hi := hi) (size := 1 + k) hK hx hw hw0
    have hit : (Src.rng 1 (w.length : Int)).item (evO w hi u []) k = some (.int ((1 + k : Nat) : Int)) := by
      rw [item_r (by omega)]; simp
    have hst : Sto (fdE P cq) "size" (.int ((1 + k : Nat) : Int)) ⟨[], evO w hi u []⟩ ⟨[], evO w hi (some (.int ((1 + k : Nat) : Int))) []⟩ := sto_ok rfl
    unfold evenFrom
    cases hg : gapB w hi (1 + k) with
    | true =>
      rw [hg] at ht
      exact ⟨_, Lp.ret hit hst ht rfl⟩
    | false =>
      rw [hg] at ht
      obtain ⟨u', W⟩ := evLoop hK hx (cq := cq) (hi := hi) hw hw0 m (k + 1) (some (.int ((1 + k : Nat) : Int))) (by omega) (fun _ h => nomatch h)
      rw [show 1 + (k + 1) = 1 + k + 1 by omega] at W
      exact ⟨u', Lp.step hit hst ht W rfl⟩

theorem evenD (hK : c.K = KK P) (hx : c.XR = XRof LL1) {w : List Nat} {hi : Nat} (hw : w.length ≤ 100) (hw0 : 0 < w.length) : CallR c (n + 2) (.ref 101) [.str (T w), .str (T [hi])] [] (.bool (evenB w hi)) [] := by
  have hz : sizeLine = 2 ^ 24 := sizeLine_eq
  have hzw : (T w).length ≤ sizeLine := by rw [T_len]; omega
  refine CodeR.call ?_
  obtain ⟨u', W⟩ := evLoop (n := n) (P := P) (cq := some (Value.ref 100, Str.ofString "_law_even.<locals>.")) (w := w) (hi := hi) hK hx hw hw0 (w.length - 1) 0 none (by omega) (fun _ h => nomatch h)
  refine' CodeR.of_cells (ps := [Str.ofString "word", Str.ofString "high"]) (cn := [Str.ofString "word", Str.ofString "high", Str.ofString "size"]) (σ' := ⟨[], evO w hi u' []⟩) (DefAt.of hK rfl rfl rfl rfl rfl rfl rfl rfl) rfl ?hcs ?nd ?bind ?hps ?hcn ?rr (Back.val (os' := []) rfl ?cl rfl)
  case cl => walk_at "clo"
  case hcs => exact fun _ => rfl
  case nd => decide
  case bind =>
    intro xs h
    match xs, h with
    | [a, b], _ => rfl
  case hps => decide
  case hcn => decide
  case rr =>
    unfold evenB
    rw [show 1 + 0 = 1 from rfl] at W
    have hev : Ev c (n + 1) (fdE P (some (Value.ref 100, Str.ofString "_law_even.<locals>."))) (forIter (stK P 101 0)) ⟨[], [.cell (some (.str (T w))), .cell (some (.str (T [hi]))), .cell none]⟩ (.ref 3) ⟨[], evO w hi none []⟩ := by
      refine' (B1 hK hx).ev 8 [] rfl ?j1 rfl ?j2
      case j1 => walk_at "ob2"
      case j2 => rfl
    cases he : evenFrom w hi (w.length - 1) 1 with
    | true =>
      rw [he] at W
      refine' Exs.cons (σ₁ := ⟨[], evO w hi u' []⟩) (Ex.for (a := .ref 3) (src := .rng 1 w.length) (σ₁ := ⟨[], evO w hi none []⟩) hev (.rng rfl (small_rr (by omega) (by omega) (by omega) (by omega))) W ?i5) ?r8
      case i5 => exact fun _ _ => rfl
      case r8 => exact (B1 hK hx).ret 5 [] rfl trivial rfl rfl
    | false =>
      rw [he] at W
      refine' Exs.out (Ex.for (a := .ref 3) (src := .rng 1 w.length) (σ₁ := ⟨[], evO w hi none []⟩) hev (.rng rfl (small_rr (by omega) (by omega) (by omega) (by omega))) W ?i6) ?i7
      case i6 => exact fun _ _ => rfl
      case i7 => exact fun e => by cases e
end

noncomputable section
variable {c : Cx} {n : Nat} {P : Params} {cq : Option (Value × Str)}

noncomputable def fdL (P : Params) (cq : Option (Value × Str)) : FD := ⟨scopeK P 106, [("low", 1), ("high", 2), ("spun", 3), ("highs", 4)], cq⟩
noncomputable def lwO (ts : List Nat) (cl ch cs cg : Option AV) (js : List AO) : List AO := [.x (.tab ts), .cell cl, .cell ch, .cell cs, .cell cg] ++ js

noncomputable def compOf : Stmt → Expr
  | .Assign _ (.BinOp e _ _ _) _ => e
  | _ => .Constant .none 0 ⟨0, 0, 0, 0⟩
noncomputable def compElt (s : Stmt) : Expr := match compOf s with | .ListComp e _ _ _ => e | e => e
noncomputable def compSc (s : Stmt) : Scope := match compOf s with | .ListComp _ _ sc _ => sc | _ => { kind := .function, names := [], isGenerator := false, isCoroutine := false }
noncomputable def compPos (s : Stmt) : Pos := match compOf s with | .ListComp _ _ _ p => p | _ => ⟨0, 0, 0, 0⟩
noncomputable def compIter (s : Stmt) : Expr := match compOf s with | .ListComp _ [⟨_, i, _, _⟩] _ _ => i | e => e
noncomputable def compPx (s : Stmt) : Pos := match compOf s with | .ListComp _ [⟨.Name _ p, _, _, _⟩] _ _ => p | _ => ⟨0, 0, 0, 0⟩
noncomputable def numsL (sc : List Int) : List Int := (sc.take 9).map (fun x => x.fmod 1000) ++ [2, 4, 3, 6, 0, 1, 8, 5, 3].drop (sc.take 9).length
theorem numsL_len (sc : List Int) : (numsL sc).length = 9 := by
  unfold numsL
  simp
  omega
theorem ints_VRs {vs : List Value} {sc : List Int} (h : IntsAre vs sc) : ∀ ρ, VRs ρ (sc.map .int) vs := fun ρ => VRs.ofInts h

theorem range_getD {α β : Type} (xs : List α) (d : α) (f : α → β) : (List.range xs.length).map (fun k => f (xs.getD k d)) = xs.map f := by
  apply List.ext_getElem?
  intro i
  rw [List.getElem?_map, List.getElem?_map]
  by_cases hi : i < xs.length
  · rw [List.getElem?_range hi, List.getElem?_eq_getElem hi]
    show some (f (xs.getD i d)) = some (f xs[i])
    rw [List.getD_eq_getElem?_getD, List.getElem?_eq_getElem hi]; rfl
  · rw [List.getElem?_eq_none (by rw [List.length_range]; omega), List.getElem?_eq_none (by omega)]; rfl
theorem item_ints {os : List AO} {i : Nat} {xs : List Int} (ho : os[i]? = some (.list (xs.map .int))) {k : Nat} (hk : k < xs.length) : (Src.list i).item os k = some (.int (xs.getD k 0)) := by
  unfold Src.item
  simp only [ho]
  rw [List.getElem?_map, List.getElem?_eq_getElem hk, List.getD_eq_getElem?_getD, List.getElem?_eq_getElem hk]; rfl
theorem item_intsE {os : List AO} {i : Nat} {xs : List Int} (ho : os[i]? = some (.list (xs.map .int))) : (Src.list i).item os xs.length = none := by
  unfold Src.item
  simp only [ho]
  rw [List.getElem?_map, List.getElem?_eq_none (Nat.le_refl _)]; rfl
theorem cut_lit (ns : List Int) (a : Nat) : cut (ns.map AV.int) (some (a : Int)) none = (ns.drop a).map .int := by rw [cut_from, List.map_drop]

theorem map_two {α β γ : Type} (f : α → β) (g : β → γ) (xs : List α) : xs.map (fun x => g (f x)) = (xs.map f).map g := by rw [List.map_map]; rfl

set_option maxHeartbeats 1000000 in
theorem law0 (hK : c.K = KK P) (hx : c.XR = XRof LL1) {l : Addr} {vs : List Value} {sc : List Int} (hb : c.hb.IsList l vs.toArray) (hi : IntsAre vs sc) (hsc : sc.length ≤ 63) :
    Ex c (n + 1) (fdL P cq) (stK P 106 0) ⟨[("script", .lit (.ref l))], lwO [] none none none none []⟩ .next ⟨[("numbers", .ref 5)], lwO [] none none none none [.list ((numsL sc).map .int)]⟩ := by
  have hz : sizeLine = 2 ^ 24 := sizeLine_eq
  have hsl : ∀ (os : List AO), SlOp c (n + 1) (.lit (.ref l)) none (some 9) none os (.ref os.length) (os ++ [.list ((sc.take 9).map .int)]) := fun os => by
    have := slice_base (c := c) (n := n + 1) (os := os) (lo := none) (hi := some 9) hb (ints_VRs hi) (by rw [List.length_map]; omega)
    rw [show cut (sc.map AV.int) none (some 9) = (sc.take 9).map .int by rw [show ((9 : Int)) = ((9 : Nat) : Int) from rfl, cut_to, List.map_take]] at this
    exact this
  have hN : (sc.take 9).length ≤ 9 := by rw [List.length_take]; omega
  refine Exs.one (Exs.sel (os₁ := lwO [] none none none none [.list ((sc.take 9).map .int), .list (((sc.take 9).map (fun x => x.fmod 1000)).map .int), .list [.int 2, .int 4, .int 3, .int 6, .int 0, .int 1, .int 8, .int 5, .int 3], .list ((sc.take 9).map .int), .list (cut [.int 2, .int 4, .int 3, .int 6, .int 0, .int 1, .int 8, .int 5, .int 3] (some ((sc.take 9).length : Int)) none), .list ((numsL sc).map .int)]) (vs' := [("numbers", .ref 10)]) (f := .next) 5 [10] ?go rfl (by decide) ?held ?cl ⟨rfl, fun _ _ => trivial, trivial⟩ rfl)
  case held => exact ⟨rfl, rfl, rfl, rfl, rfl, by show some (AO.list ((numsL sc).map .int)) = some (AO.list (((numsL sc).map AV.int).map (AV.ren _))); rw [ren_ints], trivial⟩
  case cl => walk_at "clo"
  case go =>
    refine' (B1 hK hx).run 8 1 [(.ref 6, lwO [] none none none none [.list ((sc.take 9).map .int), .list (((sc.take 9).map (fun x => x.fmod 1000)).map .int)]), (.ref 8, lwO [] none none none none [.list ((sc.take 9).map .int), .list (((sc.take 9).map (fun x => x.fmod 1000)).map .int), .list [.int 2, .int 4, .int 3, .int 6, .int 0, .int 1, .int 8, .int 5, .int 3], .list ((sc.take 9).map .int)])] _ rfl ?f1 ?s1 ?o1 Exs.nil
    case f1 =>
      have hlen : ((sc.take 9).map AV.int).length ≤ sizeLine := by rw [List.length_map]; omega
      have hcz : (((sc.take 9).map (fun x => x.fmod 1000)).map AV.int).length + (cut [AV.int 2, .int 4, .int 3, .int 6, .int 0, .int 1, .int 8, .int 5, .int 3] (some ((((sc.take 9).map AV.int).length : Nat) : Int)) none).length ≤ sizeLine := by
        rw [show [AV.int 2, .int 4, .int 3, .int 6, .int 0, .int 1, .int 8, .int 5, .int 3] = [2, 4, 3, 6, 0, 1, 8, 5, 3].map AV.int from rfl, cut_lit]
        simp; omega
      walk_at "ob2"
      · have e := Ev.map (c := c) (n := n + 1) (fd := fdL P cq) (elt := compElt (stK P 106 0)) (scope := compSc (stK P 106 0)) (x := "x") (px := compPx (stK P 106 0)) (pos := compPos (stK P 106 0)) (iter := compIter (stK P 106 0)) (σ := ⟨[("script", .lit (.ref l))], lwO [] none none none none []⟩) (vs := [("script", .lit (.ref l))]) (a := .ref 5) (src := .list 5) (sc.take 9).length (fun _ => lwO [] none none none none [.list ((sc.take 9).map .int)]) (fun k => .int ((sc.take 9).getD k 0)) (fun k => .int (((sc.take 9).getD k 0).fmod 1000))
          (Ev.sliceB (σ₁ := ⟨[("script", .lit (.ref l))], lwO [] none none none none []⟩) (σ₂ := ⟨[("script", .lit (.ref l))], lwO [] none none none none []⟩) (σ₃ := ⟨[("script", .lit (.ref l))], lwO [] none none none none []⟩) (σ₄ := ⟨[("script", .lit (.ref l))], lwO [] none none none none []⟩) ((B1 hK hx).ev 5 [] rfl trivial rfl rfl) EvP.none (EvP.some ((B1 hK hx).ev 5 [] rfl trivial rfl rfl)) EvP.none hb (hsl _)) (.list rfl) (fun k hk => item_ints rfl hk) (item_intsE rfl) ⟨_, rfl⟩ rfl (fun k hk => ⟨_, (B1 hK hx).ev 5 [] rfl (by walk_at "ob2") rfl rfl⟩) (by omega) (compOk_of rfl rfl rfl rfl) (fun _ _ => rfl)
        rw [range_getD (sc.take 9) 0 (fun x => AV.int (x.fmod 1000)), map_two (fun x : Int => x.fmod 1000) AV.int] at e
        exact e
      · exact Ev.sliceB (σ₁ := ⟨[("script", .lit (.ref l))], _⟩) (σ₂ := ⟨[("script", .lit (.ref l))], _⟩) (σ₃ := ⟨[("script", .lit (.ref l))], _⟩) (σ₄ := ⟨[("script", .lit (.ref l))], _⟩) ((B1 hK hx).ev 5 [] rfl trivial rfl rfl) EvP.none (EvP.some ((B1 hK hx).ev 5 [] rfl trivial rfl rfl)) EvP.none hb (hsl _)
    case s1 => walk_at "sub"
    case o1 =>
      refine Eq.trans (b := lwO [] none none none none [.list ((sc.take 9).map .int), .list (((sc.take 9).map (fun x => x.fmod 1000)).map .int), .list [.int 2, .int 4, .int 3, .int 6, .int 0, .int 1, .int 8, .int 5, .int 3], .list ((sc.take 9).map .int), .list (cut [.int 2, .int 4, .int 3, .int 6, .int 0, .int 1, .int 8, .int 5, .int 3] (some ((((sc.take 9).map AV.int).length : Nat) : Int)) none), .list (((sc.take 9).map (fun x => x.fmod 1000)).map AV.int ++ cut [.int 2, .int 4, .int 3, .int 6, .int 0, .int 1, .int 8, .int 5, .int 3] (some ((((sc.take 9).map AV.int).length : Nat) : Int)) none)]) rfl ?_
      rw [List.length_map, show ((sc.take 9).map (fun x => x.fmod 1000)).map AV.int ++ cut [.int 2, .int 4, .int 3, .int 6, .int 0, .int 1, .int 8, .int 5, .int 3] (some (((sc.take 9).length : Nat) : Int)) none = (numsL sc).map .int by
        rw [show [AV.int 2, .int 4, .int 3, .int 6, .int 0, .int 1, .int 8, .int 5, .int 3] = [2, 4, 3, 6, 0, 1, 8, 5, 3].map AV.int from rfl, cut_lit, ← List.map_append]; rfl]
end

noncomputable section
variable {c : Cx} {n : Nat} {P : Params} {cq : Option (Value × Str)}

noncomputable def sgnL : List Nat := [10, 32, 34, 35, 92, 97]
noncomputable def loL (tt : Nat) : Nat := sgnL.getD (tt % 5) 0
noncomputable def hiIx (tt : Nat) : Nat := tt % 5 + 1 + tt / 5 % (5 - tt % 5)
noncomputable def hiL (tt : Nat) : Nat := sgnL.getD (hiIx tt) 0
theorem T_sgn : Str.ofString "\n \"#\\a" = T sgnL := by decide +kernel
theorem hiIx_lt (tt : Nat) : hiIx tt < 6 := by
  unfold hiIx
  have h1 : tt % 5 < 5 := Nat.mod_lt _ (by decide)
  have h2 : tt / 5 % (5 - tt % 5) < 5 - tt % 5 := Nat.mod_lt _ (by omega)
  omega
theorem getD_some {l : List Nat} {j : Nat} (h : j < l.length) : l[j]? = some (l.getD j 0) := by rw [List.getD_eq_getElem?_getD, List.getElem?_eq_getElem h]; rfl
theorem fdiv_nat (a b : Nat) : Int.fdiv (a : Int) (b : Int) = ((a / b : Nat) : Int) := by
  rw [Int.fdiv_eq_ediv_of_nonneg _ (by omega)]; omega

theorem law14 (hK : c.K = KK P) (hx : c.XR = XRof LL1) {ns : List Int} {tt : Nat} (ht : ns.sum = (tt : Int)) :
    Exs c (n + 1) (fdL P cq) [stK P 106 1, stK P 106 2, stK P 106 3, stK P 106 4] ⟨[("numbers", .ref 5)], lwO [] none none none none [.list (ns.map .int)]⟩ .next ⟨[("numbers", .ref 5)], lwO [] (some (.str (T [loL tt]))) (some (.str (T [hiL tt]))) none none [.list (ns.map .int)]⟩ := by
  have hz : sizeLine = 2 ^ 24 := sizeLine_eq
  have hsum : ∀ {os : List AO}, os[5]? = some (.list (ns.map .int)) → CallR c (n + 1) (.builtin "sum") [.ref 5] os (.int tt) os := fun ho => by rw [← ht]; exact sum_l ho
  have h5 : tt % 5 < 5 := Nat.mod_lt _ (by decide)
  have e5 : Int.fmod (tt : Int) 5 = ((tt % 5 : Nat) : Int) := fmod_nat tt 5
  have e6 : Int.fdiv (tt : Int) 5 = ((tt / 5 : Nat) : Int) := fdiv_nat tt 5
  have e7 : (5 : Int) - Int.fmod (tt : Int) 5 = ((5 - tt % 5 : Nat) : Int) := by rw [e5]; omega
  have e8 : Int.fmod (tt : Int) 5 + 1 + Int.fmod (Int.fdiv (tt : Int) 5) ((5 : Int) - Int.fmod (tt : Int) 5) = ((hiIx tt : Nat) : Int) := by
    rw [e7, e6, e5, fmod_nat]; unfold hiIx; omega
  refine' (B1 hK hx).run' 8 4 [(.int tt, lwO [] none none none none [.list (ns.map .int)]), (.str (T [loL tt]), lwO [] none none none none [.list (ns.map .int)]), (.str (T [hiL tt]), lwO [] (some (.str (T [loL tt]))) none none none [.list (ns.map .int)])] ⟨[("numbers", .ref 5)], lwO [] (some (.str (T [loL tt]))) (some (.str (T [hiL tt]))) none none [.list (ns.map .int)]⟩ rfl ?f1 ?s1 rfl Exs.nil
  case s1 => walk_at "sub"
  case f1 =>
    walk_at "ob2"
    · exact hsum rfl
    · refine' Ev.idxS (l := sgnL) (j := tt % 5) ?a1 ?a2 (getD_some (by show tt % 5 < 6; omega)) (by omega) ?a3
      case a1 => exact (B1 hK hx).ev 5 [] rfl trivial (congrArg AV.str T_sgn) rfl
      case a2 =>
        refine' (B1 hK hx).ev 8 [] rfl ?b1 (congrArg AV.int e5) rfl
        walk_at "ob2"
      case a3 => exact fun _ _ => rfl
    · refine' Ev.idxS (l := sgnL) (j := hiIx tt) ?c1 ?c2 (getD_some (hiIx_lt tt)) (by have := hiIx_lt tt; omega) ?c3
      case c1 => exact (B1 hK hx).ev 5 [] rfl trivial (congrArg AV.str T_sgn) rfl
      case c2 =>
        refine' (B1 hK hx).ev 8 [] rfl ?b2 (congrArg AV.int e8) rfl
        walk_at "ob2"
      case c3 => exact fun _ _ => rfl

noncomputable def oddB (x : Int) : Bool := x.fmod 2 == 1
noncomputable def chB (lo hi : Nat) (b : Bool) : Nat := bif b then hi else lo
noncomputable def wordL (lo hi : Nat) (ns : List Int) : List Nat := (ns.take 7).map fun x => chB lo hi (oddB x)
theorem chB_T (lo hi : Nat) (b : Bool) : (bif b then T [hi] else T [lo]) = T [chB lo hi b] := by cases b <;> rfl
theorem word_strs (lo hi : Nat) (xs : List Int) : (List.range xs.length).map (fun k => AV.str (bif (xs.getD k 0).fmod 2 == 1 then T [hi] else T [lo])) = (sgs (xs.map fun x => chB lo hi (oddB x))).map .str := by
  rw [range_getD xs 0 (fun x => AV.str (bif x.fmod 2 == 1 then T [hi] else T [lo]))]
  unfold sgs
  rw [List.map_map, List.map_map]
  refine List.map_congr_left fun x _ => ?_
  show AV.str (bif oddB x then T [hi] else T [lo]) = _
  rw [chB_T]; rfl

noncomputable def lw1 (ts : List Nat) (lo hi : Nat) (cs cg : Option AV) (ns : List Int) (js : List AO) : List AO := lwO ts (some (.str (T [lo]))) (some (.str (T [hi]))) cs cg ([.list (ns.map .int)] ++ js)

theorem law5 (hK : c.K = KK P) (hx : c.XR = XRof LL1) {ns : List Int} {lo hi : Nat} (hn : ns.length = 9) :
    Ex c (n + 1) (fdL P cq) (stK P 106 5) ⟨[("numbers", .ref 5)], lw1 [] lo hi none none ns []⟩ .next ⟨[("numbers", .ref 5), ("word", .str (T (wordL lo hi ns)))], lw1 [] lo hi none none ns []⟩ := by
  have hz : sizeLine = 2 ^ 24 := sizeLine_eq
  have hzn : (ns.map AV.int).length ≤ sizeLine := by rw [List.length_map]; omega
  have hl7 : (ns.take 7).length = 7 := by rw [List.length_take]; omega
  have hjo : CallR c (n + 1) (.builtin "str.join") [.str (Str.ofString ""), .ref 7] (lw1 [] lo hi none none ns [.list ((ns.take 7).map .int), .list ((sgs (wordL lo hi ns)).map .str)]) (.str (T (wordL lo hi ns))) (lw1 [] lo hi none none ns [.list ((ns.take 7).map .int), .list ((sgs (wordL lo hi ns)).map .str)]) := by
    rw [T_nil, ← join_sgs (wordL lo hi ns)]
    exact join_s rfl (sgs_joinOk _ (by unfold wordL; rw [List.length_map]; omega))
  refine Ex.cut (vs' := [("numbers", .ref 5), ("word", .str (T (wordL lo hi ns)))]) (js := [.list ((ns.take 7).map .int), .list ((sgs (wordL lo hi ns)).map .str)]) ?go rfl (by walk_at "clo") (vsLt_of rfl) (fun _ h => nomatch h)
  refine' (B1 hK hx).st 8 [(.ref 7, lw1 [] lo hi none none ns [.list ((ns.take 7).map .int), .list ((sgs (wordL lo hi ns)).map .str)]), (.str (T (wordL lo hi ns)), lw1 [] lo hi none none ns [.list ((ns.take 7).map .int), .list ((sgs (wordL lo hi ns)).map .str)])] ⟨[("numbers", .ref 5), ("word", .str (T (wordL lo hi ns)))], lw1 [] lo hi none none ns [.list ((ns.take 7).map .int), .list ((sgs (wordL lo hi ns)).map .str)]⟩ rfl ?f1 ?s1 rfl
  case s1 => walk_at "sub"
  case f1 =>
    walk_at "ob2"
    refine' Ev.mapAs (src := .list 6) (a := .ref 6) (vs := [("numbers", .ref 5)]) (ns.take 7).length (fun _ => lw1 [] lo hi none none ns [.list ((ns.take 7).map .int)]) (fun k => .int ((ns.take 7).getD k 0)) (fun k => .str (bif ((ns.take 7).getD k 0).fmod 2 == 1 then T [hi] else T [lo])) _ (word_strs lo hi _) ?h1 (.list rfl) (fun k hk => item_ints rfl hk) (item_intsE rfl) ⟨_, rfl⟩ rfl ?turn (by omega) (compOk_of rfl rfl rfl rfl) (fun _ _ => rfl)
    case h1 =>
      refine' (B1 hK hx).ev 8 [] rfl ?g1 rfl ?g2
      case g1 => walk_at "ob2"
      case g2 =>
        refine Eq.trans (b := ⟨[("numbers", .ref 5)], lw1 [] lo hi none none ns [.list (cut (ns.map AV.int) none (some ((7 : Nat) : Int)))]⟩) rfl ?_
        rw [cut_to, List.map_take]
    case turn =>
      intro k hk
      refine ⟨_, (B1 hK hx).ev 8 [] rfl ?_ rfl rfl⟩
      walk_at "ob2"
end

noncomputable section
variable {c : Cx} {n : Nat} {P : Params} {cq : Option (Value × Str)}

noncomputable def sB (lo hi : Nat) (ns : List Int) (k : Nat) : Nat := chB lo hi (oddB (ns.getD k 0))
noncomputable def thereP (lo hi : Nat) (ns : List Int) : List (List Nat × List Nat) := [([sB lo hi ns 7], [lo, hi]), ([sB lo hi ns 8], [lo, hi])]
noncomputable def homeP (lo hi : Nat) (ns : List Int) : List (List Nat × List Nat) := [([lo, hi], [sB lo hi ns 8]), ([lo, hi], [sB lo hi ns 7])]

theorem int_idx {ns : List Int} {k : Nat} (h : k < ns.length) : (ns.map AV.int)[k]? = some (.int (ns.getD k 0)) := by rw [List.getElem?_map, List.getD_eq_getElem?_getD, List.getElem?_eq_getElem h]; rfl

noncomputable def sA (lo hi : Nat) (x : Int) : AV := .str (bif x.fmod 2 == 1 then T [hi] else T [lo])
noncomputable def lwA (lo hi : Nat) (ns : List Int) (js : List AO) : List AO := lw1 [] lo hi none none ns js

set_option maxHeartbeats 1000000 in
theorem law6 (hK : c.K = KK P) (hx : c.XR = XRof LL1) {ns : List Int} {lo hi : Nat} {wd : Str} (hn : ns.length = 9) :
    Ex c (n + 1) (fdL P cq) (stK P 106 6) ⟨[("numbers", .ref 5), ("word", .str wd)], lw1 [] lo hi none none ns []⟩ .next ⟨[("numbers", .ref 5), ("word", .str wd), ("there", .ref 6)], lw1 [] lo hi none none ns [.list (flatPs (thereP lo hi ns))]⟩ := by
  have hz : sizeLine = 2 ^ 24 := sizeLine_eq
  have hz1 : (T [lo]).length + (T [hi]).length ≤ sizeLine := by rw [T_len, T_len, hz]; exact Nat.le_of_ble_eq_true rfl
  have idx : ∀ {value slice : Expr} {pos : Pos} {k : Nat} {σ : S}, k < 9 → σ.os[5]? = some (.list (ns.map .int)) → Ev c (n + 1) (fdL P cq) value σ (.ref 5) σ → Ev c (n + 1) (fdL P cq) slice σ (.int k) σ → (∀ o i, subscripted slice false o i = operate [o, i] (getItem o i)) →
        Ev c (n + 1) (fdL P cq) (.Subscript value slice pos) σ (.int (ns.getD k 0)) σ := fun hk ho h1 h2 h3 => Ev.idxL h1 h2 ho (int_idx (by omega)) (by omega) h3
  let p7 : List AV := [sA lo hi (ns.getD 7 0), .str (T [lo] ++ T [hi])]
  let p8 : List AV := [sA lo hi (ns.getD 8 0), .str (T [lo] ++ T [hi])]
  let L78 : AO := .list [.int (ns.getD 7 0), .int (ns.getD 8 0)]
  have hfl : flatPs (thereP lo hi ns) = [sA lo hi (ns.getD 7 0), .str (T [lo] ++ T [hi]), sA lo hi (ns.getD 8 0), .str (T [lo] ++ T [hi])] := by
    unfold sA
    rw [chB_T, chB_T, T_app]; rfl
  rw [hfl]
  refine Exs.one (Exs.sel (os₁ := lwA lo hi ns [L78, .list p7, .list p8, .list (p7 ++ p8)]) (vs' := [("numbers", .ref 5), ("word", .str wd), ("there", .ref 9)]) (f := .next) 6 [9] ?go rfl (by decide) ?held ?cl ?sub rfl)
  case held => exact ⟨rfl, rfl, rfl, rfl, rfl, by show some (AO.list (ns.map .int)) = some (AO.list ((ns.map AV.int).map (AV.ren _))); rw [ren_ints], rfl, trivial⟩
  case cl => walk_at "clo"
  case sub => exact ⟨rfl, fun _ _ => trivial, rfl, fun _ _ => trivial, rfl, fun _ _ => trivial, trivial⟩
  case go =>
    refine' Exs.cons (σ₁ := ⟨[("numbers", .ref 5), ("word", .str wd), ("there", .ref 9)], lwA lo hi ns [L78, .list p7, .list p8, .list (p7 ++ p8)]⟩) (Ex.less (Ex.assignComp (a := .ref 6) (src := .list 6) (σ₁ := ⟨[("numbers", .ref 5), ("word", .str wd)], lwA lo hi ns [L78]⟩) (σ₂ := ⟨[], lwA lo hi ns [L78, .list p7, .list p8]⟩) (acc := p7 ++ p8) ?h1 (.list rfl) ?h2 (sto_ok rfl) ⟨_, rfl⟩ (compOk_of rfl rfl rfl rfl) ?h5 rfl ?h6) ?h7 rfl) Exs.nil
    case h1 =>
      refine' (B1 hK hx).ev' 8 [(.int (ns.getD 7 0), lwA lo hi ns []), (.int (ns.getD 8 0), lwA lo hi ns [])] rfl ?g1 rfl rfl
      walk_at "ob2"
      · exact idx (by decide) rfl ((B1 hK hx).ev 5 [] rfl trivial rfl rfl) ((B1 hK hx).ev 5 [] rfl trivial rfl rfl) (fun _ _ => rfl)
      · exact idx (by decide) rfl ((B1 hK hx).ev 5 [] rfl trivial rfl rfl) ((B1 hK hx).ev 5 [] rfl trivial rfl rfl) (fun _ _ => rfl)
    case h2 =>
      refine' Cp.nest (a := .ref 7) (src' := .list 7) (v := .int (ns.getD 7 0)) (σ₂ := ⟨[("x", .int (ns.getD 7 0))], lwA lo hi ns [L78, .list p7]⟩) (σ₃ := ⟨[], lwA lo hi ns [L78, .list p7]⟩) (acc₁ := p7) rfl (sto_ok rfl) ?i1 (.list rfl) ?i2 ?i3 rfl rfl ?i4
      case i1 =>
        refine' (B1 hK hx).ev 8 [] rfl ?j1 rfl rfl
        walk_at "ob2"
      case i2 =>
        exact Cp.two (acc := []) rfl rfl rfl rfl (Nat.zero_le _) (by decide)
      case i3 =>
        refine' Cp.nest (a := .ref 8) (src' := .list 8) (v := .int (ns.getD 8 0)) (σ₂ := ⟨[("x", .int (ns.getD 8 0))], lwA lo hi ns [L78, .list p7, .list p8]⟩) (σ₃ := ⟨[], lwA lo hi ns [L78, .list p7, .list p8]⟩) (acc₁ := p7 ++ p8) rfl (sto_ok rfl) ?m1 (.list rfl) ?m2 (Cp.done rfl rfl ⟨_, rfl⟩) rfl rfl ?m4
        case m1 =>
          refine' (B1 hK hx).ev 8 [] rfl ?n1 rfl rfl
          walk_at "ob2"
        case m2 =>
          exact Cp.two (acc := p7) rfl rfl rfl rfl (Nat.le_of_ble_eq_true rfl) (by decide)
        case m4 => exact fun _ _ => rfl
      case i4 => exact fun _ _ => rfl
    case h5 => exact fun env he => by cases env; dsimp only at he; subst he; rfl
    case h6 => exact fun _ _ => rfl
    case h7 => walk_at "sub"
set_option maxHeartbeats 1000000 in
theorem law7 (hK : c.K = KK P) (hx : c.XR = XRof LL1) {ns : List Int} {lo hi : Nat} {wd : Str} (hn : ns.length = 9) {th : AO} (hth : ∀ r, th.ren r = th) (hth2 : th.refs = []) :
    Ex c (n + 1) (fdL P cq) (stK P 106 7) ⟨[("numbers", .ref 5), ("word", .str wd), ("there", .ref 6)], lw1 [] lo hi none none ns [th]⟩ .next ⟨[("numbers", .ref 5), ("word", .str wd), ("there", .ref 6), ("home", .ref 7)], lw1 [] lo hi none none ns [th, .list (flatPs (homeP lo hi ns))]⟩ := by
  have hz : sizeLine = 2 ^ 24 := sizeLine_eq
  have hz1 : (T [lo]).length + (T [hi]).length ≤ sizeLine := by rw [T_len, T_len, hz]; exact Nat.le_of_ble_eq_true rfl
  have idx : ∀ {value slice : Expr} {pos : Pos} {k : Nat} {σ : S}, k < 9 → σ.os[5]? = some (.list (ns.map .int)) → Ev c (n + 1) (fdL P cq) value σ (.ref 5) σ → Ev c (n + 1) (fdL P cq) slice σ (.int k) σ → (∀ o i, subscripted slice false o i = operate [o, i] (getItem o i)) →
        Ev c (n + 1) (fdL P cq) (.Subscript value slice pos) σ (.int (ns.getD k 0)) σ := fun hk ho h1 h2 h3 => Ev.idxL h1 h2 ho (int_idx (by omega)) (by omega) h3
  let p7 : List AV := [.str (T [lo] ++ T [hi]), sA lo hi (ns.getD 8 0)]
  let p8 : List AV := [.str (T [lo] ++ T [hi]), sA lo hi (ns.getD 7 0)]
  let L78 : AO := .list [.int (ns.getD 8 0), .int (ns.getD 7 0)]
  have hfl : flatPs (homeP lo hi ns) = [.str (T [lo] ++ T [hi]), sA lo hi (ns.getD 8 0), .str (T [lo] ++ T [hi]), sA lo hi (ns.getD 7 0)] := by
    unfold sA
    rw [chB_T, chB_T, T_app]; rfl
  rw [hfl]
  refine Exs.one (Exs.sel (os₁ := lwA lo hi ns [th, L78, .list p7, .list p8, .list (p7 ++ p8)]) (vs' := [("numbers", .ref 5), ("word", .str wd), ("there", .ref 6), ("home", .ref 10)]) (f := .next) 7 [10] ?go rfl (by decide) ?held ?cl ?sub rfl)
  case held => exact ⟨rfl, rfl, rfl, rfl, rfl, by show some (AO.list (ns.map .int)) = some (AO.list ((ns.map AV.int).map (AV.ren _))); rw [ren_ints], congrArg some (hth _).symm, rfl, trivial⟩
  case cl =>
    have hth3 : ∀ m, RefsLt m th.refs := fun m i h => by rw [hth2] at h; cases h
    have := hth3 8
    walk_at "clo"
  case sub => exact ⟨rfl, fun _ _ => trivial, rfl, fun _ _ => trivial, rfl, fun _ _ => trivial, rfl, fun _ _ => trivial, trivial⟩
  case go =>
    refine' Exs.cons (σ₁ := ⟨[("numbers", .ref 5), ("word", .str wd), ("there", .ref 6), ("home", .ref 10)], lwA lo hi ns [th, L78, .list p7, .list p8, .list (p7 ++ p8)]⟩) (Ex.less (Ex.assignComp (a := .ref 7) (src := .list 7) (σ₁ := ⟨[("numbers", .ref 5), ("word", .str wd), ("there", .ref 6)], lwA lo hi ns [th, L78]⟩) (σ₂ := ⟨[], lwA lo hi ns [th, L78, .list p7, .list p8]⟩) (acc := p7 ++ p8) ?h1 (.list rfl) ?h2 (sto_ok rfl) ⟨_, rfl⟩ (compOk_of rfl rfl rfl rfl) ?h5 rfl ?h6) ?h7 rfl) Exs.nil
    case h1 =>
      refine' (B1 hK hx).ev' 8 [(.int (ns.getD 8 0), lwA lo hi ns [th]), (.int (ns.getD 7 0), lwA lo hi ns [th])] rfl ?g1 rfl rfl
      walk_at "ob2"
      · exact idx (by decide) rfl ((B1 hK hx).ev 5 [] rfl trivial rfl rfl) ((B1 hK hx).ev 5 [] rfl trivial rfl rfl) (fun _ _ => rfl)
      · exact idx (by decide) rfl ((B1 hK hx).ev 5 [] rfl trivial rfl rfl) ((B1 hK hx).ev 5 [] rfl trivial rfl rfl) (fun _ _ => rfl)
    case h2 =>
      refine' Cp.nest (a := .ref 8) (src' := .list 8) (v := .int (ns.getD 8 0)) (σ₂ := ⟨[("x", .int (ns.getD 8 0))], lwA lo hi ns [th, L78, .list p7]⟩) (σ₃ := ⟨[], lwA lo hi ns [th, L78, .list p7]⟩) (acc₁ := p7) rfl (sto_ok rfl) ?i1 (.list rfl) ?i2 ?i3 rfl rfl ?i4
      case i1 =>
        refine' (B1 hK hx).ev 8 [] rfl ?j1 rfl rfl
        walk_at "ob2"
      case i2 =>
        exact Cp.two (acc := []) rfl rfl rfl rfl (Nat.zero_le _) (by decide)
      case i3 =>
        refine' Cp.nest (a := .ref 9) (src' := .list 9) (v := .int (ns.getD 7 0)) (σ₂ := ⟨[("x", .int (ns.getD 7 0))], lwA lo hi ns [th, L78, .list p7, .list p8]⟩) (σ₃ := ⟨[], lwA lo hi ns [th, L78, .list p7, .list p8]⟩) (acc₁ := p7 ++ p8) rfl (sto_ok rfl) ?m1 (.list rfl) ?m2 (Cp.done rfl rfl ⟨_, rfl⟩) rfl rfl ?m4
        case m1 =>
          refine' (B1 hK hx).ev 8 [] rfl ?n1 rfl rfl
          walk_at "ob2"
        case m2 =>
          exact Cp.two (acc := p7) rfl rfl rfl rfl (Nat.le_of_ble_eq_true rfl) (by decide)
        case m4 => exact fun _ _ => rfl
      case i4 => exact fun _ _ => rfl
    case h5 => exact fun env he => by cases env; dsimp only at he; subst he; rfl
    case h6 => exact fun _ _ => rfl
    case h7 => walk_at "sub"
end

noncomputable section
variable {c : Cx} {n : Nat} {P : Params} {cq : Option (Value × Str)}

theorem flatPs_ren (r : Nat → Nat) : ∀ ps : List (List Nat × List Nat), (flatPs ps).map (AV.ren r) = flatPs ps
  | [] => rfl
  | _ :: ps => by show _ :: _ :: (flatPs ps).map (AV.ren r) = _; rw [flatPs_ren r ps]; rfl
theorem flatPs_refs : ∀ ps : List (List Nat × List Nat), AVs.refs (flatPs ps) = []
  | [] => rfl
  | _ :: ps => flatPs_refs ps

theorem replCall (hK : c.K = KK P) (hx : c.XR = XRof LL1) (ps : List (List Nat × List Nat)) (l : List Nat) (os : List AO) (hp : ps.length = 2) (hok : ReplOk ps l) : CallR c (n + 2) (.ref 70) (.str (T l) :: flatPs ps) os (.str (T (replAll ps l))) os := by
  refine Op.bare (replaceD hK hx ps l (by omega) hok ?_) (fun r => ?_) (fun _ => rfl)
  · intro d x xs hxs ⟨o, od, sl, hd⟩
    rw [flatPs_len, hp] at hxs
    have hd' : (KK P).lookup 70 = some ⟨_, _, .func _, _⟩ := rfl
    rw [hd'] at hd
    cases hd
    match xs, hxs with
    | [a, b, c, d], _ => rfl
  · rw [List.map_cons, flatPs_ren]; rfl

/-- replace(t, *pairs) -/
theorem Ev.repl (hK : c.K = KK P) (hx : c.XR = XRof LL1) {ps : List (List Nat × List Nat)} {l : List Nat} {σ : S} {i : Nat} {p1 p2 pos : Pos} {e1 e2 : Expr} (hp : ps.length = 2) (hok : ReplOk ps l)
    (h0 : Ev c (n + 2) (fdL P cq) (.Name "replace" p1) σ (.lit (.ref 70)) σ) (h1 : Ev c (n + 2) (fdL P cq) e1 σ (.str (T l)) σ) (h2 : Ev c (n + 2) (fdL P cq) e2 σ (.ref i) σ) (ho : σ.os[i]? = some (.list (flatPs ps))) (hpl : ∀ env, starEach (e1 :: [.Starred e2 p2]) env = (false, eval e1 env) :: starEach [.Starred e2 p2] env) :
    Ev c (n + 2) (fdL P cq) (.Call (.Name "replace" p1) [e1, .Starred e2 p2] [] pos) σ (.str (T (replAll ps l))) σ := by
  have hargs : Evs c (n + 2) (fdL P cq) [e1, .Starred e2 p2] σ (.str (T l) :: flatPs ps) σ := by
    have := Evs.cons h1 (Evs.star (p := p2) h2 ho (by rw [flatPs_len, hp, sizeLine_eq]; decide) Evs.nil) hpl
    rwa [List.append_nil] at this
  obtain ⟨d, body, D⟩ : ∃ d body, DefAt c 70 d body := ⟨_, _, DefAt.of hK rfl rfl rfl rfl rfl rfl rfl rfl⟩
  obtain ⟨o, ho1, ho2⟩ := D.there
  exact Ev.call h0 hargs (.kp (by rw [hK]; rfl)) (replCall hK hx ps l σ.os hp hok) (.cons hpl) (.inr ⟨70, o, d, rfl, ho1, ho2⟩)

noncomputable def lw2 (lo hi : Nat) (cs cg : Option AV) (ns : List Int) (js : List AO) : List AO := lw1 [] lo hi cs cg ns ([.list (flatPs (thereP lo hi ns)), .list (flatPs (homeP lo hi ns))] ++ js)
noncomputable def spunL (lo hi : Nat) (ns : List Int) : List Nat := replAll (thereP lo hi ns) (wordL lo hi ns)
noncomputable def lvs (wd : List Nat) : List (Str × AV) := [("numbers", .ref 5), ("word", .str (T wd)), ("there", .ref 6), ("home", .ref 7)]

theorem law8 (hK : c.K = KK P) (hx : c.XR = XRof LL1) {ns : List Int} {lo hi : Nat} (hok : ReplOk (thereP lo hi ns) (wordL lo hi ns)) :
    Ex c (n + 2) (fdL P cq) (stK P 106 8) ⟨lvs (wordL lo hi ns), lw2 lo hi none none ns []⟩ .next ⟨lvs (wordL lo hi ns), lw2 lo hi (some (.str (T (spunL lo hi ns)))) none ns []⟩ := by
  refine' (B1 hK hx).st 8 [(.str (T (spunL lo hi ns)), lw2 lo hi none none ns [])] ⟨lvs (wordL lo hi ns), lw2 lo hi (some (.str (T (spunL lo hi ns)))) none ns []⟩ rfl ?f1 ?s1 rfl
  case s1 => walk_at "sub"
  case f1 =>
    walk_at "ob2"
    refine' Ev.repl hK hx (ps := thereP lo hi ns) (l := wordL lo hi ns) (i := 6) rfl hok ?a1 ?a2 ?a3 rfl ?a4
    case a1 => exact (B1 hK hx).ev 5 [] rfl trivial rfl rfl
    case a2 => exact (B1 hK hx).ev 5 [] rfl trivial rfl rfl
    case a3 => exact (B1 hK hx).ev 5 [] rfl trivial rfl rfl
    case a4 => exact fun _ => rfl

theorem law9 (hK : c.K = KK P) (hx : c.XR = XRof LL1) {ns : List Int} {lo hi : Nat} (hok : ReplOk (homeP lo hi ns) (spunL lo hi ns)) (hback : replAll (homeP lo hi ns) (spunL lo hi ns) = wordL lo hi ns) :
    Ex c (n + 2) (fdL P cq) (stK P 106 9) ⟨lvs (wordL lo hi ns), lw2 lo hi (some (.str (T (spunL lo hi ns)))) none ns []⟩ .next ⟨lvs (wordL lo hi ns), lw2 lo hi (some (.str (T (spunL lo hi ns)))) none ns []⟩ := by
  refine' Ex.ifF (z := false) (σ₁ := ⟨lvs (wordL lo hi ns), lw2 lo hi (some (.str (T (spunL lo hi ns)))) none ns []⟩) ((B1 hK hx).tst 8 [(.str (T (replAll (homeP lo hi ns) (spunL lo hi ns))), lw2 lo hi (some (.str (T (spunL lo hi ns)))) none ns [])] rfl ?f1 ?f2 rfl) rfl Exs.nil
  case f1 =>
    walk_at "ob2"
    refine' Ev.repl hK hx (ps := homeP lo hi ns) (l := spunL lo hi ns) (i := 7) rfl hok ?a1 ?a2 ?a3 rfl ?a4
    case a1 => exact (B1 hK hx).ev 5 [] rfl trivial rfl rfl
    case a2 => exact (B1 hK hx).ev 5 [] rfl trivial rfl rfl
    case a3 => exact (B1 hK hx).ev 5 [] rfl trivial rfl rfl
    case a4 => exact fun _ => rfl
  case f2 =>
    show (T (replAll (homeP lo hi ns) (spunL lo hi ns)) != T (wordL lo hi ns)) = false
    rw [hback]; simp

/-- after _law_turns -/
noncomputable def lw3 (lo hi : Nat) (cg : Option AV) (ns : List Int) (js : List AO) : List AO := lwO [8, 9] (some (.str (T [lo]))) (some (.str (T [hi]))) (some (.str (T (spunL lo hi ns)))) cg
  ([.list (ns.map .int), .list (flatPs (thereP lo hi ns)), .list (flatPs (homeP lo hi ns)), .x (.code 0), .x (.code 1), .list ((trn (spunL lo hi ns)).map .str)] ++ js)
noncomputable def lvs2 (wd : List Nat) : List (Str × AV) := [("numbers", .ref 5), ("word", .str (T wd)), ("turns", .ref 10)]

theorem refs_flat {m : Nat} {ps : List (List Nat × List Nat)} : RefsLt m (AO.list (flatPs ps)).refs := fun i hi => by
  rw [show (AO.list (flatPs ps)).refs = [] from flatPs_refs ps] at hi; cases hi

theorem law10 (hK : c.K = KK P) (hx : c.XR = XRof LL1) (M : Lm c LL1 76) {ns : List Int} {lo hi : Nat} (hn : ns.length = 9) (hl : (spunL lo hi ns).length ≤ 200) (hch : ∀ x ∈ spunL lo hi ns, x < 1000) :
    Ex c (n + 10) (fdL P cq) (stK P 106 10) ⟨lvs (wordL lo hi ns), lw2 lo hi (some (.str (T (spunL lo hi ns)))) none ns []⟩ .next ⟨lvs2 (wordL lo hi ns), lw3 lo hi none ns []⟩ := by
  have h1 : CallR c (n + 10) (.ref 89) [.str (T (spunL lo hi ns)), .ref 5] (lw2 lo hi (some (.str (T (spunL lo hi ns)))) none ns []) (.ref 10) (lw3 lo hi none ns []) := by
    have := Op.frame (π := [5, 0]) (os := lw2 lo hi (some (.str (T (spunL lo hi ns)))) none ns []) (os₀ := [.list (ns.map .int), .x (.tab [])]) (os₀' := [.list (ns.map .int), .x (.tab [2, 3])]) (new := [.x (.code 0), .x (.code 1), .list ((trn (spunL lo hi ns)).map .str)])
      (turnsD (n := n) hK hx M (l := spunL lo hi ns) (ns := ns) hl (by omega) (by omega) hch) rfl (by decide) ⟨by show some (AO.list (ns.map .int)) = some (AO.list ((ns.map AV.int).map (AV.ren _))); rw [ren_ints], rfl, trivial⟩ (by walk_at "clo")
    refine Op.as this rfl rfl ?_
    refine Eq.trans (b := lwO [8, 9] (some (.str (T [lo]))) (some (.str (T [hi]))) (some (.str (T (spunL lo hi ns)))) none [.list ((ns.map AV.int).map (AV.ren (Mine.out [5, 0] 8))), .list (flatPs (thereP lo hi ns)), .list (flatPs (homeP lo hi ns)), .x (.code 0), .x (.code 1), .list (((trn (spunL lo hi ns)).map AV.str).map (AV.ren (Mine.out [5, 0] 8)))]) rfl ?_
    rw [ren_ints, ren_strs]; rfl
  refine' (B1 hK hx).st 8 [(.ref 10, lw3 lo hi none ns [])] ⟨lvs2 (wordL lo hi ns), lw3 lo hi none ns []⟩ rfl ?f1 ?s1 rfl
  case s1 => walk_at "sub"
  case f1 => walk_at "ob2"

theorem trn_ok {l : List Nat} (hch : ∀ x ∈ l, x < 1000) : (trn l).all PyData.strOk = true := by
  rw [List.all_eq_true]
  intro x hx
  unfold trn at hx
  obtain ⟨k, _, rfl⟩ := List.mem_map.mp hx
  show (T (rot (k + 1) l)).cps.all _ = true
  rw [Array.all_eq_true']
  intro z hz'
  have hz2 : z ∈ rot (k + 1) l := by simpa [T] using hz'
  unfold rot at hz2
  have : z ∈ l := (List.mem_append.mp hz2).elim List.mem_of_mem_drop List.mem_of_mem_take
  have := hch z this
  simp; omega

theorem law11 (hK : c.K = KK P) (hx : c.XR = XRof LL1) {ns : List Int} {lo hi : Nat} (hn : ns.length = 9) (hl : (spunL lo hi ns).length ≤ 200) (hch : ∀ x ∈ spunL lo hi ns, x < 1000) :
    Ex c (n + 2) (fdL P cq) (stK P 106 11) ⟨lvs2 (wordL lo hi ns), lw3 lo hi none ns []⟩ .next ⟨lvs2 (wordL lo hi ns), lw3 lo hi none ns []⟩ := by
  have hz : sizeLine = 2 ^ 24 := sizeLine_eq
  have hzl : (T (spunL lo hi ns)).length ≤ sizeLine := by rw [T_len]; omega
  have hne : Op2 c (n + 2) (compareOp .NotEq) (.ref 10) (.ref 12) (lw3 lo hi none ns [.rng 1 (((spunL lo hi ns).length : Int) + 1), .list ((trn (spunL lo hi ns)).map .str)]) (.bool false) (lw3 lo hi none ns [.rng 1 (((spunL lo hi ns).length : Int) + 1), .list ((trn (spunL lo hi ns)).map .str)]) := by
    have := ne_ls (c := c) (n := n + 2) (i := 10) (j := 12) (os := lw3 lo hi none ns [.rng 1 (((spunL lo hi ns).length : Int) + 1), .list ((trn (spunL lo hi ns)).map .str)]) (xs := trn (spunL lo hi ns)) (ys := trn (spunL lo hi ns)) rfl rfl (trn_ok hch) (trn_ok hch)
    rw [decide_eq_true rfl] at this
    exact this
  refine Ex.cut (vs' := lvs2 (wordL lo hi ns)) (js := [.rng 1 (((spunL lo hi ns).length : Int) + 1), .list ((trn (spunL lo hi ns)).map .str)]) ?go rfl ?cl (vsLt_of rfl) (fun _ h => nomatch h)
  case cl =>
    have e1 := refs_flat (m := 11) (ps := thereP lo hi ns)
    have e2 := refs_flat (m := 11) (ps := homeP lo hi ns)
    walk_at "clo"
  case go =>
    refine' Ex.ifF (z := false) (σ₁ := ⟨lvs2 (wordL lo hi ns), lw3 lo hi none ns [.rng 1 (((spunL lo hi ns).length : Int) + 1), .list ((trn (spunL lo hi ns)).map .str)]⟩) ((B1 hK hx).tst 8 [(.ref 12, lw3 lo hi none ns [.rng 1 (((spunL lo hi ns).length : Int) + 1), .list ((trn (spunL lo hi ns)).map .str)]), (.bool false, lw3 lo hi none ns [.rng 1 (((spunL lo hi ns).length : Int) + 1), .list ((trn (spunL lo hi ns)).map .str)])] rfl ?f1 rfl rfl) rfl Exs.nil
    walk_at "ob2"
    refine' Ev.mapAs (src := .rng 1 (((spunL lo hi ns).length : Int) + 1)) (a := .ref 11) (vs := lvs2 (wordL lo hi ns)) (spunL lo hi ns).length (fun _ => lw3 lo hi none ns [.rng 1 (((spunL lo hi ns).length : Int) + 1)]) (fun k => .int ((1 + k : Nat) : Int)) (fun k => .str (T (rot (k + 1) (spunL lo hi ns)))) _ ?acc ?h1 (.rng rfl (small_rr (by omega) (by omega) (by omega) (by omega))) ?h2 ?h3 trivial rfl ?turn (by omega) (compOk_of rfl rfl rfl rfl) (fun _ _ => rfl)
    case acc => unfold trn; rw [List.map_map]; rfl
    case h1 =>
      refine' (B1 hK hx).ev 8 [] rfl ?g1 rfl rfl
      walk_at "ob2"
    case h2 => intro k hk; rw [item_r (by omega)]; simp
    case h3 => exact item_rE (by omega)
    case turn =>
      intro k hk
      refine ⟨_, (B1 hK hx).ev 8 [] rfl ?_ ?_ rfl⟩
      · walk_at "ob2"
        rw [cutS_T, cutS_T, cut_from, cut_to, T_len, T_len, List.length_drop, List.length_take]; omega
      · show AV.str (cutS (T (spunL lo hi ns)) (some ((1 + k : Nat) : Int)) none ++ cutS (T (spunL lo hi ns)) none (some ((1 + k : Nat) : Int))) = _
        rw [cutS_T, cutS_T, cut_from, cut_to, T_app, Nat.add_comm 1 k]; rfl
end

noncomputable section
variable {c : Cx} {n : Nat} {P : Params} {cq : Option (Value × Str)}

noncomputable def sizesL (lo hi : Nat) (sp : List Nat) : List Int := bw lo hi (sp ++ sp) ((sp ++ sp).length + 1) [[]] []
noncomputable def lw4 (lo hi : Nat) (cg : Option AV) (ns : List Int) (js : List AO) : List AO := lw3 lo hi cg ns ([.list ((sizesL lo hi (spunL lo hi ns)).map .int)] ++ js)
noncomputable def lvs3 (wd : List Nat) (vs : List (Str × AV)) : List (Str × AV) := ("word", .str (T wd)) :: ("turns", .ref 10) :: ("sizes", .ref 11) :: vs

theorem law12 (hK : c.K = KK P) (hx : c.XR = XRof LL1) (M : Lm c LL1 76) {ns : List Int} {lo hi : Nat} (hl : (spunL lo hi ns).length ≤ 200) (hlo : lo < 1000) (hhi : hi < 1000) (hlo' : lo ≠ 46) (hhi' : hi ≠ 46) :
    Ex c (n + 10) (fdL P cq) (stK P 106 12) ⟨lvs2 (wordL lo hi ns), lw3 lo hi none ns []⟩ .next ⟨lvs3 (wordL lo hi ns) [], lw4 lo hi none ns []⟩ := by
  have hz : sizeLine = 2 ^ 24 := sizeLine_eq
  have hzl : (T (spunL lo hi ns)).length + (T (spunL lo hi ns)).length ≤ sizeLine := by rw [T_len]; omega
  have h1 : CallR c (n + 10) (.ref 96) [.str (T [lo]), .str (T [hi]), .str (T (spunL lo hi ns) ++ T (spunL lo hi ns))] (lw3 lo hi none ns []) (.ref 11) (lw4 lo hi none ns []) := by
    rw [T_app]
    have := Op.frame (π := [0, 8, 9]) (os := lw3 lo hi none ns []) (os₀ := [.x (.tab [1, 2]), .x (.code 0), .x (.code 1)]) (os₀' := [.x (.tab [1, 2]), .x (.code 0), .x (.code 1)]) (new := [.list ((sizesL lo hi (spunL lo hi ns)).map .int)])
      (bothD (n := n) hK hx M (lo := lo) (hi := hi) (tw := spunL lo hi ns ++ spunL lo hi ns) hlo hhi hlo' hhi' (by simp; omega)) rfl (by decide) ⟨rfl, rfl, rfl, trivial⟩ (by walk_at "clo")
    refine Op.as this rfl rfl ?_
    refine Eq.trans (b := lw3 lo hi none ns [.list (((sizesL lo hi (spunL lo hi ns)).map AV.int).map (AV.ren (Mine.out [0, 8, 9] 11)))]) rfl ?_
    rw [ren_ints]; rfl
  refine' (B1 hK hx).st 8 [(.ref 11, lw4 lo hi none ns [])] ⟨lvs3 (wordL lo hi ns) [], lw4 lo hi none ns []⟩ rfl ?f1 ?s1 rfl
  case s1 => walk_at "sub"
  case f1 => walk_at "ob2"

theorem law13 (hK : c.K = KK P) (hx : c.XR = XRof LL1) {ns : List Int} {lo hi : Nat} (hl : (spunL lo hi ns).length ≤ 200) (hs : (sizesL lo hi (spunL lo hi ns)).length ≤ 500)
    (h1 : (trn (spunL lo hi ns))[(sizesL lo hi (spunL lo hi ns)).length]? = some (T (spunL lo hi ns))) (h2 : ∀ k, k < (sizesL lo hi (spunL lo hi ns)).length → (trn (spunL lo hi ns))[k]? ≠ some (T (spunL lo hi ns))) :
    Ex c (n + 2) (fdL P cq) (stK P 106 13) ⟨lvs3 (wordL lo hi ns) [], lw4 lo hi none ns []⟩ .next ⟨lvs3 (wordL lo hi ns) [], lw4 lo hi none ns []⟩ := by
  have hz : sizeLine = 2 ^ 24 := sizeLine_eq
  have hzs : ((sizesL lo hi (spunL lo hi ns)).map AV.int).length ≤ sizeLine := by rw [List.length_map]; omega
  have hix : CallR c (n + 2) (.builtin "list.index") [.ref 10, .str (T (spunL lo hi ns))] (lw4 lo hi none ns []) (.int ((sizesL lo hi (spunL lo hi ns)).length : Int)) (lw4 lo hi none ns []) := index_l rfl h1 h2 (by unfold trn; rw [List.length_map, List.length_range]; omega)
  refine' Ex.ifF (z := false) (σ₁ := ⟨lvs3 (wordL lo hi ns) [], lw4 lo hi none ns []⟩) ((B1 hK hx).tst 8 [(.int ((sizesL lo hi (spunL lo hi ns)).length : Int), lw4 lo hi none ns [])] rfl ?f1 ?f2 rfl) rfl Exs.nil
  case f1 => walk_at "ob2"
  case f2 =>
    show ((((sizesL lo hi (spunL lo hi ns)).map AV.int).length : Int) != ((sizesL lo hi (spunL lo hi ns)).length : Int)) = false
    rw [List.length_map]; simp

theorem law14b (hK : c.K = KK P) (hx : c.XR = XRof LL1) {ns : List Int} {lo hi : Nat} :
    Ex c (n + 2) (fdL P cq) (stK P 106 14) ⟨lvs3 (wordL lo hi ns) [], lw4 lo hi none ns []⟩ .next ⟨lvs3 (wordL lo hi ns) [], lw4 lo hi (some (.int ((spunL lo hi ns).count hi : Nat))) ns []⟩ := by
  refine' (B1 hK hx).st 8 [] ⟨lvs3 (wordL lo hi ns) [], lw4 lo hi (some (.int ((spunL lo hi ns).count hi : Nat))) ns []⟩ rfl ?f1 ?s1 ?o1
  case s1 => walk_at "sub"
  case f1 => walk_at "ob2"
  case o1 =>
    refine Eq.trans (b := lw4 lo hi (some (.int (Txt.count (T (spunL lo hi ns)) (T [hi])))) ns []) rfl ?_
    rw [count_T]
end

noncomputable section
variable {c : Cx} {n : Nat} {P : Params} {cq : Option (Value × Str)}

noncomputable def lastN (x : List Nat) : Nat := x.getD (x.length - 1) 0
noncomputable def hgs (lo hi : Nat) (ns : List Int) : Nat := (spunL lo hi ns).count hi
noncomputable def lw5 (lo hi : Nat) (ns : List Int) (js : List AO) : List AO := lw4 lo hi (some (.int (hgs lo hi ns : Nat))) ns js

theorem idx_last {σ : S} {fd : FD} {value slice : Expr} {pos : Pos} {x : List Nat} (hx : 0 < x.length) (hx2 : x.length ≤ 1000) (h1 : Ev c n fd value σ (.str (T x)) σ) (h2 : Ev c n fd slice σ (.int (-1)) σ) (hsub : ∀ o i, subscripted slice false o i = operate [o, i] (getItem o i)) :
    Ev c n fd (.Subscript value slice pos) σ (.str (T [lastN x])) σ := by
  refine Ev.sub h1 h2 .str (item_s (x := T x) (i := -1) (ch := lastN x) (by decide) ?_) hsub
  rw [T_len]
  have : seqIndex? (-1) x.length = some (x.length - 1) := by
    unfold seqIndex?
    simp; omega
  rw [this]
  show (T x).cps[x.length - 1]? = _
  have := getD_some (l := x) (j := x.length - 1) (by omega)
  simpa [T, lastN] using this

theorem item_strs {os : List AO} {i : Nat} {xs : List (List Nat)} (ho : os[i]? = some (.list ((xs.map T).map .str))) {k : Nat} (hk : k < xs.length) : (Src.list i).item os k = some (.str (T (xs.getD k []))) := by
  unfold Src.item
  simp only [ho]
  rw [List.getElem?_map, List.getElem?_map, List.getElem?_eq_getElem hk, List.getD_eq_getElem?_getD, List.getElem?_eq_getElem hk]; rfl
theorem item_strsE {os : List AO} {i : Nat} {xs : List (List Nat)} (ho : os[i]? = some (.list ((xs.map T).map .str))) : (Src.list i).item os xs.length = none := by
  unfold Src.item
  simp only [ho]
  rw [List.getElem?_map, List.getElem?_map, List.getElem?_eq_none (Nat.le_refl _)]; rfl

theorem law15 (hK : c.K = KK P) (hx : c.XR = XRof LL1) {ns : List Int} {lo hi : Nat} {ls : List (List Nat)} (hl : (spunL lo hi ns).length ≤ 60) (hls : ∀ zs : List Str, zs.Perm (trn (spunL lo hi ns)) → sortedS zs = true → zs = ls.map T) (hll : ls.length ≤ 60) (hlx : ∀ x ∈ ls, 0 < x.length ∧ x.length ≤ 60) :
    Ex c (n + 2) (fdL P cq) (stK P 106 15) ⟨lvs3 (wordL lo hi ns) [], lw5 lo hi ns []⟩ .next ⟨lvs3 (wordL lo hi ns) [("lasts", .str (T (ls.map lastN)))], lw5 lo hi ns []⟩ := by
  have hz : sizeLine = 2 ^ 24 := sizeLine_eq
  have hso : CallR c (n + 2) (.builtin "sorted") [.ref 10] (lw5 lo hi ns []) (.ref 12) (lw5 lo hi ns [.list ((ls.map T).map .str)]) := sorted_l (ss := trn (spunL lo hi ns)) rfl (by unfold trn; rw [List.length_map, List.length_range]; omega) hls
  have hacc : (List.range ls.length).map (fun k => AV.str (T [lastN (ls.getD k [])])) = (sgs (ls.map lastN)).map .str := by
    rw [range_getD ls [] (fun x => AV.str (T [lastN x]))]; unfold sgs; rw [List.map_map, List.map_map]; rfl
  have hjo : CallR c (n + 2) (.builtin "str.join") [.str (Str.ofString ""), .ref 13] (lw5 lo hi ns [.list ((ls.map T).map .str), .list ((sgs (ls.map lastN)).map .str)]) (.str (T (ls.map lastN))) (lw5 lo hi ns [.list ((ls.map T).map .str), .list ((sgs (ls.map lastN)).map .str)]) := by
    rw [T_nil, ← join_sgs (ls.map lastN)]
    exact join_s rfl (sgs_joinOk _ (by rw [List.length_map]; omega))
  have e1 := refs_flat (m := 12) (ps := thereP lo hi ns)
  have e2 := refs_flat (m := 12) (ps := homeP lo hi ns)
  refine Ex.cut (vs' := lvs3 (wordL lo hi ns) [("lasts", .str (T (ls.map lastN)))]) (js := [.list ((ls.map T).map .str), .list ((sgs (ls.map lastN)).map .str)]) ?go rfl (by walk_at "clo") (vsLt_of rfl) (fun _ h => nomatch h)
  refine' (B1 hK hx).st 8 [(.ref 13, lw5 lo hi ns [.list ((ls.map T).map .str), .list ((sgs (ls.map lastN)).map .str)]), (.str (T (ls.map lastN)), lw5 lo hi ns [.list ((ls.map T).map .str), .list ((sgs (ls.map lastN)).map .str)])] ⟨lvs3 (wordL lo hi ns) [("lasts", .str (T (ls.map lastN)))], lw5 lo hi ns [.list ((ls.map T).map .str), .list ((sgs (ls.map lastN)).map .str)]⟩ rfl ?f1 ?s1 rfl
  case s1 => walk_at "sub"
  case f1 =>
    walk_at "ob2"
    refine' Ev.mapAs (src := .list 12) (a := .ref 12) (vs := lvs3 (wordL lo hi ns) []) ls.length (fun _ => lw5 lo hi ns [.list ((ls.map T).map .str)]) (fun k => .str (T (ls.getD k []))) (fun k => .str (T [lastN (ls.getD k [])])) _ hacc ?h1 (.list rfl) (fun k hk => item_strs rfl hk) (item_strsE rfl) ⟨_, rfl⟩ rfl ?turn (by omega) (compOk_of rfl rfl rfl rfl) (fun _ _ => rfl)
    case h1 =>
      refine' (B1 hK hx).ev 8 [(.ref 12, lw5 lo hi ns [.list ((ls.map T).map .str)])] rfl ?g1 rfl rfl
      walk_at "ob2"
    case turn =>
      intro k hk
      have hm : ls.getD k [] ∈ ls := by rw [List.getD_eq_getElem?_getD, List.getElem?_eq_getElem hk]; exact List.getElem_mem hk
      obtain ⟨m1, m2⟩ := hlx _ hm
      exact ⟨_, idx_last m1 (by omega) ((B1 hK hx).ev 5 [] rfl trivial rfl rfl) ((B1 hK hx).ev 5 [] rfl trivial rfl rfl) (fun _ _ => rfl)⟩

noncomputable def risingL (lo hi N h : Nat) : List Nat := (List.range N).map fun i => chB lo hi (decide (i * h / N < (i + 1) * h / N))

theorem law16 (hK : c.K = KK P) (hx : c.XR = XRof LL1) {ns : List Int} {lo hi : Nat} {la : List Nat} (hl : (spunL lo hi ns).length ≤ 60) (h0 : 0 < (spunL lo hi ns).length) :
    Ex c (n + 2) (fdL P cq) (stK P 106 16) ⟨lvs3 (wordL lo hi ns) [("lasts", .str (T la))], lw5 lo hi ns []⟩ .next ⟨lvs3 (wordL lo hi ns) [("lasts", .str (T la)), ("rising", .str (T (risingL lo hi (spunL lo hi ns).length (hgs lo hi ns))))], lw5 lo hi ns []⟩ := by
  have hz : sizeLine = 2 ^ 24 := sizeLine_eq
  have hzl : (T (spunL lo hi ns)).length ≤ sizeLine := by rw [T_len]; omega
  have hh : hgs lo hi ns ≤ (spunL lo hi ns).length := List.count_le_length
  have hacc : (List.range (spunL lo hi ns).length).map (fun k : Nat => AV.str (bif decide (Int.fdiv ((k : Int) * (hgs lo hi ns : Nat)) ((T (spunL lo hi ns)).length : Nat) < Int.fdiv (((k : Int) + 1) * (hgs lo hi ns : Nat)) ((T (spunL lo hi ns)).length : Nat)) then T [hi] else T [lo])) = (sgs (risingL lo hi (spunL lo hi ns).length (hgs lo hi ns))).map .str := by
    unfold sgs risingL
    rw [List.map_map, List.map_map]
    refine List.map_congr_left fun k _ => ?_
    rw [chB_T, T_len]
    have a1 : Int.fdiv ((k : Int) * (hgs lo hi ns : Nat)) ((spunL lo hi ns).length : Nat) = ((k * hgs lo hi ns / (spunL lo hi ns).length : Nat) : Int) := by rw [← fdiv_nat]; simp
    have a2 : Int.fdiv (((k : Int) + 1) * (hgs lo hi ns : Nat)) ((spunL lo hi ns).length : Nat) = (((k + 1) * hgs lo hi ns / (spunL lo hi ns).length : Nat) : Int) := by rw [← fdiv_nat]; simp
    rw [a1, a2]
    show _ = AV.str (T [chB lo hi _])
    congr 4
    exact decide_eq_decide.mpr Int.ofNat_lt
  have hjo : CallR c (n + 2) (.builtin "str.join") [.str (Str.ofString ""), .ref 13] (lw5 lo hi ns [.rng 0 (spunL lo hi ns).length, .list ((sgs (risingL lo hi (spunL lo hi ns).length (hgs lo hi ns))).map .str)]) (.str (T (risingL lo hi (spunL lo hi ns).length (hgs lo hi ns)))) (lw5 lo hi ns [.rng 0 (spunL lo hi ns).length, .list ((sgs (risingL lo hi (spunL lo hi ns).length (hgs lo hi ns))).map .str)]) := by
    rw [T_nil, ← join_sgs (risingL lo hi (spunL lo hi ns).length (hgs lo hi ns))]
    exact join_s rfl (sgs_joinOk _ (by unfold risingL; rw [List.length_map, List.length_range]; omega))
  have e1 := refs_flat (m := 12) (ps := thereP lo hi ns)
  have e2 := refs_flat (m := 12) (ps := homeP lo hi ns)
  refine Ex.cut (vs' := lvs3 (wordL lo hi ns) [("lasts", .str (T la)), ("rising", .str (T (risingL lo hi (spunL lo hi ns).length (hgs lo hi ns))))]) (js := [.rng 0 (spunL lo hi ns).length, .list ((sgs (risingL lo hi (spunL lo hi ns).length (hgs lo hi ns))).map .str)]) ?go rfl (by walk_at "clo") (vsLt_of rfl) (fun _ h => nomatch h)
  refine' (B1 hK hx).st 8 [(.ref 13, lw5 lo hi ns [.rng 0 (spunL lo hi ns).length, .list ((sgs (risingL lo hi (spunL lo hi ns).length (hgs lo hi ns))).map .str)]), (.str (T (risingL lo hi (spunL lo hi ns).length (hgs lo hi ns))), lw5 lo hi ns [.rng 0 (spunL lo hi ns).length, .list ((sgs (risingL lo hi (spunL lo hi ns).length (hgs lo hi ns))).map .str)])] ⟨lvs3 (wordL lo hi ns) [("lasts", .str (T la)), ("rising", .str (T (risingL lo hi (spunL lo hi ns).length (hgs lo hi ns))))], lw5 lo hi ns [.rng 0 (spunL lo hi ns).length, .list ((sgs (risingL lo hi (spunL lo hi ns).length (hgs lo hi ns))).map .str)]⟩ rfl ?f1 ?s1 rfl
  case s1 => walk_at "sub"
  case f1 =>
    walk_at "ob2"
    refine' Ev.mapAs (src := .rng 0 (spunL lo hi ns).length) (a := .ref 12) (vs := lvs3 (wordL lo hi ns) [("lasts", .str (T la))]) (spunL lo hi ns).length (fun _ => lw5 lo hi ns [.rng 0 (spunL lo hi ns).length]) (fun k => .int k) (fun k => AV.str (bif decide (Int.fdiv ((k : Int) * (hgs lo hi ns : Nat)) ((T (spunL lo hi ns)).length : Nat) < Int.fdiv (((k : Int) + 1) * (hgs lo hi ns : Nat)) ((T (spunL lo hi ns)).length : Nat)) then T [hi] else T [lo])) _ hacc ?h1 (.rng rfl (small_rng (by omega))) (fun k hk => item_rng hk) item_rngE trivial rfl ?turn (by omega) (compOk_of rfl rfl rfl rfl) (fun _ _ => rfl)
    case h1 =>
      refine' (B1 hK hx).ev 8 [] rfl ?g1 rfl rfl
      walk_at "ob2"
    case turn =>
      intro k hk
      have m1 : IntMulOk ((k : Int) + 1) ((hgs lo hi ns : Nat) : Int) := IntMulOk.of_left (intBits_le_64 (by omega) (by omega))
      have m2 : IntMulOk (k : Int) ((hgs lo hi ns : Nat) : Int) := IntMulOk.of_left (intBits_le_64 (by omega) (by omega))
      have m3 : (((T (spunL lo hi ns)).length : Nat) : Int) ≠ 0 := by rw [T_len]; omega
      refine ⟨_, (B1 hK hx).ev 12 [] rfl ?_ rfl rfl⟩
      walk_at "ob2"

noncomputable def lvs4 (wd la ri : List Nat) (vs : List (Str × AV)) : List (Str × AV) := ("word", .str (T wd)) :: ("sizes", .ref 11) :: ("lasts", .str (T la)) :: ("rising", .str (T ri)) :: vs

theorem rep_T (x k : Nat) : rep (T [x]) k = T (List.replicate k x) := by
  unfold rep
  show (⟨_⟩ : Str) = ⟨_⟩
  congr 2
  induction k with
  | zero => rfl
  | succ k ih =>
    rw [List.replicate_succ, List.flatten_cons, ih]; rfl

theorem law17 (hK : c.K = KK P) (hx : c.XR = XRof LL1) {ns : List Int} {lo hi : Nat} {la ri : List Nat} (hl : (spunL lo hi ns).length ≤ 60) :
    Ex c (n + 2) (fdL P cq) (stK P 106 17) ⟨lvs4 (wordL lo hi ns) la ri [], lw5 lo hi ns []⟩ .next ⟨lvs4 (wordL lo hi ns) la ri [("parted", .bool (la == List.replicate (hgs lo hi ns) hi ++ List.replicate ((spunL lo hi ns).length - hgs lo hi ns) lo))], lw5 lo hi ns []⟩ := by
  have hz : sizeLine = 2 ^ 24 := sizeLine_eq
  have hzl : (T (spunL lo hi ns)).length ≤ sizeLine := by rw [T_len]; omega
  have hh : hgs lo hi ns ≤ (spunL lo hi ns).length := List.count_le_length
  have e1 : Op2 c (n + 2) (binaryOp .Mult) (.str (T [hi])) (.int ((hgs lo hi ns : Nat) : Int)) (lw5 lo hi ns []) (.str (T (List.replicate (hgs lo hi ns) hi))) (lw5 lo hi ns []) := by
    have := mul_s (c := c) (n := n + 2) (os := lw5 lo hi ns []) (x := T [hi]) (k := hgs lo hi ns) rfl (by omega)
    rwa [rep_T] at this
  have e2 : Op2 c (n + 2) (binaryOp .Mult) (.str (T [lo])) (.int ((((T (spunL lo hi ns)).length : Nat) : Int) - ((hgs lo hi ns : Nat) : Int))) (lw5 lo hi ns []) (.str (T (List.replicate ((spunL lo hi ns).length - hgs lo hi ns) lo))) (lw5 lo hi ns []) := by
    have := mul_s (c := c) (n := n + 2) (os := lw5 lo hi ns []) (x := T [lo]) (k := (spunL lo hi ns).length - hgs lo hi ns) rfl (by omega)
    rw [rep_T] at this
    rw [T_len, show (((spunL lo hi ns).length : Int) - ((hgs lo hi ns : Nat) : Int)) = (((spunL lo hi ns).length - hgs lo hi ns : Nat) : Int) by omega]
    exact this
  have hz2 : (T (List.replicate (hgs lo hi ns) hi)).length + (T (List.replicate ((spunL lo hi ns).length - hgs lo hi ns) lo)).length ≤ sizeLine := by rw [T_len, T_len, List.length_replicate, List.length_replicate]; omega
  rw [show (la == List.replicate (hgs lo hi ns) hi ++ List.replicate ((spunL lo hi ns).length - hgs lo hi ns) lo) = (T la == T (List.replicate (hgs lo hi ns) hi) ++ T (List.replicate ((spunL lo hi ns).length - hgs lo hi ns) lo)) by rw [T_app, T_beq]]
  refine' (B1 hK hx).st 12 [(.str (T (List.replicate (hgs lo hi ns) hi)), lw5 lo hi ns []), (.str (T (List.replicate ((spunL lo hi ns).length - hgs lo hi ns) lo)), lw5 lo hi ns [])] ⟨lvs4 (wordL lo hi ns) la ri [("parted", .bool (T la == T (List.replicate (hgs lo hi ns) hi) ++ T (List.replicate ((spunL lo hi ns).length - hgs lo hi ns) lo)))], lw5 lo hi ns []⟩ rfl ?f1 ?s1 rfl
  case s1 => walk_at "sub"
  case f1 => walk_at "ob2"

theorem law18 (hK : c.K = KK P) (hx : c.XR = XRof LL1) {ns : List Int} {lo hi : Nat} {la ri : List Nat} {pa : Bool} (hs : (sizesL lo hi (spunL lo hi ns)).length ≤ 500) :
    Ex c (n + 2) (fdL P cq) (stK P 106 18) ⟨lvs4 (wordL lo hi ns) la ri [("parted", .bool pa)], lw5 lo hi ns []⟩ .next ⟨lvs4 (wordL lo hi ns) la ri [("parted", .bool pa), ("single", .bool (decide (sizesL lo hi (spunL lo hi ns) = (List.range (sizesL lo hi (spunL lo hi ns)).length).map (fun k : Nat => (k : Int)))))], lw5 lo hi ns []⟩ := by
  have hz : sizeLine = 2 ^ 24 := sizeLine_eq
  have hzs : ((sizesL lo hi (spunL lo hi ns)).map AV.int).length ≤ sizeLine := by rw [List.length_map]; omega
  have e1 := refs_flat (m := 12) (ps := thereP lo hi ns)
  have e2 := refs_flat (m := 12) (ps := homeP lo hi ns)
  let R : AO := .rng 0 (((sizesL lo hi (spunL lo hi ns)).map AV.int).length : Nat)
  let Q : AO := .list (((List.range (sizesL lo hi (spunL lo hi ns)).length).map (fun k : Nat => (k : Int))).map .int)
  have hli : CallR c (n + 2) (.type "list") [.ref 12] (lw5 lo hi ns [R]) (.ref 13) (lw5 lo hi ns [R, Q]) := by
    have := list_rng (c := c) (n := n + 2) (i := 12) (os := lw5 lo hi ns [R]) (lo := 0) (hi := (((sizesL lo hi (spunL lo hi ns)).map AV.int).length : Nat)) (m := (sizesL lo hi (spunL lo hi ns)).length) rfl (by rw [List.length_map]; exact small_rng (by omega)) (by
      rw [List.length_map]
      unfold Builtin.Range.rangeSize
      rw [if_pos (by decide)]
      split <;> omega) (by omega)
    have e : ((List.range (sizesL lo hi (spunL lo hi ns)).length).map fun k : Nat => AV.int (0 + (k : Int))) = ((List.range (sizesL lo hi (spunL lo hi ns)).length).map (fun k : Nat => (k : Int))).map .int := by
      rw [List.map_map]
      refine List.map_congr_left fun k _ => ?_
      rw [Int.zero_add]; rfl
    rw [e] at this
    exact this
  have hcmp : Op2 c (n + 2) (compareOp .Eq) (.ref 11) (.ref 13) (lw5 lo hi ns [R, Q]) (.bool (decide (sizesL lo hi (spunL lo hi ns) = (List.range (sizesL lo hi (spunL lo hi ns)).length).map (fun k : Nat => (k : Int))))) (lw5 lo hi ns [R, Q]) :=
    eq_li rfl rfl
  refine Ex.cut (vs' := lvs4 (wordL lo hi ns) la ri [("parted", .bool pa), ("single", .bool (decide (sizesL lo hi (spunL lo hi ns) = (List.range (sizesL lo hi (spunL lo hi ns)).length).map (fun k : Nat => (k : Int)))))]) (js := [R, Q]) ?go rfl (by walk_at "clo") (vsLt_of rfl) (fun _ h => nomatch h)
  refine' (B1 hK hx).st 12 [(.ref 13, lw5 lo hi ns [R, Q]), (.bool (decide (sizesL lo hi (spunL lo hi ns) = (List.range (sizesL lo hi (spunL lo hi ns)).length).map (fun k : Nat => (k : Int)))), lw5 lo hi ns [R, Q])] ⟨lvs4 (wordL lo hi ns) la ri [("parted", .bool pa), ("single", .bool (decide (sizesL lo hi (spunL lo hi ns) = (List.range (sizesL lo hi (spunL lo hi ns)).length).map (fun k : Nat => (k : Int)))))], lw5 lo hi ns [R, Q]⟩ rfl ?f1 ?s1 rfl
  case s1 => walk_at "sub"
  case f1 => walk_at "ob2"

theorem dotsT1 (p : List Nat) : Str.ofString "..." ++ T p ++ Str.ofString "..." = T (dots p) := by
  rw [T_dot3, T_app, T_app]; rfl

theorem law19 (hK : c.K = KK P) (hx : c.XR = XRof LL1) {ns : List Int} {lo hi : Nat} {la ri : List Nat} {pa si : Bool} (hl : (spunL lo hi ns).length ≤ 60) (hr : ri.length ≤ 60) (hr46 : 46 ∉ ri) :
    Ex c (n + 2) (fdL P cq) (stK P 106 19) ⟨lvs4 (wordL lo hi ns) la ri [("parted", .bool pa), ("single", .bool si)], lw5 lo hi ns []⟩ .next ⟨lvs4 (wordL lo hi ns) la ri [("parted", .bool pa), ("single", .bool si), ("leaning", .bool (infx ri (spunL lo hi ns ++ spunL lo hi ns)))], lw5 lo hi ns []⟩ := by
  have hz : sizeLine = 2 ^ 24 := sizeLine_eq
  have hd3 : (Str.ofString "...").length = 3 := rfl
  have z1 : (Str.ofString "...").length + (T ri).length ≤ sizeLine := by rw [T_len, hd3]; omega
  have z2 : (Str.ofString "..." ++ T ri).length + (Str.ofString "...").length ≤ sizeLine := by rw [Str.length_append, T_len, hd3]; omega
  have z3 : (T (spunL lo hi ns)).length + (T (spunL lo hi ns)).length ≤ sizeLine := by rw [T_len]; omega
  have hell : CallR c (n + 2) (.ref 21) [.str (Str.ofString "..." ++ T ri ++ Str.ofString "..."), .str (T (spunL lo hi ns) ++ T (spunL lo hi ns))] (lw5 lo hi ns []) (.bool (infx ri (spunL lo hi ns ++ spunL lo hi ns))) (lw5 lo hi ns []) := by
    rw [dotsT1, T_app]
    exact Op.bare (ellT (n := n + 1) hK hx hr46 (by omega) (by simp; omega)) (fun _ => rfl) (fun _ => rfl)
  refine' (B1 hK hx).st 12 [(.bool (infx ri (spunL lo hi ns ++ spunL lo hi ns)), lw5 lo hi ns [])] ⟨lvs4 (wordL lo hi ns) la ri [("parted", .bool pa), ("single", .bool si), ("leaning", .bool (infx ri (spunL lo hi ns ++ spunL lo hi ns)))], lw5 lo hi ns []⟩ rfl ?f1 ?s1 rfl
  case s1 => walk_at "sub"
  case f1 => walk_at "ob2"

theorem law20 (hK : c.K = KK P) (hx : c.XR = XRof LL1) {ns : List Int} {lo hi : Nat} {la ri : List Nat} {pa si le : Bool} (hw : (wordL lo hi ns).length ≤ 100) (hw0 : 0 < (wordL lo hi ns).length) :
    Ex c (n + 2) (fdL P cq) (stK P 106 20) ⟨lvs4 (wordL lo hi ns) la ri [("parted", .bool pa), ("single", .bool si), ("leaning", .bool le)], lw5 lo hi ns []⟩ .next ⟨[("parted", .bool pa), ("single", .bool si), ("leaning", .bool le), ("even", .bool (evenB (wordL lo hi ns) hi))], lw5 lo hi ns []⟩ := by
  have hev : CallR c (n + 2) (.ref 101) [.str (T (wordL lo hi ns)), .str (T [hi])] (lw5 lo hi ns []) (.bool (evenB (wordL lo hi ns) hi)) (lw5 lo hi ns []) := Op.bare (evenD (n := n) hK hx hw hw0) (fun _ => rfl) (fun _ => rfl)
  refine' (B1 hK hx).st 12 [(.bool (evenB (wordL lo hi ns) hi), lw5 lo hi ns [])] ⟨[("parted", .bool pa), ("single", .bool si), ("leaning", .bool le), ("even", .bool (evenB (wordL lo hi ns) hi))], lw5 lo hi ns []⟩ rfl ?f1 ?s1 rfl
  case s1 => walk_at "sub"
  case f1 => walk_at "ob2"

theorem law21 (hK : c.K = KK P) (hx : c.XR = XRof LL1) {pa si le ev : Bool} {os : List AO} (h : ((pa == ev) && ((si == ev) && (le == ev))) = true) :
    Exs c (n + 2) (fdL P cq) [stK P 106 21] ⟨[("parted", .bool pa), ("single", .bool si), ("leaning", .bool le), ("even", .bool ev)], os⟩ (.ret (.bool true)) ⟨[], os⟩ := by
  refine' (B1 hK hx).ret 12 [] rfl ?f1 (congrArg AV.bool h) rfl
  walk_at "ob2"
end

noncomputable section
variable {c : Cx} {n m : Nat} {P : Params} {cq : Option (Value × Str)}

theorem Ex.up {fd : FD} {st : Stmt} {σ σ₁ : S} {f : AF} (h : n ≤ m) (g : Ex c n fd st σ f σ₁) : Ex c m fd st σ f σ₁ := fun env A ρ s rm => g env A ρ s (rm.down h)
theorem Exs.up {fd : FD} {st : List Stmt} {σ σ₁ : S} {f : AF} (h : n ≤ m) (g : Exs c n fd st σ f σ₁) : Exs c m fd st σ f σ₁ := fun env A ρ s rm => g env A ρ s (rm.down h)

/-- what is asked of the words alone -/
structure Pure1 (lo hi : Nat) (ns : List Int) : Prop where
  ok1 : ReplOk (thereP lo hi ns) (wordL lo hi ns)
  ok2 : ReplOk (homeP lo hi ns) (spunL lo hi ns)
  back : replAll (homeP lo hi ns) (spunL lo hi ns) = wordL lo hi ns
  len : (spunL lo hi ns).length ≤ 60
  pos : 0 < (spunL lo hi ns).length
  ch : ∀ x ∈ spunL lo hi ns, x < 1000
  few : (sizesL lo hi (spunL lo hi ns)).length ≤ 500
  hit : (trn (spunL lo hi ns))[(sizesL lo hi (spunL lo hi ns)).length]? = some (T (spunL lo hi ns))
  miss : ∀ k, k < (sizesL lo hi (spunL lo hi ns)).length → (trn (spunL lo hi ns))[k]? ≠ some (T (spunL lo hi ns))
  main : ∃ ls : List (List Nat), (∀ zs : List Str, zs.Perm (trn (spunL lo hi ns)) → sortedS zs = true → zs = ls.map T) ∧ ls.length ≤ 60 ∧ (∀ x ∈ ls, 0 < x.length ∧ x.length ≤ 60) ∧
    (((ls.map lastN == List.replicate (hgs lo hi ns) hi ++ List.replicate ((spunL lo hi ns).length - hgs lo hi ns) lo) == evenB (wordL lo hi ns) hi) &&
      ((decide (sizesL lo hi (spunL lo hi ns) = (List.range (sizesL lo hi (spunL lo hi ns)).length).map (fun k : Nat => (k : Int))) == evenB (wordL lo hi ns) hi) &&
        (infx (risingL lo hi (spunL lo hi ns).length (hgs lo hi ns)) (spunL lo hi ns ++ spunL lo hi ns) == evenB (wordL lo hi ns) hi))) = true

set_option maxHeartbeats 1000000 in
theorem lawBody (hK : c.K = KK P) (hx : c.XR = XRof LL1) (M : Lm c LL1 76) {l : Addr} {vs : List Value} {sc : List Int} (hb : c.hb.IsList l vs.toArray) (hi0 : IntsAre vs sc) (hsc : sc.length ≤ 63) {tt : Nat} (htt : (numsL sc).sum = (tt : Int))
    (hlo : loL tt < 1000) (hhi : hiL tt < 1000) (hlo' : loL tt ≠ 46) (hhi' : hiL tt ≠ 46) (Q : Pure1 (loL tt) (hiL tt) (numsL sc)) :
    Exs c (n + 10) (fdL P cq) (bodyK P 106) ⟨[("script", .lit (.ref l))], lwO [] none none none none []⟩ (.ret (.bool true)) ⟨[], lw5 (loL tt) (hiL tt) (numsL sc) []⟩ := by
  have hn := numsL_len sc
  have hw7 : (wordL (loL tt) (hiL tt) (numsL sc)).length = 7 := by unfold wordL; rw [List.length_map, List.length_take, hn]; rfl
  obtain ⟨ls, q1, q2, q3, q4⟩ := Q.main
  have hri : (risingL (loL tt) (hiL tt) (spunL (loL tt) (hiL tt) (numsL sc)).length (hgs (loL tt) (hiL tt) (numsL sc))).length ≤ 60 := by unfold risingL; rw [List.length_map, List.length_range]; exact Q.len
  have hri46 : 46 ∉ risingL (loL tt) (hiL tt) (spunL (loL tt) (hiL tt) (numsL sc)).length (hgs (loL tt) (hiL tt) (numsL sc)) := by
    unfold risingL
    intro h
    obtain ⟨i, _, h⟩ := List.mem_map.mp h
    have hc : ∀ b, chB (loL tt) (hiL tt) b ≠ 46 := fun b => by
      cases b with
      | false => exact hlo'
      | true => exact hhi'
    exact hc _ h
  have hl2 : (spunL (loL tt) (hiL tt) (numsL sc)).length ≤ 200 := Nat.le_trans Q.len (by decide)
  refine Exs.cons (Ex.up (Nat.le_add_left 1 _) (law0 (n := 0) hK hx hb hi0 hsc)) ?_
  refine Exs.append (a := [stK P 106 1, stK P 106 2, stK P 106 3, stK P 106 4]) (Exs.up (Nat.le_add_left 1 _) (law14 (n := 0) hK hx htt)) ?_
  refine Exs.cons (Ex.up (Nat.le_add_left 1 _) (law5 (n := 0) hK hx hn)) ?_
  refine Exs.cons (Ex.up (Nat.le_add_left 1 _) (law6 (n := 0) hK hx hn)) ?_
  refine Exs.cons (Ex.up (Nat.le_add_left 1 _) (law7 (n := 0) hK hx hn (fun r => by show AO.list ((flatPs _).map (AV.ren r)) = _; rw [flatPs_ren]) (flatPs_refs _))) ?_
  refine Exs.cons (Ex.up (by omega) (law8 (n := 0) hK hx Q.ok1)) ?_
  refine Exs.cons (Ex.up (by omega) (law9 (n := 0) hK hx Q.ok2 Q.back)) ?_
  refine Exs.cons (law10 (n := n) hK hx M hn hl2 Q.ch) ?_
  refine Exs.cons (Ex.up (by omega) (law11 (n := 0) hK hx hn hl2 Q.ch)) ?_
  refine Exs.cons (law12 (n := n) hK hx M hl2 hlo hhi hlo' hhi') ?_
  refine Exs.cons (Ex.up (by omega) (law13 (n := 0) hK hx hl2 Q.few Q.hit Q.miss)) ?_
  refine Exs.cons (Ex.up (by omega) (law14b (n := 0) hK hx)) ?_
  refine Exs.cons (Ex.up (by omega) (law15 (n := 0) hK hx Q.len q1 q2 q3)) ?_
  refine Exs.cons (Ex.up (by omega) (law16 (n := 0) hK hx Q.len Q.pos)) ?_
  refine Exs.cons (Ex.up (by omega) (Ex.fewer (σ₁ := ⟨lvs4 (wordL (loL tt) (hiL tt) (numsL sc)) (ls.map lastN) (risingL (loL tt) (hiL tt) (spunL (loL tt) (hiL tt) (numsL sc)).length (hgs (loL tt) (hiL tt) (numsL sc))) [], _⟩) (by walk_at "sub") rfl (law17 (n := 0) hK hx Q.len))) ?_
  refine Exs.cons (Ex.up (by omega) (law18 (n := 0) hK hx Q.few)) ?_
  refine Exs.cons (Ex.up (by omega) (law19 (n := 0) hK hx Q.len hri hri46)) ?_
  refine Exs.cons (Ex.up (by omega) (law20 (n := 0) hK hx (by omega) (by omega))) ?_
  exact Exs.up (by omega) (law21 (n := 0) hK hx q4)

theorem lawD (hK : c.K = KK P) (hx : c.XR = XRof LL1) (M : Lm c LL1 76) {l : Addr} {vs : List Value} {sc : List Int} (hb : c.hb.IsList l vs.toArray) (hi0 : IntsAre vs sc) (hsc : sc.length ≤ 63) {tt : Nat} (htt : (numsL sc).sum = (tt : Int))
    (hlo : loL tt < 1000) (hhi : hiL tt < 1000) (hlo' : loL tt ≠ 46) (hhi' : hiL tt ≠ 46) (Q : Pure1 (loL tt) (hiL tt) (numsL sc)) :
    CodeR c (n + 11) (.ref 106) [.lit (.ref l)] [.x (.tab [])] (.bool true) (lw5 (loL tt) (hiL tt) (numsL sc) []) := by
  have W := fun cq => lawBody (n := n) (cq := cq) hK hx M hb hi0 hsc htt hlo hhi hlo' hhi' Q
  refine' CodeR.of_cells (ps := [Str.ofString "script"]) (cn := [Str.ofString "low", Str.ofString "high", Str.ofString "spun", Str.ofString "highs"]) (σ' := ⟨[], lw5 (loL tt) (hiL tt) (numsL sc) []⟩) (DefAt.of hK rfl rfl rfl rfl rfl rfl rfl rfl) rfl ?hcs ?nd ?bind ?hps ?hcn ?rr (Back.all)
  case hcs => exact fun _ => rfl
  case nd => decide
  case bind =>
    intro xs h
    match xs, h with
    | [a], _ => rfl
  case hps => decide
  case hcn => decide
  case rr => exact W _
end

noncomputable section
theorem joinLaw (pureP : ∀ sc : List Int, ∃ tt : Nat, (numsL sc).sum = (tt : Int) ∧ loL tt < 1000 ∧ hiL tt < 1000 ∧ loL tt ≠ 46 ∧ hiL tt ≠ 46 ∧ Pure1 (loL tt) (hiL tt) (numsL sc)) : PySem.Challenge.rw_pe0095_01.Holds := by
  refine hd ?_
  k_fill
  intro w s₀ s₁ mg mb G Y fa o pm cd doc dV kV ho hd hcd hD hmg hg args vals as hpre hlay hrd hwl hlo
  have KX := km_in_of Y
  km_tabs Y
  have X := (Ground.X G).1
  have V := (Ground.X G).2
  refine Ground.open G ?_
  intro T B D TE TW
  try (refine guard_noD D (by decide +kernel) ?_; clear D)
  km_lay T hmg ho hd cd
  wrow_args hpre hlay hrd hwl hlo
  all_goals (first | refine callC_kw (enter_call ?_) | refine enter_call ?_)
  all_goals kn_posts
  rename Heap.IsList _ _ _ => hL
  rename IntsAre _ _ => hI
  rename_i sc hsh hlay0 hLay hrs hl2 w4 w3 l vs w0 ra w1 r0 hr hcond htrue
  have hfa : fa = 106 := by
    have hq : nsIn (KK w.params) mainGlobals (Str.ofString "law") = some (some (.ref 106)) := rfl
    have e := mg_of KX T.g hq
    rw [show mg (Str.ofString "law") = _ from hmg] at e
    cases e; rfl
  subst hfa
  have hK0 := ghost_K hT9 KX (by kernel_rfl)
  have hfr : (ghostOf s₁.heap [(76, 72)]).get? 72 = none := hideAll_none _ (by simp)
  have hnl : (ghostOf s₁.heap [(76, 72)]).NoLimit := by
    obtain ⟨mc, a, r⟩ := T.nolimit
    exact ⟨mc, ghost_ns hT9 a, r⟩
  let c : Cx := Cx.mk PySem.Challenge.rw_pe0095_01.row.prog w (ghostOf s₁.heap [(76, 72)]) (KK w.params) hK0 mg mb (ghost_ns hT9 T.g) (ghost_ns hT9 T.b) T.builtins hnl (XRof LL1) (fun f x e => XRof.map f x e) (fun x => XRof.lt x) (fun x _ l => XRof.loc x l)
  have hbase : c.hb.IsList l vs.toArray := ghost_list hT9 hL
  have hM : Lm c LL1 76 := by
    refine ⟨(ghost_code hT9).1, ?_, by decide⟩
    obtain ⟨bm, ob, b1, b2, b3, b4, b5, b6⟩ := T.bmain
    have hb3 : (ghostOf s₁.heap [(76, 72)]).get? bm = some ob := ghost_get hT9 b3 (fun q => by rw [q] at b4; cases b4)
    refine ⟨bm, ob, b1, b2, ?_, ?_, hb3, b4, b5, b6⟩
    · intro q
      obtain ⟨o', es, ep, e, hd', _⟩ := T.g
      rw [q, e] at b3; cases b3; rw [hd'] at b6; cases b6
    · intro q
      rw [q] at hb3
      exact absurd (hb3.symm.trans hfr) (by intro e; cases e)
  obtain ⟨tt, htt, hlo1, hhi1, hlo2, hhi2, Q⟩ := pureP sc
  have W := lawD (c := c) (n := 0) (P := w.params) rfl rfl hM hbase hI (by omega) htt hlo1 hhi1 hlo2 hhi2 Q
  have hrm : Room callerA 11 := ⟨rfl, by decide, by decide⟩
  have hr0 : Rel c [] [.x (.tab [])] [⟨72, []⟩] s₁.heap := by
    refine ⟨⟨?_, trivial⟩, by decide, fun a o e => of_hideAll _ e, fun a ha => ?_, fun a ha => ?_⟩
    · exact ⟨[], rfl, rfl, trivial, hT8 72 (by simp)⟩
    · simp [foot] at ha; subst ha; exact hfr
    · simp [foot] at ha; subst ha; exact Heap.lt_size (hT8 72 (by simp))
  refine W callerA [⟨72, []⟩] s₁ [.ref l] _ hrm hr0 ⟨rfl, trivial⟩ fun y h' tk' ρ' q r hv => ?_
  have hy : y = .bool true := hv
  subst hy
  obtain ⟨p', hp', hx'⟩ := r.objs.get (i := 0) (o := .x (.tab [8, 9])) rfl
  obtain ⟨as, g1, g2, g3, g4⟩ := (show XRof LL1 (.tab [8, 9]) ρ' p' h' from hx')
  refine ⟨⟨.inl ⟨.bool true, .bool true, [], rfl, fun _ => rfl, .bool true, ?_, fun _ => ⟨List.nodup_nil, fun _ h => nomatch h⟩⟩, fun b o e => r.keep b o e, rfl, hg⟩, ⟨_, g4⟩, trivial⟩
  first | kernel_rfl | (with_unfolding_all rfl) | (simp; done)
end

end Mine
end

section
namespace Mine

/-! the law on words of two letters -/
noncomputable def bpre : List Bool → List Bool → Bool
  | [], _ => true
  | _ :: _, [] => false
  | true :: p, true :: l => bpre p l
  | false :: p, false :: l => bpre p l
  | true :: _, false :: _ => false
  | false :: _, true :: _ => false
noncomputable def brepl (p q : List Bool) : List Bool → Nat → List Bool
  | [], _ => []
  | x :: t, 0 => bif bpre p (x :: t) then q ++ brepl p q t (p.length - 1) else x :: brepl p q t 0
  | _ :: t, k + 1 => brepl p q t k
noncomputable def binfx (p : List Bool) : List Bool → Bool
  | [] => bpre p []
  | x :: t => bpre p (x :: t) || binfx p t
/-- where a word stands: what is ahead of it (turned about), the sign behind it -/
noncomputable def bhas (x : Bool) : List (List Bool × Bool) → Bool
  | [] => false
  | (_, y) :: r => bif x then (y || bhas x r) else (!y || bhas x r)
noncomputable def bext (x : Bool) : List (List Bool × Bool) → List (List Bool × Bool)
  | [] => []
  | ([], _) :: r => bext x r
  | (true :: a, y) :: r => bif x then (a, y) :: bext x r else bext x r
  | (false :: a, y) :: r => bif x then bext x r else (a, y) :: bext x r
noncomputable def bstart : List Bool → List Bool → List (List Bool × Bool)
  | _, [] => []
  | a, x :: t => (a, x) :: bstart (x :: a) t
noncomputable def bbo : Nat → List (Nat × List (List Bool × Bool)) → List Nat → List Nat
  | 0, _, s => s
  | _ + 1, [], s => s
  | m + 1, (k, o) :: r, s => bif bhas false o && bhas true o then bbo m (r ++ [(k + 1, bext false o), (k + 1, bext true o)]) (s ++ [k]) else bbo m r s
noncomputable def beq' : List Bool → List Bool → Bool
  | [], [] => true
  | true :: p, true :: l => beq' p l
  | false :: p, false :: l => beq' p l
  | _, _ => false
noncomputable def bspun (w : List Bool) (a b : Bool) : List Bool := brepl [b] [false, true] (brepl [a] [false, true] w 0) 0
noncomputable def bhome (s : List Bool) (a b : Bool) : List Bool := brepl [false, true] [a] (brepl [false, true] [b] s 0) 0
noncomputable def bltl : List Bool → List Bool → Bool
  | [], [] => false
  | [], _ :: _ => true
  | _ :: _, [] => false
  | false :: r, false :: t => bltl r t
  | true :: r, true :: t => bltl r t
  | false :: _, true :: _ => true
  | true :: _, false :: _ => false
noncomputable def bins (x : List Bool) : List (List Bool) → List (List Bool)
  | [] => [x]
  | y :: r => bif bltl y x then y :: bins x r else x :: y :: r
noncomputable def bsort : List (List Bool) → List (List Bool)
  | [] => []
  | x :: r => bins x (bsort r)
noncomputable def brots (s : List Bool) : Nat → List Bool → List (List Bool)
  | 0, _ => []
  | _ + 1, [] => []
  | k + 1, x :: t => (t ++ [x]) :: brots s k (t ++ [x])
noncomputable def blast : List Bool → Bool
  | [] => false
  | [x] => x
  | _ :: t => blast t
noncomputable def bcount : List Bool → Nat
  | [] => 0
  | true :: t => bcount t + 1
  | false :: t => bcount t
noncomputable def brising (N h : Nat) : Nat → List Bool
  | 0 => []
  | k + 1 => brising N h k ++ [Nat.blt (k * h / N) ((k + 1) * h / N)]
noncomputable def bfirst (s : List Bool) : List (List Bool) → Nat
  | [] => 0
  | x :: r => bif beq' x s then 0 else bfirst s r + 1
noncomputable def bsingle : List Nat → Nat → Bool
  | [], _ => true
  | x :: r, k => Nat.beq x k && bsingle r (k + 1)
/-- all the highs ahead of all the lows -/
noncomputable def bparted : List Bool → Bool
  | [] => true
  | true :: t => bparted t
  | false :: t => Nat.beq (bcount t) 0
noncomputable def bpart (w : List Bool) : Nat → List Bool → Nat → List Nat
  | 0, _, _ => []
  | _ + 1, [], _ => []
  | k + 1, x :: t, size => bcount ((x :: t).take size) :: bpart w k t size
noncomputable def bmx : List Nat → Nat → Nat
  | [], m => m
  | x :: r, m => bif Nat.ble x m then bmx r m else bmx r x
noncomputable def bmn : List Nat → Nat → Nat
  | [], m => m
  | x :: r, m => bif Nat.ble m x then bmn r m else bmn r x
noncomputable def bgap (w : List Bool) (size : Nat) : Bool := match bpart w w.length (w ++ w) size with
  | [] => false
  | x :: r => Nat.blt (bmn r x + 1) (bmx r x)
noncomputable def beven (w : List Bool) : Nat → Nat → Bool
  | 0, _ => true
  | m + 1, size => bif bgap w size then false else beven w m (size + 1)
/-- a list written out, then gone on with -/
noncomputable def bforce : List Bool → (List Bool → Bool) → Bool
  | [], k => k []
  | true :: t, k => bforce t fun t' => k (true :: t')
  | false :: t, k => bforce t fun t' => k (false :: t')
noncomputable def nforce : List Nat → (List Nat → Bool) → Bool
  | [], k => k []
  | x :: t, k => nforce t fun t' => k (x :: t')
noncomputable def blaw1 (w s tw : List Bool) (a b : Bool) (sz : List Nat) : Bool :=
  beq' (bhome s a b) w && (Nat.beq (bfirst s (brots s s.length s)) sz.length &&
  bif beven w 6 1 then bparted ((bsort (brots s s.length s)).map blast) && (bsingle sz 0 && binfx (brising s.length (bcount s) s.length) tw)
  else !bparted ((bsort (brots s s.length s)).map blast) && (!bsingle sz 0 && !binfx (brising s.length (bcount s) s.length) tw))
noncomputable def blaw (w : List Bool) (a b : Bool) : Bool := bforce (bspun w a b) fun s => bforce (s ++ s) fun tw => nforce (bbo (tw.length + 1) [(0, bstart [] tw)] []) fun sz => blaw1 w s tw a b sz
noncomputable def allw : Nat → (List Bool → Bool) → Bool
  | 0, f => f []
  | k + 1, f => allw k (fun w => f (false :: w)) && allw k (fun w => f (true :: w))
end Mine
end

section
open PySem PySem.W PyProof.Rows PyProof.V PySem.Spec PySem.SeqAt
set_option linter.unusedVariables false
namespace Mine

/-! ## from words of two letters to texts -/
section
variable {lo hi : Nat}

theorem chB_inj (h : lo < hi) {x y : Bool} (e : chB lo hi x = chB lo hi y) : x = y := by
  cases x <;> cases y <;> first | rfl | (unfold chB at e; simp at e; omega)
theorem map_inj' (h : lo < hi) : ∀ {a b : List Bool}, a.map (chB lo hi) = b.map (chB lo hi) → a = b
  | [], [], _ => rfl
  | [], _ :: _, e => by cases e
  | _ :: _, [], e => by cases e
  | x :: a, y :: b, e => by
    simp only [List.map_cons, List.cons.injEq] at e
    rw [chB_inj h e.1, map_inj' h e.2]
theorem bpre_iff : ∀ p l : List Bool, bpre p l = true ↔ p <+: l
  | [], l => by simp [bpre]
  | _ :: _, [] => by simp [bpre]
  | true :: p, true :: l => by rw [bpre, bpre_iff p l, List.cons_prefix_cons]; simp
  | false :: p, false :: l => by rw [bpre, bpre_iff p l, List.cons_prefix_cons]; simp
  | true :: p, false :: l => by simp [bpre]
  | false :: p, true :: l => by simp [bpre]
theorem pre_map (h : lo < hi) (p l : List Bool) : (p.map (chB lo hi)).isPrefixOf (l.map (chB lo hi)) = bpre p l := by
  rw [Bool.eq_iff_iff, bpre_iff, List.isPrefixOf_iff_prefix]
  constructor
  · rintro ⟨t, e⟩
    obtain ⟨u, v, rfl, e1, _⟩ := List.map_eq_append_iff.mp e.symm
    exact ⟨v, by rw [map_inj' h e1]⟩
  · rintro ⟨t, rfl⟩
    exact ⟨t.map (chB lo hi), by rw [List.map_append]⟩
theorem repl_map (h : lo < hi) (p q : List Bool) : ∀ (l : List Bool) (k : Nat), repl (p.map (chB lo hi)) (q.map (chB lo hi)) (l.map (chB lo hi)) k = (brepl p q l k).map (chB lo hi)
  | [], _ => by simp [repl, brepl]
  | x :: t, 0 => by
    have e := pre_map h p (x :: t)
    rw [List.map_cons] at e ⊢
    unfold repl brepl
    rw [e]
    cases bpre p (x :: t) with
    | true => rw [if_pos rfl, List.length_map, repl_map h p q t]; show _ = List.map _ (q ++ _); rw [List.map_append]
    | false => rw [if_neg (by decide), repl_map h p q t]; rfl
  | _ :: t, k + 1 => by
    rw [List.map_cons]
    unfold repl brepl
    exact repl_map h p q t k
theorem repl_le (p q : List Nat) (m : Nat) (hq : q.length ≤ m) (hm : 1 ≤ m) : ∀ (l : List Nat) (k : Nat), (repl p q l k).length ≤ l.length * m
  | [], _ => by simp [repl]
  | x :: t, 0 => by
    unfold repl
    split
    · have := repl_le p q m hq hm t (p.length - 1)
      rw [List.length_append, List.length_cons, Nat.succ_mul]; omega
    · have := repl_le p q m hq hm t 0
      rw [List.length_cons, List.length_cons, Nat.succ_mul]; omega
  | _ :: t, k + 1 => by
    unfold repl
    have := repl_le p q m hq hm t k
    rw [List.length_cons, Nat.succ_mul]; omega

/-! ### standing in -/
theorem infx_iff (p : List Nat) : ∀ (l : List Nat) (pos : Nat), (fnd p l pos).isSome = true ↔ ∃ u v, l = u ++ p ++ v
  | [], pos => by
    unfold fnd
    constructor
    · intro h
      by_cases hp : p = []
      · subst hp; exact ⟨[], [], rfl⟩
      · rw [if_neg hp] at h; cases h
    · rintro ⟨u, v, e⟩
      have : p = [] := by
        have := congrArg List.length e
        simp at this
        exact List.length_eq_zero_iff.mp (by omega)
      rw [if_pos this]; rfl
  | x :: t, pos => by
    unfold fnd
    by_cases hp : p.isPrefixOf (x :: t) = true
    · rw [if_pos hp]
      obtain ⟨v, e⟩ := List.isPrefixOf_iff_prefix.mp hp
      exact ⟨fun _ => ⟨[], v, by simpa using e.symm⟩, fun _ => rfl⟩
    · rw [if_neg hp, infx_iff p t (pos + 1)]
      constructor
      · rintro ⟨u, v, rfl⟩; exact ⟨x :: u, v, by simp⟩
      · rintro ⟨u, v, e⟩
        cases u with
        | nil => exact absurd (List.isPrefixOf_iff_prefix.mpr ⟨v, by simpa using e.symm⟩) hp
        | cons y u =>
          simp only [List.cons_append, List.cons.injEq] at e
          exact ⟨u, v, e.2⟩
theorem infx_map (h : lo < hi) (p l : List Bool) : infx (p.map (chB lo hi)) (l.map (chB lo hi)) = true ↔ ∃ u v, l = u ++ p ++ v := by
  unfold infx
  rw [infx_iff]
  constructor
  · rintro ⟨u, v, e⟩
    obtain ⟨u1, v1, rfl, e1, e2⟩ := List.map_eq_append_iff.mp e
    obtain ⟨u2, v2, rfl, e3, e4⟩ := List.map_eq_append_iff.mp e1
    rw [map_inj' h e4]; exact ⟨_, _, rfl⟩
  · rintro ⟨u, v, rfl⟩
    exact ⟨u.map (chB lo hi), v.map (chB lo hi), by rw [List.map_append, List.map_append]⟩
theorem binfx_iff (p : List Bool) : ∀ l : List Bool, binfx p l = true ↔ ∃ u v, l = u ++ p ++ v
  | [] => by
    unfold binfx
    rw [bpre_iff]
    constructor
    · rintro ⟨v, e⟩; exact ⟨[], v, by simpa using e.symm⟩
    · rintro ⟨u, v, e⟩
      have : p = [] := by
        have := congrArg List.length e
        simp at this
        exact List.length_eq_zero_iff.mp (by omega)
      subst this; exact ⟨[], rfl⟩
  | x :: t => by
    unfold binfx
    rw [Bool.or_eq_true, bpre_iff, binfx_iff p t]
    constructor
    · rintro (⟨v, e⟩ | ⟨u, v, rfl⟩)
      · exact ⟨[], v, by simpa using e.symm⟩
      · exact ⟨x :: u, v, by simp⟩
    · rintro ⟨u, v, e⟩
      cases u with
      | nil => exact .inl ⟨v, by simpa using e.symm⟩
      | cons y u =>
        simp only [List.cons_append, List.cons.injEq] at e
        exact .inr ⟨u, v, e.2⟩
theorem infx_b (h : lo < hi) (p l : List Bool) : infx (p.map (chB lo hi)) (l.map (chB lo hi)) = binfx p l := by
  rw [Bool.eq_iff_iff, infx_map h, binfx_iff]

/-! ### the words that go on both ways -/
theorem bhas_iff (x : Bool) : ∀ o : List (List Bool × Bool), bhas x o = true ↔ ∃ a, (a, x) ∈ o
  | [] => by simp [bhas]
  | (b, y) :: r => by
    unfold bhas
    have ih := bhas_iff x r
    cases x <;> cases y <;> simp [ih]
theorem bext_iff (x : Bool) : ∀ (o : List (List Bool × Bool)) (a : List Bool) (y : Bool), (a, y) ∈ bext x o ↔ (x :: a, y) ∈ o
  | [], a, y => by simp [bext]
  | ([], z) :: r, a, y => by
    unfold bext
    rw [bext_iff x r]; simp
  | (true :: b, z) :: r, a, y => by
    unfold bext
    have ih := bext_iff x r a y
    cases x <;> simp [ih]
  | (false :: b, z) :: r, a, y => by
    unfold bext
    have ih := bext_iff x r a y
    cases x <;> simp [ih]
theorem bstart_iff : ∀ (l a : List Bool) (b : List Bool) (y : Bool), (b, y) ∈ bstart a l ↔ ∃ u t, l = u ++ y :: t ∧ b = u.reverse ++ a
  | [], a, b, y => by simp [bstart]
  | x :: l, a, b, y => by
    unfold bstart
    rw [List.mem_cons, bstart_iff l (x :: a) b y]
    constructor
    · rintro (h | ⟨u, t, rfl, rfl⟩)
      · cases h; exact ⟨[], l, rfl, rfl⟩
      · exact ⟨x :: u, t, rfl, by simp⟩
    · rintro ⟨u, t, e, rfl⟩
      cases u with
      | nil => simp only [List.nil_append, List.cons.injEq] at e; exact .inl (by rw [e.1]; rfl)
      | cons z u =>
        simp only [List.cons_append, List.cons.injEq] at e
        exact .inr ⟨u, t, e.2, by rw [e.1]; simp⟩

/-- the occurrences of a word -/
noncomputable def OccOf (tw p : List Bool) (o : List (List Bool × Bool)) : Prop := ∀ a y, (a, y) ∈ o ↔ ∃ t, tw = a.reverse ++ p ++ y :: t
noncomputable def QOk (lo hi : Nat) (tw : List Bool) : List (List Nat) → List (Nat × List (List Bool × Bool)) → Prop
  | [], [] => True
  | p :: q, ko :: r => (∃ pb, p = pb.map (chB lo hi) ∧ ko.1 = pb.length ∧ OccOf tw pb ko.2) ∧ QOk lo hi tw q r
  | _, _ => False
theorem QOk.snoc {tw : List Bool} {p : List Nat} {ko : Nat × List (List Bool × Bool)} (h : ∃ pb, p = pb.map (chB lo hi) ∧ ko.1 = pb.length ∧ OccOf tw pb ko.2) : ∀ {q : List (List Nat)} {r : List (Nat × List (List Bool × Bool))}, QOk lo hi tw q r → QOk lo hi tw (q ++ [p]) (r ++ [ko])
  | [], [], _ => ⟨h, trivial⟩
  | _ :: _, _ :: _, g => ⟨g.1, QOk.snoc h g.2⟩
theorem OccOf.has (h : lo < hi) {tw pb : List Bool} {o : List (List Bool × Bool)} (g : OccOf tw pb o) (x : Bool) : infx (pb.map (chB lo hi) ++ [chB lo hi x]) (tw.map (chB lo hi)) = bhas x o := by
  rw [Bool.eq_iff_iff, bhas_iff, show pb.map (chB lo hi) ++ [chB lo hi x] = (pb ++ [x]).map (chB lo hi) by simp, infx_map h]
  constructor
  · rintro ⟨u, v, e⟩
    exact ⟨u.reverse, (g _ _).mpr ⟨v, by rw [e]; simp⟩⟩
  · rintro ⟨a, ha⟩
    obtain ⟨t, e⟩ := (g _ _).mp ha
    exact ⟨a.reverse, t, by rw [e]; simp⟩
theorem OccOf.ext {tw pb : List Bool} {o : List (List Bool × Bool)} (g : OccOf tw pb o) (x : Bool) : OccOf tw (x :: pb) (bext x o) := fun a y => by
  rw [bext_iff, g]
  constructor
  · rintro ⟨t, e⟩; exact ⟨t, by rw [e]; simp⟩
  · rintro ⟨t, e⟩; exact ⟨t, by rw [e]; simp⟩
theorem bw_bbo (h : lo < hi) (tw : List Bool) : ∀ (m : Nat) (q : List (List Nat)) (r : List (Nat × List (List Bool × Bool))) (s : List Nat), QOk lo hi tw q r →
    bw lo hi (tw.map (chB lo hi)) m q (s.map fun k : Nat => (k : Int)) = (bbo m r s).map fun k : Nat => (k : Int)
  | 0, q, r, s, _ => by simp [bw, bbo]
  | m + 1, [], [], s, _ => by simp [bw, bbo]
  | m + 1, p :: q, (k, o) :: r, s, g => by
    obtain ⟨⟨pb, rfl, hk, ho⟩, g'⟩ := g
    dsimp only at hk ho
    subst hk
    unfold bw bbo
    have e0 := ho.has h false
    have e1 := ho.has h true
    rw [show chB lo hi false = lo from rfl] at e0
    rw [show chB lo hi true = hi from rfl] at e1
    rw [e0, e1]
    cases bhas false o && bhas true o with
    | false => exact bw_bbo h tw m q r s g'
    | true =>
      have := bw_bbo h tw m (q ++ [lo :: pb.map (chB lo hi), hi :: pb.map (chB lo hi)]) (r ++ [(pb.length + 1, bext false o), (pb.length + 1, bext true o)]) (s ++ [pb.length]) (by
        have a1 := QOk.snoc (lo := lo) (hi := hi) (tw := tw) (p := lo :: pb.map (chB lo hi)) (ko := (pb.length + 1, bext false o)) ⟨false :: pb, rfl, rfl, ho.ext false⟩ g'
        have a2 := QOk.snoc (lo := lo) (hi := hi) (tw := tw) (p := hi :: pb.map (chB lo hi)) (ko := (pb.length + 1, bext true o)) ⟨true :: pb, rfl, rfl, ho.ext true⟩ a1
        rwa [List.append_assoc, List.append_assoc] at a2)
      rw [List.map_append] at this
      simpa using this
  | m + 1, [], _ :: _, s, g => g.elim
  | m + 1, _ :: _, [], s, g => g.elim
theorem bbo_len : ∀ (m : Nat) (r : List (Nat × List (List Bool × Bool))) (s : List Nat), (bbo m r s).length ≤ s.length + m
  | 0, _, _ => by simp [bbo]
  | _ + 1, [], _ => by simp [bbo]
  | m + 1, (k, o) :: r, s => by
    unfold bbo
    cases bhas false o && bhas true o with
    | true => have := bbo_len m (r ++ [(k + 1, bext false o), (k + 1, bext true o)]) (s ++ [k]); simp at this ⊢; omega
    | false => have := bbo_len m r s; simp at this ⊢; omega
noncomputable def bsizes (s : List Bool) : List Nat := bbo ((s ++ s).length + 1) [(0, bstart [] (s ++ s))] []
theorem sizes_b (h : lo < hi) (s : List Bool) : sizesL lo hi (s.map (chB lo hi)) = (bsizes s).map fun k : Nat => (k : Int) := by
  unfold sizesL bsizes
  rw [← List.map_append, List.length_map]
  exact bw_bbo h (s ++ s) _ [[]] [(0, bstart [] (s ++ s))] [] ⟨⟨[], rfl, rfl, fun a y => by
    rw [bstart_iff]
    constructor
    · rintro ⟨u, t, e, rfl⟩; exact ⟨t, by rw [e]; simp⟩
    · rintro ⟨t, e⟩; exact ⟨a.reverse, t, by rw [e]; simp, by simp⟩⟩, trivial⟩
end
end Mine
end

section
open PySem PySem.W PyProof.Rows PyProof.V PySem.Spec PySem.SeqAt
set_option linter.unusedVariables false
namespace Mine
section
variable {lo hi : Nat}

/-! ### the order of texts -/
theorem lt_antisymm : ∀ a b : List Nat, ltCps a b = false → ltCps b a = false → a = b
  | [], [], _, _ => rfl
  | [], _ :: _, h, _ => by simp [ltCps] at h
  | _ :: _, [], _, h => by simp [ltCps] at h
  | x :: a, y :: b, h1, h2 => by
    simp only [ltCps, Bool.or_eq_false_iff, decide_eq_false_iff_not, Bool.and_eq_false_imp, beq_iff_eq] at h1 h2
    have : x = y := by omega
    subst this
    rw [lt_antisymm a b (h1.2 rfl) (h2.2 rfl)]
theorem le_trans' : ∀ a b c : List Nat, ltCps b a = false → ltCps c b = false → ltCps c a = false
  | [], _, [], _, _ => rfl
  | [], _, _ :: _, _, _ => rfl
  | _ :: _, [], _, h, _ => by simp [ltCps] at h
  | _ :: _, _ :: _, [], _, h => by simp [ltCps] at h
  | x :: a, y :: b, z :: c, h1, h2 => by
    simp only [ltCps, Bool.or_eq_false_iff, decide_eq_false_iff_not, Bool.and_eq_false_imp, beq_iff_eq] at h1 h2 ⊢
    refine ⟨by omega, fun e => ?_⟩
    have h3 : y = x := by omega
    have h4 : z = y := by omega
    exact le_trans' a b c (h1.2 h3) (h2.2 h4)
theorem lt_asymm' : ∀ a b : List Nat, ltCps a b = true → ltCps b a = false
  | [], [], _ => rfl
  | [], _ :: _, _ => rfl
  | _ :: _, [], h => by simp [ltCps] at h
  | x :: a, y :: b, h => by
    simp only [ltCps, Bool.or_eq_true, decide_eq_true_eq, Bool.and_eq_true, beq_iff_eq] at h
    simp only [ltCps, Bool.or_eq_false_iff, decide_eq_false_iff_not, Bool.and_eq_false_imp, beq_iff_eq]
    rcases h with h | ⟨h, h'⟩
    · exact ⟨by omega, fun e => by omega⟩
    · exact ⟨by omega, fun _ => lt_asymm' a b h'⟩
noncomputable def leS (x y : Str) : Prop := ltCps y.cps.toList x.cps.toList = false
theorem rising_pw : ∀ (l : List Str) (p : Str), risingS p l = true → (p :: l).Pairwise leS
  | [], p, _ => by simp
  | x :: r, p, h => by
    unfold risingS at h
    rw [Bool.and_eq_true, Bool.not_eq_true'] at h
    have ih := rising_pw r x h.2
    rw [List.pairwise_cons]
    refine ⟨fun y hy => ?_, ih⟩
    rcases List.mem_cons.mp hy with rfl | hy
    · exact h.1
    · exact le_trans' _ _ _ h.1 ((List.pairwise_cons.mp ih).1 y hy)
theorem sorted_pw {l : List Str} (h : sortedS l = true) : l.Pairwise leS := by
  cases l with
  | nil => simp
  | cons x r => exact rising_pw r x h
theorem sorted_one {zs ls : List Str} (hp : zs.Perm ls) (h1 : sortedS zs = true) (h2 : ls.Pairwise leS) : zs = ls :=
  List.Perm.eq_of_pairwise (le := leS) (fun a b _ _ hab hba => by
    rw [T_eq a, T_eq b, lt_antisymm _ _ hba hab]) (sorted_pw h1) h2 hp

theorem lt_map (h : lo < hi) : ∀ a b : List Bool, ltCps (a.map (chB lo hi)) (b.map (chB lo hi)) = bltl a b
  | [], [] => rfl
  | [], _ :: _ => rfl
  | _ :: _, [] => rfl
  | x :: a, y :: b => by
    rw [List.map_cons, List.map_cons]
    unfold ltCps
    rw [lt_map h a b]
    have e0 : chB lo hi false = lo := rfl
    have e1 : chB lo hi true = hi := rfl
    have n1 : ¬ hi < lo := by omega
    have n2 : (hi == lo) = false := beq_eq_false_iff_ne.mpr (by omega)
    have n3 : (lo == hi) = false := beq_eq_false_iff_ne.mpr (by omega)
    cases x <;> cases y <;> simp [bltl, e0, e1, h, n1, n2]

theorem bins_perm (x : List Bool) : ∀ l, (bins x l).Perm (x :: l)
  | [] => List.Perm.refl _
  | y :: r => by
    unfold bins
    cases bltl y x with
    | true => exact ((bins_perm x r).cons y).trans (List.Perm.swap x y r)
    | false => exact List.Perm.refl _
theorem bsort_perm : ∀ l, (bsort l).Perm l
  | [] => List.Perm.refl _
  | x :: r => (bins_perm x _).trans ((bsort_perm r).cons x)
noncomputable def leB (lo hi : Nat) (x y : List Bool) : Prop := ltCps (y.map (chB lo hi)) (x.map (chB lo hi)) = false
theorem bins_pw (h : lo < hi) (x : List Bool) : ∀ l, l.Pairwise (leB lo hi) → (bins x l).Pairwise (leB lo hi)
  | [], _ => by simp [bins]
  | y :: r, hl => by
    obtain ⟨h1, h2⟩ := List.pairwise_cons.mp hl
    unfold bins
    cases e : bltl y x with
    | true =>
      refine List.pairwise_cons.mpr ⟨fun z hz => ?_, bins_pw h x r h2⟩
      have := (bins_perm x r).subset hz
      rcases List.mem_cons.mp this with rfl | hz
      · exact lt_asymm' _ _ (by rw [lt_map h]; exact e)
      · exact h1 z hz
    | false =>
      have hxy : leB lo hi x y := by unfold leB; rw [lt_map h]; exact e
      refine List.pairwise_cons.mpr ⟨fun z hz => ?_, hl⟩
      rcases List.mem_cons.mp hz with rfl | hz
      · exact hxy
      · exact le_trans' _ _ _ hxy (h1 z hz)
theorem bsort_pw (h : lo < hi) : ∀ l, (bsort l).Pairwise (leB lo hi)
  | [] => by simp [bsort]
  | x :: r => bins_pw h x _ (bsort_pw h r)

/-! ### turns -/
noncomputable def brotk (k : Nat) (l : List Bool) : List Bool := l.drop k ++ l.take k
theorem rot_map (k : Nat) (l : List Bool) : rot k (l.map (chB lo hi)) = (brotk k l).map (chB lo hi) := by
  unfold rot brotk; rw [← List.map_drop, ← List.map_take, List.map_append]
theorem brotk_cons {l : List Bool} {k : Nat} (hk : k < l.length) : ∃ x t, brotk k l = x :: t ∧ t ++ [x] = brotk (k + 1) l ∧ l[k]? = some x := by
  refine ⟨l[k], l.drop (k + 1) ++ l.take k, ?_, ?_, List.getElem?_eq_getElem hk⟩
  · unfold brotk; rw [List.drop_eq_getElem_cons hk]; rfl
  · unfold brotk; rw [List.take_add_one, List.getElem?_eq_getElem hk]; simp
theorem brots_eq (s : List Bool) : ∀ (m j : Nat), j + m ≤ s.length → brots s m (brotk j s) = (List.range m).map fun k => brotk (j + k + 1) s
  | 0, _, _ => by simp [brots]
  | m + 1, j, h => by
    obtain ⟨x, t, e1, e2, _⟩ := brotk_cons (l := s) (k := j) (by omega)
    rw [e1]
    unfold brots
    rw [e2, brots_eq s m (j + 1) (by omega), List.range_succ_eq_map, List.map_cons, List.map_map]
    congr 1
    refine List.map_congr_left fun k _ => ?_
    show brotk (j + 1 + k + 1) s = brotk (j + (k + 1) + 1) s
    rw [show j + 1 + k + 1 = j + (k + 1) + 1 by omega]
theorem brots_all (s : List Bool) : brots s s.length s = (List.range s.length).map fun k => brotk (k + 1) s := by
  have := brots_eq s s.length 0 (by omega)
  rw [show brotk 0 s = s by simp [brotk]] at this
  rw [this]
  refine List.map_congr_left fun k _ => ?_
  rw [Nat.zero_add]
theorem trn_b (s : List Bool) : trn (s.map (chB lo hi)) = ((brots s s.length s).map fun x => x.map (chB lo hi)).map T := by
  unfold trn
  rw [brots_all, List.map_map, List.map_map, List.length_map]
  refine List.map_congr_left fun k _ => ?_
  rw [rot_map]; rfl
theorem beq'_iff : ∀ a b : List Bool, beq' a b = true ↔ a = b
  | [], [] => by simp [beq']
  | [], _ :: _ => by simp [beq']
  | _ :: _, [] => by simp [beq']
  | x :: a, y :: b => by
    have := beq'_iff a b
    cases x <;> cases y <;> simp [beq', this]
theorem bfirst_miss (s : List Bool) : ∀ (l : List (List Bool)) (k : Nat), k < bfirst s l → l[k]? ≠ some s
  | [], k, h => by simp [bfirst] at h
  | x :: r, k, h => by
    unfold bfirst at h
    cases e : beq' x s with
    | true => rw [e] at h; simp at h
    | false =>
      rw [e] at h
      have hne : x ≠ s := fun q => by rw [(beq'_iff x s).mpr q] at e; cases e
      cases k with
      | zero => simpa using hne
      | succ k => simpa using bfirst_miss s r k (by simpa using h)
theorem bfirst_hit (s : List Bool) : ∀ (l : List (List Bool)), s ∈ l → l[bfirst s l]? = some s
  | x :: r, h => by
    unfold bfirst
    cases e : beq' x s with
    | true => simp [(beq'_iff x s).mp e]
    | false =>
      have hne : x ≠ s := fun q => by rw [(beq'_iff x s).mpr q] at e; cases e
      rcases List.mem_cons.mp h with h | h
      · exact absurd h.symm hne
      · simpa using bfirst_hit s r h
theorem mem_brots {s : List Bool} (h : 0 < s.length) : s ∈ brots s s.length s := by
  rw [brots_all]
  refine List.mem_map.mpr ⟨s.length - 1, List.mem_range.mpr (by omega), ?_⟩
  rw [show s.length - 1 + 1 = s.length by omega]; simp [brotk]

/-! ### last signs -/
theorem blast_snoc (x : Bool) : ∀ t : List Bool, blast (t ++ [x]) = x
  | [] => rfl
  | y :: t => by
    cases t with
    | nil => rfl
    | cons z t => show blast (y :: z :: (t ++ [x])) = x; unfold blast; exact blast_snoc x (z :: t)
theorem last_map : ∀ (x : List Bool), 0 < x.length → lastN (x.map (chB lo hi)) = chB lo hi (blast x)
  | [x], _ => rfl
  | x :: y :: t, _ => by
    have := last_map (y :: t) (by simp)
    unfold blast
    rw [← this]
    unfold lastN
    simp
theorem brots_last (s : List Bool) : (brots s s.length s).map blast = s := by
  rw [brots_all, List.map_map]
  apply List.ext_getElem?
  intro k
  rw [List.getElem?_map]
  by_cases hk : k < s.length
  · rw [List.getElem?_range hk]
    obtain ⟨x, t, e1, e2, e3⟩ := brotk_cons hk
    rw [e3]
    show some (blast (brotk (k + 1) s)) = some x
    rw [← e2, blast_snoc]
  · rw [List.getElem?_eq_none (by rw [List.length_range]; omega), List.getElem?_eq_none (by omega)]; rfl
theorem bcount_eq : ∀ l : List Bool, bcount l = l.count true
  | [] => rfl
  | true :: t => by rw [bcount, bcount_eq t]; simp
  | false :: t => by rw [bcount, bcount_eq t]; simp
theorem count_map (h : lo < hi) : ∀ l : List Bool, (l.map (chB lo hi)).count hi = bcount l
  | [] => rfl
  | true :: t => by
    rw [List.map_cons, bcount, ← count_map h t, show chB lo hi true = hi from rfl]; simp
  | false :: t => by
    rw [List.map_cons, bcount, ← count_map h t, show chB lo hi false = lo from rfl, List.count_cons_of_ne (by omega)]
theorem bparted_iff : ∀ l : List Bool, bparted l = true ↔ l = List.replicate (bcount l) true ++ List.replicate (l.length - bcount l) false
  | [] => by simp [bparted, bcount]
  | true :: t => by
    have := bparted_iff t
    rw [bparted, this, bcount, List.replicate_succ]
    simp only [List.cons_append, List.cons.injEq, true_and, List.length_cons, Nat.add_sub_add_right]
  | false :: t => by
    rw [bparted, bcount, Nat.beq_eq]
    have hle : bcount t ≤ t.length := by rw [bcount_eq]; exact List.count_le_length
    constructor
    · intro h0
      have h0' : bcount t = 0 := h0
      rw [h0']
      have ht : t = List.replicate t.length false := List.eq_replicate_iff.mpr ⟨rfl, fun b hb => by
        cases b with
        | false => rfl
        | true => rw [bcount_eq, List.count_eq_zero] at h0'; exact absurd hb h0'⟩
      simp only [List.replicate_zero, List.nil_append, List.length_cons, Nat.sub_zero, List.replicate_succ]
      rw [← ht]
    · intro e
      show bcount t = 0
      cases hc : bcount t with
      | zero => rfl
      | succ k => rw [hc, List.replicate_succ] at e; simp at e
end
end Mine
end

section
open PySem PySem.W PyProof.Rows PyProof.V PySem.Spec PySem.SeqAt
set_option linter.unusedVariables false
namespace Mine
section
variable {lo hi : Nat}

/-! ### even words -/
theorem bpart_eq (w : List Bool) (size : Nat) : ∀ (m : Nat) (l : List Bool), m ≤ l.length → bpart w m l size = (List.range m).map fun k => bcount ((l.drop k).take size)
  | 0, _, _ => by simp [bpart]
  | m + 1, [], h => by simp at h
  | m + 1, x :: t, h => by
    unfold bpart
    rw [bpart_eq w size m t (by simpa using h), List.range_succ_eq_map, List.map_cons, List.map_map]
    rfl
theorem cnts_b (h : lo < hi) (w : List Bool) (size : Nat) : cnts (w.map (chB lo hi)) hi size = (bpart w w.length (w ++ w) size).map fun k : Nat => (k : Int) := by
  unfold cnts
  rw [bpart_eq w size w.length (w ++ w) (by simp), List.map_map, List.length_map]
  refine List.map_congr_left fun k _ => ?_
  rw [← List.map_append, ← List.map_drop, ← List.map_take, count_map h]; rfl
theorem bmx_eq : ∀ (r : List Nat) (m : Nat), (r.map fun k : Nat => (k : Int)).foldl max (m : Int) = (bmx r m : Nat)
  | [], _ => rfl
  | y :: r, m => by
    rw [List.map_cons, List.foldl_cons]
    unfold bmx
    cases e : Nat.ble y m with
    | true =>
      have : y ≤ m := Nat.le_of_ble_eq_true e
      rw [show max (m : Int) (y : Int) = m by omega]; exact bmx_eq r m
    | false =>
      have : ¬ y ≤ m := fun h => by rw [Nat.ble_eq_true_of_le h] at e; cases e
      rw [show max (m : Int) (y : Int) = y by omega]; exact bmx_eq r y
theorem bmn_eq : ∀ (r : List Nat) (m : Nat), (r.map fun k : Nat => (k : Int)).foldl min (m : Int) = (bmn r m : Nat)
  | [], _ => rfl
  | y :: r, m => by
    rw [List.map_cons, List.foldl_cons]
    unfold bmn
    cases e : Nat.ble m y with
    | true =>
      have : m ≤ y := Nat.le_of_ble_eq_true e
      rw [show min (m : Int) (y : Int) = m by omega]; exact bmn_eq r m
    | false =>
      have : ¬ m ≤ y := fun h => by rw [Nat.ble_eq_true_of_le h] at e; cases e
      rw [show min (m : Int) (y : Int) = y by omega]; exact bmn_eq r y
theorem blt_eq (a b : Nat) : Nat.blt a b = decide (a < b) := by
  rw [Bool.eq_iff_iff, decide_eq_true_eq]
  exact ⟨fun h => Nat.le_of_ble_eq_true h, fun h => Nat.ble_eq_true_of_le h⟩
theorem gap_b (h : lo < hi) (w : List Bool) (size : Nat) : gapB (w.map (chB lo hi)) hi size = bgap w size := by
  unfold gapB bgap
  rw [cnts_b h]
  cases bpart w w.length (w ++ w) size with
  | nil => decide
  | cons x r =>
    show decide (1 < (r.map fun k : Nat => (k : Int)).foldl max (x : Int) - (r.map fun k : Nat => (k : Int)).foldl min (x : Int)) = Nat.blt (bmn r x + 1) (bmx r x)
    rw [bmx_eq, bmn_eq, blt_eq]
    exact decide_eq_decide.mpr (by omega)
theorem evenFrom_b (h : lo < hi) (w : List Bool) : ∀ m size, evenFrom (w.map (chB lo hi)) hi m size = beven w m size
  | 0, _ => rfl
  | m + 1, size => by
    unfold evenFrom beven
    rw [gap_b h, evenFrom_b h w m]

/-! ### the rising word -/
theorem brising_eq (N h : Nat) : ∀ k, brising N h k = (List.range k).map fun i => Nat.blt (i * h / N) ((i + 1) * h / N)
  | 0 => rfl
  | k + 1 => by rw [brising, brising_eq N h k, List.range_succ, List.map_append]; rfl
theorem rising_b (N h : Nat) : risingL lo hi N h = (brising N h N).map (chB lo hi) := by
  unfold risingL
  rw [brising_eq, List.map_map]
  refine List.map_congr_left fun k _ => ?_
  show _ = chB lo hi (Nat.blt _ _)
  rw [blt_eq]

theorem bsingle_iff : ∀ (l : List Nat) (k : Nat), bsingle l k = true ↔ l = (List.range l.length).map fun i => k + i
  | [], _ => by simp [bsingle]
  | x :: r, k => by
    unfold bsingle
    rw [Bool.and_eq_true, Nat.beq_eq, bsingle_iff r (k + 1), List.length_cons, List.range_succ_eq_map, List.map_cons, List.map_map]
    constructor
    · rintro ⟨h1, h2⟩
      have h1' : x = k := h1
      rw [h1']
      congr 1
      refine h2.trans ?_
      refine List.map_congr_left fun i _ => ?_
      show k + 1 + i = k + (i + 1); omega
    · intro e
      simp only [List.cons.injEq] at e
      refine ⟨by show x = k; omega, ?_⟩
      refine e.2.trans ?_
      refine List.map_congr_left fun i _ => ?_
      show k + (i + 1) = k + 1 + i; omega
theorem single_b (l : List Nat) : decide ((l.map fun k : Nat => (k : Int)) = (List.range (l.map fun k : Nat => (k : Int)).length).map fun k : Nat => (k : Int)) = bsingle l 0 := by
  rw [Bool.eq_iff_iff, decide_eq_true_eq, bsingle_iff, List.length_map]
  have key : ∀ a b : List Nat, a.map (fun k : Nat => (k : Int)) = b.map (fun k : Nat => (k : Int)) → a = b := by
    intro a
    induction a with
    | nil => intro b e; cases b with
      | nil => rfl
      | cons _ _ => cases e
    | cons x a ih => intro b e; cases b with
      | nil => cases e
      | cons y b =>
        simp only [List.map_cons, List.cons.injEq] at e
        rw [ih b e.2, show x = y by omega]
  have e0 : ((List.range l.length).map fun i => 0 + i) = List.range l.length := by
    conv => rhs; rw [← List.map_id (List.range l.length)]
    exact List.map_congr_left fun i _ => Nat.zero_add i
  rw [e0]
  exact ⟨fun e => key _ _ e, fun e => congrArg _ e⟩

theorem bforce_eq : ∀ (l : List Bool) (k : List Bool → Bool), bforce l k = k l
  | [], _ => rfl
  | true :: t, k => by unfold bforce; exact bforce_eq t _
  | false :: t, k => by unfold bforce; exact bforce_eq t _
theorem nforce_eq : ∀ (l : List Nat) (k : List Nat → Bool), nforce l k = k l
  | [], _ => rfl
  | _ :: t, k => by unfold nforce; exact nforce_eq t _

theorem chB_lt (h : hi < 1000) (h' : lo < hi) (b : Bool) : chB lo hi b < 1000 := by cases b <;> (unfold chB; simp; omega)

/-- all that is asked, by the words of two letters -/
theorem pure_of (h : lo < hi) (hh : hi < 1000) {ns : List Int} (hn : ns.length = 9) (hb : blaw ((ns.take 7).map oddB) (oddB (ns.getD 7 0)) (oddB (ns.getD 8 0)) = true) : Pure1 lo hi ns := by
  generalize hw0 : (ns.take 7).map oddB = w at hb
  generalize ha0 : oddB (ns.getD 7 0) = a at hb
  generalize hb0 : oddB (ns.getD 8 0) = b at hb
  have hw : wordL lo hi ns = w.map (chB lo hi) := by unfold wordL; rw [← hw0, List.map_map]; rfl
  have hwl : w.length = 7 := by rw [← hw0, List.length_map, List.length_take, hn]; rfl
  have hth : thereP lo hi ns = [([a].map (chB lo hi), [false, true].map (chB lo hi)), ([b].map (chB lo hi), [false, true].map (chB lo hi))] := by
    unfold thereP sB; rw [ha0, hb0]; rfl
  have hho : homeP lo hi ns = [([false, true].map (chB lo hi), [b].map (chB lo hi)), ([false, true].map (chB lo hi), [a].map (chB lo hi))] := by
    unfold homeP sB; rw [ha0, hb0]; rfl
  have hsp : spunL lo hi ns = (bspun w a b).map (chB lo hi) := by
    unfold spunL bspun
    rw [hth, hw]
    show repl _ _ (repl _ _ _ 0) 0 = _
    rw [repl_map h, repl_map h]
  have hhome : replAll (homeP lo hi ns) (spunL lo hi ns) = (bhome (bspun w a b) a b).map (chB lo hi) := by
    rw [hho, hsp]
    show repl _ _ (repl _ _ _ 0) 0 = _
    rw [repl_map h, repl_map h]; rfl
  have hl1 : (repl ([a].map (chB lo hi)) ([false, true].map (chB lo hi)) (w.map (chB lo hi)) 0).length ≤ 14 := by
    have := repl_le ([a].map (chB lo hi)) ([false, true].map (chB lo hi)) 2 (by simp) (by omega) (w.map (chB lo hi)) 0
    rw [List.length_map, hwl] at this; exact this
  have hl2 : (spunL lo hi ns).length ≤ 28 := by
    unfold spunL
    rw [hth, hw]
    show (repl _ _ (repl _ _ _ 0) 0).length ≤ 28
    have := repl_le ([b].map (chB lo hi)) ([false, true].map (chB lo hi)) 2 (by simp) (by omega) (repl ([a].map (chB lo hi)) ([false, true].map (chB lo hi)) (w.map (chB lo hi)) 0) 0
    exact Nat.le_trans this (Nat.mul_le_mul hl1 (Nat.le_refl 2))
  have hsl : (bspun w a b).length = (spunL lo hi ns).length := by rw [hsp, List.length_map]
  unfold blaw at hb
  rw [bforce_eq, bforce_eq, nforce_eq] at hb
  unfold blaw1 at hb
  rw [Bool.and_eq_true, Bool.and_eq_true, beq'_iff, Nat.beq_eq] at hb
  obtain ⟨hb1, hb2, hb3⟩ := hb
  have hpos : 0 < (bspun w a b).length := by
    cases e : bspun w a b with
    | nil => rw [e] at hb1; rw [← hb1] at hwl; simp [bhome, brepl] at hwl
    | cons _ _ => simp
  have hb2' : bfirst (bspun w a b) (brots (bspun w a b) (bspun w a b).length (bspun w a b)) = (bsizes (bspun w a b)).length := hb2
  have hsz : sizesL lo hi (spunL lo hi ns) = (bsizes (bspun w a b)).map fun k : Nat => (k : Int) := by rw [hsp]; exact sizes_b h _
  have hszl : (sizesL lo hi (spunL lo hi ns)).length = (bsizes (bspun w a b)).length := by rw [hsz, List.length_map]
  have htr : trn (spunL lo hi ns) = ((brots (bspun w a b) (bspun w a b).length (bspun w a b)).map fun x => x.map (chB lo hi)).map T := by rw [hsp]; exact trn_b _
  have hrl : ∀ x ∈ brots (bspun w a b) (bspun w a b).length (bspun w a b), x.length = (bspun w a b).length := fun x hx => by
    rw [brots_all] at hx
    obtain ⟨k, hk, rfl⟩ := List.mem_map.mp hx
    unfold brotk
    rw [List.length_append, List.length_drop, List.length_take]
    have := List.mem_range.mp hk; omega
  have hrn : (brots (bspun w a b) (bspun w a b).length (bspun w a b)).length = (bspun w a b).length := by rw [brots_all, List.length_map, List.length_range]
  have hcnt : hgs lo hi ns = bcount (bspun w a b) := by unfold hgs; rw [hsp, count_map h]
  have hlen7 : (w.map (chB lo hi)).length - 1 = 6 := by rw [List.length_map, hwl]
  refine ⟨?_, ?_, ?_, by omega, by omega, ?_, ?_, ?_, ?_, ((bsort (brots (bspun w a b) (bspun w a b).length (bspun w a b))).map fun x => x.map (chB lo hi)), ?_, ?_, ?_, ?_⟩
  · rw [hth, hw]
    exact ⟨by rw [List.length_map, hwl]; decide, by simp, by simp, Nat.le_trans hl1 (by decide), by simp, by simp, by
      have e : spunL lo hi ns = repl ([b].map (chB lo hi)) ([false, true].map (chB lo hi)) (repl ([a].map (chB lo hi)) ([false, true].map (chB lo hi)) (w.map (chB lo hi)) 0) 0 := by
        unfold spunL; rw [hth, hw]; rfl
      show (repl _ _ (repl _ _ _ 0) 0).length ≤ 1000
      rw [← e]; omega⟩
  · rw [hho]
    have m1 := repl_le ([false, true].map (chB lo hi)) ([b].map (chB lo hi)) 1 (by simp) (by omega) (spunL lo hi ns) 0
    have m2 := repl_le ([false, true].map (chB lo hi)) ([a].map (chB lo hi)) 1 (by simp) (by omega) (repl ([false, true].map (chB lo hi)) ([b].map (chB lo hi)) (spunL lo hi ns) 0) 0
    exact ⟨by omega, by simp, by simp, Nat.le_trans m1 (by omega), by simp, by simp, Nat.le_trans m2 (by omega)⟩
  · rw [hhome, hb1, hw]
  · intro x hx
    rw [hsp] at hx
    obtain ⟨y, _, rfl⟩ := List.mem_map.mp hx
    exact chB_lt hh h y
  · rw [hszl]
    have := bbo_len ((bspun w a b ++ bspun w a b).length + 1) [(0, bstart [] (bspun w a b ++ bspun w a b))] []
    unfold bsizes
    simp at this ⊢; omega
  · rw [hszl, htr, ← hb2', List.getElem?_map, List.getElem?_map, bfirst_hit _ _ (mem_brots hpos), hsp]; rfl
  · intro k hk
    rw [hszl, ← hb2'] at hk
    rw [htr, List.getElem?_map, List.getElem?_map]
    intro e
    have hne := bfirst_miss (bspun w a b) _ k hk
    cases e2 : (brots (bspun w a b) (bspun w a b).length (bspun w a b))[k]? with
    | none => rw [e2] at e; cases e
    | some x =>
      rw [e2] at e
      have e3 : T (x.map (chB lo hi)) = T (spunL lo hi ns) := Option.some.inj e
      have e4 := T_inj e3
      rw [hsp] at e4
      exact hne (by rw [e2, map_inj' h e4])
  · intro zs hp hs
    refine sorted_one ?_ hs ?_
    · rw [htr] at hp
      exact hp.trans (((bsort_perm _).map _).map _).symm
    · rw [List.pairwise_map, List.pairwise_map]
      exact (bsort_pw h _).imp fun hab => hab
  · rw [List.length_map, (bsort_perm _).length_eq, hrn]; omega
  · intro x hx
    obtain ⟨y, hy, rfl⟩ := List.mem_map.mp hx
    have := hrl y ((bsort_perm _).subset hy)
    rw [List.length_map]; omega
  · have hlast : ((bsort (brots (bspun w a b) (bspun w a b).length (bspun w a b))).map fun x => x.map (chB lo hi)).map lastN = ((bsort (brots (bspun w a b) (bspun w a b).length (bspun w a b))).map blast).map (chB lo hi) := by
      rw [List.map_map, List.map_map]
      refine List.map_congr_left fun x hx => ?_
      exact last_map x (by have := hrl x ((bsort_perm _).subset hx); omega)
    have hperm : ((bsort (brots (bspun w a b) (bspun w a b).length (bspun w a b))).map blast).Perm (bspun w a b) := by
      have := (bsort_perm (brots (bspun w a b) (bspun w a b).length (bspun w a b))).map blast
      rwa [brots_last] at this
    have hpart : (((bsort (brots (bspun w a b) (bspun w a b).length (bspun w a b))).map fun x => x.map (chB lo hi)).map lastN == List.replicate (hgs lo hi ns) hi ++ List.replicate ((spunL lo hi ns).length - hgs lo hi ns) lo) = bparted ((bsort (brots (bspun w a b) (bspun w a b).length (bspun w a b))).map blast) := by
      rw [Bool.eq_iff_iff, beq_iff_eq, bparted_iff, hlast, hcnt, ← hsl]
      have c1 : bcount ((bsort (brots (bspun w a b) (bspun w a b).length (bspun w a b))).map blast) = bcount (bspun w a b) := by rw [bcount_eq, bcount_eq]; exact hperm.count_eq true
      rw [c1, hperm.length_eq]
      have e : List.replicate (bcount (bspun w a b)) hi ++ List.replicate ((bspun w a b).length - bcount (bspun w a b)) lo = (List.replicate (bcount (bspun w a b)) true ++ List.replicate ((bspun w a b).length - bcount (bspun w a b)) false).map (chB lo hi) := by
        rw [List.map_append, List.map_replicate, List.map_replicate]; rfl
      rw [e]
      exact ⟨fun q => map_inj' h q, fun q => congrArg _ q⟩
    have hev : evenB (wordL lo hi ns) hi = beven w 6 1 := by
      unfold evenB
      rw [hw, hlen7, evenFrom_b h]
    have hsi : decide (sizesL lo hi (spunL lo hi ns) = (List.range (sizesL lo hi (spunL lo hi ns)).length).map fun k : Nat => (k : Int)) = bsingle (bsizes (bspun w a b)) 0 := by
      rw [hsz]; exact single_b _
    have hri : infx (risingL lo hi (spunL lo hi ns).length (hgs lo hi ns)) (spunL lo hi ns ++ spunL lo hi ns) = binfx (brising (bspun w a b).length (bcount (bspun w a b)) (bspun w a b).length) (bspun w a b ++ bspun w a b) := by
      rw [rising_b, hcnt, ← hsl, hsp, ← List.map_append, infx_b h]
    rw [hpart, hev, hsi, hri]
    have hb3' : (bif beven w 6 1 then bparted ((bsort (brots (bspun w a b) (bspun w a b).length (bspun w a b))).map blast) && (bsingle (bsizes (bspun w a b)) 0 && binfx (brising (bspun w a b).length (bcount (bspun w a b)) (bspun w a b).length) (bspun w a b ++ bspun w a b))
      else !bparted ((bsort (brots (bspun w a b) (bspun w a b).length (bspun w a b))).map blast) && (!bsingle (bsizes (bspun w a b)) 0 && !binfx (brising (bspun w a b).length (bcount (bspun w a b)) (bspun w a b).length) (bspun w a b ++ bspun w a b))) = true := hb3
    revert hb3'
    cases beven w 6 1 <;> cases bparted ((bsort (brots (bspun w a b) (bspun w a b).length (bspun w a b))).map blast) <;> cases bsingle (bsizes (bspun w a b)) 0 <;> cases binfx (brising (bspun w a b).length (bcount (bspun w a b)) (bspun w a b).length) (bspun w a b ++ bspun w a b) <;> decide
end
end Mine
end

section
open PySem PySem.W PyProof.Rows PyProof.V PySem.Spec PySem.SeqAt
set_option linter.unusedVariables false
namespace Mine

theorem allw_all : ∀ (k : Nat) (f : List Bool → Bool), allw k f = true → ∀ w, w.length = k → f w = true
  | 0, f, h, [], _ => h
  | k + 1, f, h, x :: w, hw => by
    unfold allw at h
    rw [Bool.and_eq_true] at h
    cases x with
    | false => exact allw_all k _ h.1 w (by simpa using hw)
    | true => exact allw_all k _ h.2 w (by simpa using hw)

theorem al_fffff : (allw 4 fun w => blaw (false :: false :: false :: w) false false) = true := by decide +kernel
theorem al_fffft : (allw 4 fun w => blaw (false :: false :: true :: w) false false) = true := by decide +kernel
theorem al_ffftf : (allw 4 fun w => blaw (false :: true :: false :: w) false false) = true := by decide +kernel
theorem al_ffftt : (allw 4 fun w => blaw (false :: true :: true :: w) false false) = true := by decide +kernel
theorem al_fftff : (allw 4 fun w => blaw (true :: false :: false :: w) false false) = true := by decide +kernel
theorem al_fftft : (allw 4 fun w => blaw (true :: false :: true :: w) false false) = true := by decide +kernel
theorem al_ffttf : (allw 4 fun w => blaw (true :: true :: false :: w) false false) = true := by decide +kernel
theorem al_ffttt : (allw 4 fun w => blaw (true :: true :: true :: w) false false) = true := by decide +kernel
theorem al_ftfff : (allw 4 fun w => blaw (false :: false :: false :: w) false true) = true := by decide +kernel
theorem al_ftfft : (allw 4 fun w => blaw (false :: false :: true :: w) false true) = true := by decide +kernel
theorem al_ftftf : (allw 4 fun w => blaw (false :: true :: false :: w) false true) = true := by decide +kernel
theorem al_ftftt : (allw 4 fun w => blaw (false :: true :: true :: w) false true) = true := by decide +kernel
theorem al_fttff : (allw 4 fun w => blaw (true :: false :: false :: w) false true) = true := by decide +kernel
theorem al_fttft : (allw 4 fun w => blaw (true :: false :: true :: w) false true) = true := by decide +kernel
theorem al_ftttf : (allw 4 fun w => blaw (true :: true :: false :: w) false true) = true := by decide +kernel
theorem al_ftttt : (allw 4 fun w => blaw (true :: true :: true :: w) false true) = true := by decide +kernel
theorem al_tffff : (allw 4 fun w => blaw (false :: false :: false :: w) true false) = true := by decide +kernel
theorem al_tffft : (allw 4 fun w => blaw (false :: false :: true :: w) true false) = true := by decide +kernel
theorem al_tfftf : (allw 4 fun w => blaw (false :: true :: false :: w) true false) = true := by decide +kernel
theorem al_tfftt : (allw 4 fun w => blaw (false :: true :: true :: w) true false) = true := by decide +kernel
theorem al_tftff : (allw 4 fun w => blaw (true :: false :: false :: w) true false) = true := by decide +kernel
theorem al_tftft : (allw 4 fun w => blaw (true :: false :: true :: w) true false) = true := by decide +kernel
theorem al_tfttf : (allw 4 fun w => blaw (true :: true :: false :: w) true false) = true := by decide +kernel
theorem al_tfttt : (allw 4 fun w => blaw (true :: true :: true :: w) true false) = true := by decide +kernel
theorem al_ttfff : (allw 4 fun w => blaw (false :: false :: false :: w) true true) = true := by decide +kernel
theorem al_ttfft : (allw 4 fun w => blaw (false :: false :: true :: w) true true) = true := by decide +kernel
theorem al_ttftf : (allw 4 fun w => blaw (false :: true :: false :: w) true true) = true := by decide +kernel
theorem al_ttftt : (allw 4 fun w => blaw (false :: true :: true :: w) true true) = true := by decide +kernel
theorem al_tttff : (allw 4 fun w => blaw (true :: false :: false :: w) true true) = true := by decide +kernel
theorem al_tttft : (allw 4 fun w => blaw (true :: false :: true :: w) true true) = true := by decide +kernel
theorem al_ttttf : (allw 4 fun w => blaw (true :: true :: false :: w) true true) = true := by decide +kernel
theorem al_ttttt : (allw 4 fun w => blaw (true :: true :: true :: w) true true) = true := by decide +kernel

theorem blaw_all : ∀ (w : List Bool) (a b : Bool), w.length = 7 → blaw w a b = true
  | x :: y :: z :: w, a, b, h => by
    have hw : w.length = 4 := by simpa using h
    cases a <;> cases b <;> cases x <;> cases y <;> cases z
    · exact allw_all 4 _ al_fffff w hw
    · exact allw_all 4 _ al_fffft w hw
    · exact allw_all 4 _ al_ffftf w hw
    · exact allw_all 4 _ al_ffftt w hw
    · exact allw_all 4 _ al_fftff w hw
    · exact allw_all 4 _ al_fftft w hw
    · exact allw_all 4 _ al_ffttf w hw
    · exact allw_all 4 _ al_ffttt w hw
    · exact allw_all 4 _ al_ftfff w hw
    · exact allw_all 4 _ al_ftfft w hw
    · exact allw_all 4 _ al_ftftf w hw
    · exact allw_all 4 _ al_ftftt w hw
    · exact allw_all 4 _ al_fttff w hw
    · exact allw_all 4 _ al_fttft w hw
    · exact allw_all 4 _ al_ftttf w hw
    · exact allw_all 4 _ al_ftttt w hw
    · exact allw_all 4 _ al_tffff w hw
    · exact allw_all 4 _ al_tffft w hw
    · exact allw_all 4 _ al_tfftf w hw
    · exact allw_all 4 _ al_tfftt w hw
    · exact allw_all 4 _ al_tftff w hw
    · exact allw_all 4 _ al_tftft w hw
    · exact allw_all 4 _ al_tfttf w hw
    · exact allw_all 4 _ al_tfttt w hw
    · exact allw_all 4 _ al_ttfff w hw
    · exact allw_all 4 _ al_ttfft w hw
    · exact allw_all 4 _ al_ttftf w hw
    · exact allw_all 4 _ al_ttftt w hw
    · exact allw_all 4 _ al_tttff w hw
    · exact allw_all 4 _ al_tttft w hw
    · exact allw_all 4 _ al_ttttf w hw
    · exact allw_all 4 _ al_ttttt w hw

theorem sum_nonneg : ∀ l : List Int, (∀ x ∈ l, 0 ≤ x) → 0 ≤ l.sum
  | [], _ => Int.le_refl _
  | x :: r, h => by
    rw [List.sum_cons]
    have := sum_nonneg r fun y hy => h y (List.mem_cons_of_mem _ hy)
    have := h x List.mem_cons_self
    omega
theorem nums_nonneg (sc : List Int) : ∀ x ∈ numsL sc, 0 ≤ x := fun x hx => by
  unfold numsL at hx
  rcases List.mem_append.mp hx with hx | hx
  · obtain ⟨y, _, rfl⟩ := List.mem_map.mp hx
    exact Int.fmod_nonneg_of_pos y (by decide)
  · have := List.mem_of_mem_drop hx
    simp only [List.mem_cons, List.not_mem_nil, or_false] at this
    omega
theorem lo_hi (tt : Nat) : loL tt < hiL tt ∧ hiL tt < 1000 ∧ loL tt ≠ 46 ∧ hiL tt ≠ 46 := by
  have h1 : tt % 5 < 5 := Nat.mod_lt _ (by decide)
  have h2 : tt % 5 < hiIx tt := by unfold hiIx; omega
  have h3 := hiIx_lt tt
  unfold loL hiL
  generalize tt % 5 = i at *
  generalize hiIx tt = j at *
  have key : ∀ i, i < 5 → ∀ j, j < 6 → i < j → sgnL.getD i 0 < sgnL.getD j 0 ∧ sgnL.getD j 0 < 1000 ∧ sgnL.getD i 0 ≠ 46 ∧ sgnL.getD j 0 ≠ 46 := by decide
  exact key i h1 j h3 h2
theorem pure1 (sc : List Int) : ∃ tt : Nat, (numsL sc).sum = (tt : Int) ∧ loL tt < 1000 ∧ hiL tt < 1000 ∧ loL tt ≠ 46 ∧ hiL tt ≠ 46 ∧ Pure1 (loL tt) (hiL tt) (numsL sc) := by
  have h0 := sum_nonneg _ (nums_nonneg sc)
  obtain ⟨l1, l2, l3, l4⟩ := lo_hi (numsL sc).sum.toNat
  refine ⟨(numsL sc).sum.toNat, by omega, by omega, l2, l3, l4, pure_of l1 l2 (numsL_len sc) ?_⟩
  exact blaw_all _ _ _ (by rw [List.length_map, List.length_take, numsL_len]; rfl)
end Mine
end

theorem PySem.Challenge.cw_pe0095_01_holds : PySem.Challenge.rw_pe0095_01.Holds :=
  Mine.joinLaw Mine.pure1
