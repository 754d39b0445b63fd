import PyProof.Rows.All
import Wide.All
import OpenK.AllK
import Wide.FinOn
import KE.KPairComp
import KE.KRevIter
import KE.KNest
import KE.BitLaws
import KE.KEqDict
import KE.KLam
import KE.KSortTup
import KE.KNestM
import PySem.Challenge.RW_ph0169_01
open PySem PySem.W PyProof.Rows PySem.Calls
set_option Elab.async false
set_option linter.unusedVariables false
set_option linter.unusedSimpArgs false
/-! PI0 -/
namespace Mine

/-! Pure values, and how a heap bears them. G: the part of the heap that is never written again. -/
noncomputable abbrev PO := Addr → Option Obj

inductive V where
  | none | bool (b : Bool) | int (n : Int) | str (s : Str)
  | list (l : List V) | tup (l : List V) | dict (ks : List Int) (vs : List V)
  | inst (C : Addr) (fs : List Str) (vs : List V)
  | fn (ps : Arguments) (b : FuncBody) (sc : Scope) (cl : List (Str × Addr)) (q : Str)
  | raw (v : Value)

structure Wd where
  prog : Program
  w : World
  h₀ : Heap
  mg : Str → Option Value
  mb : Str → Option Value
  ti : List (Addr × Pos × Str)

noncomputable def Wd.tabs (D : Wd) : List Addr := D.ti.map (·.1)

noncomputable def ListP (G : PO) (a : Addr) (vs : List Value) : Prop := ∃ n, G a = some { cls := .type "list", data := .seq vs.toArray n }
noncomputable def TupP (G : PO) (a : Addr) (vs : List Value) : Prop := ∃ n, G a = some { cls := .type "tuple", data := .seq vs.toArray n }
noncomputable def DictP (D : Wd) (G : PO) (a : Addr) (kvs : List (Int × Value)) : Prop :=
  ∃ o es ep, G a = some o ∧ o.ExactDict ∧ o.data = .dict es ep ∧ PySem.KeysOf (PySem.intKind D.prog D.w) es ∧ PySem.Pairs (PySem.intKind D.prog D.w) es.toList kvs ∧ (kvs.map (·.1)).Nodup
noncomputable def InstP (G : PO) (x C : Addr) (fs : List Str) (us : List Value) : Prop :=
  ∃ dx es n, G x = some (instObj C dx) ∧ G dx = some (dictOf es n) ∧ es.length ≤ 1000 ∧ (∀ f, f ∉ fs → getL f es = some none) ∧
    ∀ (i : Nat) (f : Str) (u : Value), fs[i]? = some f → us[i]? = some u → getL f es = some (some u)

noncomputable def FnP (G : PO) (f : Addr) (ps : Arguments) (b : FuncBody) (sc : Scope) (cl : List (Str × Addr)) (q : Str) : Prop :=
  ∃ o fd, G f = some o ∧ o.data = .func fd ∧ fd.params = ps ∧ fd.body = b ∧ fd.scope = sc ∧ fd.closure = cl ∧ fd.qualname = q ∧ fd.globals = mainGlobals ∧ fd.builtins = builtinsNs ∧ fd.defaults = .none ∧ fd.kwdefaults = .none ∧
    ∃ c' oc vs t, fd.code = .ref c' ∧ G c' = some oc ∧ oc.data = .fields vs ∧ vs[1]? = some (.str q t)

mutual
noncomputable def VR (D : Wd) (G : PO) : V → Value → Prop
  | .none, v => v = .none
  | .bool b, v => v = .bool b
  | .int n, v => ∃ t, v = .int n t
  | .str x, v => ∃ t, v = .str x t
  | .list l, v => ∃ a us, v = .ref a ∧ ListP G a us ∧ VRs D G l us
  | .tup l, v => ∃ a us, v = .ref a ∧ TupP G a us ∧ VRs D G l us
  | .dict ks l, v => ∃ a us, v = .ref a ∧ a ≠ sysModules ∧ ks.length = us.length ∧ DictP D G a (ks.zip us) ∧ VRs D G l us
  | .fn ps b sc cl q, v => ∃ f, v = .ref f ∧ FnP G f ps b sc cl q
  | .raw u, v => v = u
  | .inst C fs l, v => ∃ x us, v = .ref x ∧ fs.length = us.length ∧ InstP G x C fs us ∧ VRs D G l us
noncomputable def VRs (D : Wd) (G : PO) : List V → List Value → Prop
  | [], us => us = []
  | x :: l, us => ∃ u r, us = u :: r ∧ VR D G x u ∧ VRs D G l r
end

noncomputable def PO.le (G G' : PO) : Prop := ∀ b o, G b = some o → G' b = some o

section
variable {D : Wd} {G G' : PO}
theorem ListP.mono (h : G.le G') {a us} (x : ListP G a us) : ListP G' a us := let ⟨n, e⟩ := x; ⟨n, h _ _ e⟩
theorem TupP.mono (h : G.le G') {a us} (x : TupP G a us) : TupP G' a us := let ⟨n, e⟩ := x; ⟨n, h _ _ e⟩
theorem DictP.mono (h : G.le G') {a us} (x : DictP D G a us) : DictP D G' a us := let ⟨o, es, ep, e, r⟩ := x; ⟨o, es, ep, h _ _ e, r⟩
theorem FnP.mono (h : G.le G') {f ps b sc cl q} (x : FnP G f ps b sc cl q) : FnP G' f ps b sc cl q :=
  let ⟨o, fd, e, d, a1, a2, a3, a4, a5, a6, a7, a8, a9, c', oc, vs, t, b1, b2, b3, b4⟩ := x; ⟨o, fd, h _ _ e, d, a1, a2, a3, a4, a5, a6, a7, a8, a9, c', oc, vs, t, b1, h _ _ b2, b3, b4⟩
theorem InstP.mono (h : G.le G') {x C fs us} (y : InstP G x C fs us) : InstP G' x C fs us := let ⟨dx, es, n, e, e', r⟩ := y; ⟨dx, es, n, h _ _ e, h _ _ e', r⟩
mutual
theorem VR.mono (h : G.le G') : ∀ {a : V} {v : Value}, VR D G a v → VR D G' a v
  | .none, _, x => x
  | .bool _, _, x => x
  | .int _, _, x => x
  | .str _, _, x => x
  | .list _, _, x => by
    unfold VR at x ⊢
    obtain ⟨a, us, e, y, z⟩ := x; exact ⟨a, us, e, y.mono h, VRs.mono h z⟩
  | .tup _, _, x => by
    unfold VR at x ⊢
    obtain ⟨a, us, e, y, z⟩ := x; exact ⟨a, us, e, y.mono h, VRs.mono h z⟩
  | .dict _ _, _, x => by
    unfold VR at x ⊢
    obtain ⟨a, us, e, e', el, y, z⟩ := x; exact ⟨a, us, e, e', el, y.mono h, VRs.mono h z⟩
  | .raw _, _, x => x
  | .fn _ _ _ _ _, _, x => by
    unfold VR at x ⊢
    obtain ⟨f, e, y⟩ := x; exact ⟨f, e, y.mono h⟩
  | .inst _ _ _, _, x => by
    unfold VR at x ⊢
    obtain ⟨a, us, e, el, y, z⟩ := x; exact ⟨a, us, e, el, y.mono h, VRs.mono h z⟩
theorem VRs.mono (h : G.le G') : ∀ {l : List V} {us : List Value}, VRs D G l us → VRs D G' l us
  | [], _, x => by unfold VRs at x ⊢; exact x
  | _ :: _, _, x => by
    unfold VRs at x ⊢
    obtain ⟨u, r, e, y, z⟩ := x; exact ⟨u, r, e, VR.mono h y, VRs.mono h z⟩
end
theorem VRs.nil : VRs D G [] [] := by unfold VRs; rfl
theorem VRs.cons {x l u r} (h : VR D G x u) (t : VRs D G l r) : VRs D G (x :: l) (u :: r) := by unfold VRs; exact ⟨u, r, rfl, h, t⟩
theorem VRs.length : ∀ {l : List V} {us : List Value}, VRs D G l us → l.length = us.length
  | [], _, x => by unfold VRs at x; subst x; rfl
  | _ :: _, _, x => by
    unfold VRs at x
    obtain ⟨u, r, e, _, z⟩ := x; subst e; simp [VRs.length z]
theorem VRs.get : ∀ {l : List V} {us : List Value} {i : Nat} {a : V}, VRs D G l us → l[i]? = some a → ∃ u, us[i]? = some u ∧ VR D G a u
  | [], _, _, _, _, e => by simp at e
  | x :: l, _, i, a, h, e => by
    unfold VRs at h
    obtain ⟨u, r, rfl, y, z⟩ := h
    cases i with
    | zero => simp at e; subst e; exact ⟨u, by simp, y⟩
    | succ i => simp at e; obtain ⟨w, e', y'⟩ := VRs.get z e; exact ⟨w, by simpa using e', y'⟩
theorem VRs.append : ∀ {l l' : List V} {us us' : List Value}, VRs D G l us → VRs D G l' us' → VRs D G (l ++ l') (us ++ us')
  | [], _, _, _, x, y => by unfold VRs at x; subst x; exact y
  | _ :: _, _, _, _, x, y => by
    unfold VRs at x
    obtain ⟨u, r, rfl, a, z⟩ := x; exact VRs.cons a (VRs.append z y)
theorem VRs.drop : ∀ {l : List V} {us : List Value} (i : Nat), VRs D G l us → VRs D G (l.drop i) (us.drop i)
  | _, _, 0, x => by simpa using x
  | [], _, i + 1, x => by unfold VRs at x; subst x; simpa using VRs.nil
  | _ :: _, _, i + 1, x => by
    unfold VRs at x
    obtain ⟨u, r, rfl, a, z⟩ := x; simpa using VRs.drop i z
theorem VRs.take : ∀ {l : List V} {us : List Value} (i : Nat), VRs D G l us → VRs D G (l.take i) (us.take i)
  | _, _, 0, x => by simpa using VRs.nil
  | [], _, i + 1, x => by unfold VRs at x; subst x; simpa using VRs.nil
  | _ :: _, _, i + 1, x => by
    unfold VRs at x
    obtain ⟨u, r, rfl, a, z⟩ := x; simpa using VRs.cons a (VRs.take i z)
theorem VRs.reverse : ∀ {l : List V} {us : List Value}, VRs D G l us → VRs D G l.reverse us.reverse
  | [], _, x => by unfold VRs at x; subst x; simpa using VRs.nil
  | _ :: _, _, x => by
    unfold VRs at x
    obtain ⟨u, r, rfl, a, z⟩ := x; simpa using VRs.append (VRs.reverse z) (VRs.cons a VRs.nil)
theorem VRs.set : ∀ {l : List V} {us : List Value} {a : V} {u : Value} (i : Nat), VRs D G l us → VR D G a u → VRs D G (l.set i a) (us.set i u)
  | [], _, _, _, _, x, _ => by unfold VRs at x; subst x; simpa using VRs.nil
  | _ :: _, _, a, u, 0, x, y => by
    unfold VRs at x
    obtain ⟨u, r, rfl, b, z⟩ := x; simpa using VRs.cons y z
  | _ :: _, _, a, u, i + 1, x, y => by
    unfold VRs at x
    obtain ⟨u, r, rfl, b, z⟩ := x; simpa using VRs.cons b (VRs.set i z y)
theorem VRs.ints : ∀ {ns : List Int} {us : List Value}, VRs D G (ns.map V.int) us → IntsAre us ns
  | [], us, x => by unfold VRs at x; subst x; exact IntsAre.nil
  | n :: ns, us, x => by
    unfold VRs at x
    obtain ⟨u, r, rfl, a, z⟩ := x
    unfold VR at a
    obtain ⟨t, rfl⟩ := a
    exact IntsAre.cons _ _ (VRs.ints z)
theorem VRs.of_ints : ∀ {ns : List Int} {us : List Value}, IntsAre us ns → VRs D G (ns.map V.int) us
  | [], us, x => by cases x; exact VRs.nil
  | n :: ns, us, x => by
    cases x with
    | cons _ t h => exact VRs.cons (by unfold VR; exact ⟨_, rfl⟩) (VRs.of_ints h)
end

/-! The tables of the makers' code objects: each empty, or with the one entry that its inner def leaves there. -/
noncomputable def TabOK (D : Wd) (G : PO) (h : Heap) : Prop :=
  ∀ q ∈ D.ti, G q.1 = none ∧ ∃ ps, h.get? q.1 = some (tabObj ps) ∧
    (ps = #[] ∨ ∃ c' oc vs t, ps = #[rawInt q.2.1.line, rawInt q.2.1.col, .ref c'] ∧ G c' = some oc ∧ oc.data = .fields vs ∧ vs[1]? = some (.str q.2.2 t))

structure GOK (D : Wd) (G : PO) (s : Shared) : Prop where
  base : ∀ b o, D.h₀.get? b = some o → G b = some o
  sub : ∀ b o, G b = some o → s.heap.get? b = some o
  tabs : TabOK D G s.heap

structure Ext (W : List Addr) (G : PO) (s : Shared) (G' : PO) (s' : Shared) : Prop where
  same : ∃ h' tk, s' = { s with heap := h', toks := tk }
  le : G.le G'
  fresh : ∀ b, G b = none → G' b ≠ none → s.heap.get? b = none
  keep : ∀ b o, b ∉ W → s.heap.get? b = some o → s'.heap.get? b = some o

section
variable {D : Wd} {W W' : List Addr} {G G' G₁ G₂ G₃ : PO} {s s' s₁ s₂ s₃ : Shared}
theorem GOK.base' (x : GOK D G s) : ∀ b o, D.h₀.get? b = some o → s.heap.get? b = some o := fun b o e => x.sub b o (x.base b o e)
theorem Ext.refl (W : List Addr) (G : PO) (s : Shared) : Ext W G s G s := ⟨⟨s.heap, s.toks, rfl⟩, fun _ _ e => e, fun _ h h' => absurd h h', fun _ _ _ e => e⟩
theorem Ext.trans (x : Ext W G₁ s₁ G₂ s₂) (y : Ext W G₂ s₂ G₃ s₃) (hW : ∀ b ∈ W, ∀ o, s₁.heap.get? b = some o → ∃ o', s₂.heap.get? b = some o') : Ext W G₁ s₁ G₃ s₃ := by
  obtain ⟨h', tk, rfl⟩ := x.same
  obtain ⟨h'', tk', rfl⟩ := y.same
  refine ⟨⟨h'', tk', rfl⟩, fun b o e => y.le b o (x.le b o e), fun b n n' => ?_, fun b o hb e => y.keep b o hb (x.keep b o hb e)⟩
  cases e : G₂ b with
  | some o => exact x.fresh b n (by rw [e]; simp)
  | none =>
    have z := y.fresh b e n'
    cases q : s₁.heap.get? b with
    | none => rfl
    | some o =>
      by_cases hb : b ∈ W
      · obtain ⟨o', e'⟩ := hW b hb o q; rw [e'] at z; cases z
      · rw [x.keep b o hb q] at z; cases z
theorem Ext.weaken (x : Ext W G s G' s') (h : ∀ b ∈ W, b ∈ W') : Ext W' G s G' s' := ⟨x.same, x.le, x.fresh, fun b o hb e => x.keep b o (fun q => hb (h b q)) e⟩
theorem Ext.then (x : Ext D.tabs G₁ s₁ G₂ s₂) (g : GOK D G₂ s₂) (y : Ext D.tabs G₂ s₂ G₃ s₃) : Ext D.tabs G₁ s₁ G₃ s₃ :=
  x.trans y fun b hb _ _ => by
    obtain ⟨q, hq, rfl⟩ := List.mem_map.mp hb
    obtain ⟨_, ps, e, _⟩ := g.tabs q hq
    exact ⟨_, e⟩
theorem GOK.notab (g : GOK D G s) {b : Addr} (hb : b ∈ D.tabs) : G b = none := by
  obtain ⟨q, hq, rfl⟩ := List.mem_map.mp hb
  exact (g.tabs q hq).1
theorem GOK.alive (g : GOK D G s) {b : Addr} (hb : b ∈ D.tabs) : s.heap.get? b ≠ none := by
  obtain ⟨q, hq, rfl⟩ := List.mem_map.mp hb
  obtain ⟨_, ps, e, _⟩ := g.tabs q hq
  rw [e]; simp
theorem Ext.tok (G : PO) (s : Shared) (n : Nat) : Ext W G s G { s with toks := n } := ⟨⟨s.heap, n, rfl⟩, fun _ _ e => e, fun _ h h' => absurd h h', fun _ _ _ e => e⟩
theorem GOK.tok (g : GOK D G s) (n : Nat) : GOK D G { s with toks := n } := ⟨g.base, g.sub, g.tabs⟩
noncomputable def PO.add (G : PO) (a : Addr) (o : Obj) : PO := fun b => if b = a then some o else G b
theorem PO.add_self (G : PO) (a : Addr) (o : Obj) : G.add a o a = some o := by simp [PO.add]
theorem GOK.none_size (g : GOK D G s) : G s.heap.objs.size = none := by
  cases e : G s.heap.objs.size with
  | none => rfl
  | some o => exact absurd (Heap.lt_size (g.sub _ _ e)) (Nat.lt_irrefl _)
theorem PO.le_add {a : Addr} {o : Obj} (h : G a = none) : G.le (G.add a o) := fun b o' e => by
  unfold PO.add
  by_cases q : b = a
  · subst q; rw [h] at e; cases e
  · rw [if_neg q]; exact e
theorem TabOK.mono {h h' : Heap} (x : TabOK D G h) (le : G.le G') (n : ∀ b ∈ D.tabs, G' b = none) (k : ∀ b ∈ D.tabs, h'.get? b = h.get? b) : TabOK D G' h' := fun q hq => by
  obtain ⟨a, ps, e, r⟩ := x q hq
  have hm : q.1 ∈ D.tabs := List.mem_map_of_mem hq
  refine ⟨n _ hm, ps, (k _ hm).trans e, ?_⟩
  rcases r with r | ⟨c', oc, vs, t, r1, r2, r3⟩
  · exact .inl r
  · exact .inr ⟨c', oc, vs, t, r1, le _ _ r2, r3⟩
theorem GOK.push_frozen (g : GOK D G s) {o : Obj} {n : Nat} (hf : o.isFreed = false) : GOK D (G.add s.heap.objs.size o) { s with heap := s.heap.push o, toks := n } ∧ Ext D.tabs G s (G.add s.heap.objs.size o) { s with heap := s.heap.push o, toks := n } := by
  have hn := g.none_size
  have le := PO.le_add (o := o) hn
  have tabne : ∀ b ∈ D.tabs, b ≠ s.heap.objs.size := fun b hb q => by
    have := g.alive hb
    cases e : s.heap.get? b with
    | none => exact this e
    | some o' => rw [q] at e; exact Nat.lt_irrefl _ (Heap.lt_size e)
  refine ⟨⟨fun b o' e => le b o' (g.base b o' e), fun b o' e => ?_, g.tabs.mono le (fun b hb => ?_) fun b hb => ?_⟩, ⟨⟨_, _, rfl⟩, le, fun b h1 h2 => ?_, fun b o' _ e => Heap.get?_push_of_some _ e⟩⟩
  · unfold PO.add at e
    by_cases q : b = s.heap.objs.size
    · rw [if_pos q] at e; cases e; rw [q]; exact Heap.get?_push_size _ hf
    · rw [if_neg q] at e; exact Heap.get?_push_of_some _ (g.sub b o' e)
  · unfold PO.add; rw [if_neg (tabne b hb)]; exact g.notab hb
  · cases e : s.heap.get? b with
    | none => exact absurd e (g.alive hb)
    | some o' => exact Heap.get?_push_of_some _ e
  · unfold PO.add at h2
    by_cases q : b = s.heap.objs.size
    · subst q
      cases e : s.heap.get? s.heap.objs.size with
      | none => rfl
      | some o' => exact absurd (Heap.lt_size e) (Nat.lt_irrefl _)
    · rw [if_neg q] at h2; exact absurd h1 h2
end
end Mine
/-! PI1 -/
namespace Mine

inductive Slot where
  | val (a : V)   -- bears a frozen value
  | own (a : V)   -- bears the one reference to a list or dict that this frame may still write
inductive VK where
  | loc | own | ext
  deriving DecidableEq

structure Cx (D : Wd) where
  A : Around
  env : Env
  names : List Str
  kinds : List VK
  G0 : PO
  s0 : Shared

noncomputable def OwnR (D : Wd) (G : PO) (h : Heap) (d : Addr) : V → Prop
  | .list l => ∃ us, VRs D G l us ∧ ∃ n, h.get? d = some { cls := .type "list", data := .seq us.toArray n }
  | .dict ks l => ∃ us, ks.length = us.length ∧ VRs D G l us ∧ DictP D h.get? d (ks.zip us)
  | _ => False

noncomputable def SlotR {D : Wd} (c : Cx D) (G : PO) (h : Heap) : Slot → Value → Prop
  | .val a, v => VR D G a v
  | .own a, v => ∃ d, v = .ref d ∧ G d = none ∧ c.s0.heap.get? d = none ∧ d ≠ c.env.locals ∧ d ≠ sysModules ∧ OwnR D G h d a

noncomputable abbrev Ro := List (Option Slot)

structure Wf {D : Wd} (c : Cx D) : Prop where
  fn : c.env.scope.kind = .function
  glob : c.env.globals = mainGlobals
  bui : c.env.builtins = builtinsNs
  hand : c.A.handled = none
  nodup : c.names.Nodup
  kloc : ∀ (i : Nat) (x : Str), c.names[i]? = some x → c.kinds[i]? = some .loc → c.env.kindOf x = some .local
  kown : ∀ (i : Nat) (x : Str), c.names[i]? = some x → c.kinds[i]? = some .own → c.env.kindOf x = some .cell
  kext : ∀ (i : Nat) (x : Str), c.names[i]? = some x → c.kinds[i]? = some .ext → c.env.kindOf x = some .cell ∨ c.env.kindOf x = some .free
  kall : ∀ (i : Nat) (x : Str), c.names[i]? = some x → ∃ k, c.kinds[i]? = some k
  plain : ∀ (i : Nat) (x : Str), c.names[i]? = some x → (x == ("__debug__" : Str)) = false ∧ (x == ("__classdict__" : Str)) = false

structure St {D : Wd} (c : Cx D) (ρ : Ro) (G : PO) (s : Shared) : Prop where
  wf : Wf c
  ext : Ext D.tabs c.G0 c.s0 G s
  ok : GOK D G s
  newL : c.s0.heap.get? c.env.locals = none
  offL : G c.env.locals = none
  loc : ∃ m, s.heap.Ns c.env.locals m ∧ ∀ (i : Nat) (x : Str) sl, c.names[i]? = some x → c.kinds[i]? = some .loc → ρ[i]? = some (some sl) → ∃ v, m x = some v ∧ SlotR c G s.heap sl v
  cel : ∀ (i : Nat) (x : Str) k, c.names[i]? = some x → c.kinds[i]? = some k → k ≠ .loc → ∃ a v0, c.env.cells.lookup x = some a ∧ s.heap.IsCell a v0 ∧
    (k = .own → c.s0.heap.get? a = none ∧ G a = none) ∧ ∀ sl, ρ[i]? = some (some sl) → ∃ v, v0 = some v ∧ SlotR c G s.heap sl v
  apart : ∀ (i j : Nat) (x y : Str) (a : Addr) (k : VK), c.names[i]? = some x → c.names[j]? = some y → c.kinds[i]? = some .own → c.kinds[j]? = some k → k ≠ .loc → c.env.cells.lookup x = some a → c.env.cells.lookup y = some a → i = j

noncomputable abbrev Post (D : Wd) (G : PO) (s : Shared) (a : V) (v : Value) (s' : Shared) : Prop := ∃ G', Ext D.tabs G s G' s' ∧ GOK D G' s' ∧ VR D G' a v
noncomputable abbrev PostB (D : Wd) (G : PO) (s : Shared) (b : Bool) (r : Bool) (s' : Shared) : Prop := ∃ G', Ext D.tabs G s G' s' ∧ GOK D G' s' ∧ r = b
noncomputable abbrev PostL (D : Wd) (G : PO) (s : Shared) (l : List V) (vs : List Value) (s' : Shared) : Prop := ∃ G', Ext D.tabs G s G' s' ∧ GOK D G' s' ∧ VRs D G' l vs

noncomputable abbrev Wd.M (D : Wd) : Model := model D.prog D.w

structure Box (p : Prop) : Prop where
  run : p
noncomputable def Ev {D : Wd} (c : Cx D) (ρ : Ro) (e : Expr) (a : V) : Prop :=
  Box (∀ G s E, St c ρ G s → wpAny D.M c.A (eval e c.env) (Post D G s a) E s)
noncomputable def Tst {D : Wd} (c : Cx D) (ρ : Ro) (e : Expr) (b : Bool) : Prop :=
  Box (∀ G s E, St c ρ G s → wpAny D.M c.A (isTrue e c.env (eval e c.env)) (PostB D G s b) E s)

section
variable {D : Wd} {c : Cx D} {ρ : Ro} {G G' G₁ G₂ G₃ : PO} {s s' s₁ s₂ s₃ : Shared} {h h' : Heap}

theorem OwnR.step {d : Addr} {a : V} (le : G.le G') (hk : ∀ o, h.get? d = some o → h'.get? d = some o) (x : OwnR D G h d a) : OwnR D G' h' d a := by
  unfold OwnR at x ⊢
  split at x
  · obtain ⟨us, y, n, e⟩ := x; exact ⟨us, y.mono le, n, hk _ e⟩
  · obtain ⟨us, el, y, o, es, ep, e, r⟩ := x; exact ⟨us, el, y.mono le, o, es, ep, hk _ e, r⟩
  · exact x
theorem SlotR.step {sl : Slot} {v : Value} (le : G.le G') (fr : ∀ b, G b = none → G' b ≠ none → h.get? b = none) (hk : ∀ b o, h.get? b = some o → G b = none → c.s0.heap.get? b = none → b ≠ c.env.locals → (∀ x, o.data ≠ .cell x) → h'.get? b = some o) (x : SlotR c G h sl v) : SlotR c G' h' sl v := by
  unfold SlotR at x ⊢
  split at x
  · exact x.mono le
  · rename_i a
    obtain ⟨d, rfl, g, n, l, sm, o⟩ := x
    have al : h.get? d ≠ none := by
      unfold OwnR at o
      split at o
      · obtain ⟨us, y, n, e⟩ := o; rw [e]; simp
      · obtain ⟨us, el, y, o, es, ep, e, r⟩ := o; rw [e]; simp
      · exact o.elim
    refine ⟨d, rfl, ?_, n, l, sm, o.step le fun ob e => hk d ob e g n l ?_⟩
    · cases q : G' d with
      | none => rfl
      | some _ => exact absurd (fr d g (by rw [q]; simp)) al
    · unfold OwnR at o
      split at o
      · obtain ⟨us, y, n, e'⟩ := o; rw [e] at e'; cases e'; intro x q; cases q
      · obtain ⟨us, el, y, o, es, ep, e', r, rd, _⟩ := o
        rw [e] at e'; cases e'; rw [rd]; intro x q; cases q
      · exact o.elim

theorem GOK.notTab (g : GOK D G s) {b : Addr} {o : Obj} (e : s.heap.get? b = some o) (hn : ∀ vs, o.data ≠ .fields vs) : b ∉ D.tabs := fun hb => by
  obtain ⟨q, hq, rfl⟩ := List.mem_map.mp hb
  obtain ⟨_, ps, e', _⟩ := g.tabs q hq
  rw [e] at e'; cases e'; exact hn ps rfl
theorem OwnR.data {d : Addr} {a : V} (x : OwnR D G h d a) : ∃ o, h.get? d = some o ∧ (∀ vs, o.data ≠ .fields vs) ∧ (∀ v, o.data ≠ .cell v) := by
  unfold OwnR at x
  split at x
  · obtain ⟨us, y, n, e⟩ := x; exact ⟨_, e, (fun _ q => by cases q), (fun _ q => by cases q)⟩
  · obtain ⟨us, el, y, o, es, ep, e, r, rd, _⟩ := x; exact ⟨_, e, (fun _ q => by rw [rd] at q; cases q), (fun _ q => by rw [rd] at q; cases q)⟩
  · exact x.elim
theorem SlotR.move (hl : G.le G') (fr : ∀ b, G b = none → G' b ≠ none → h.get? b = none) {sl : Slot} {v : Value}
    (hk : ∀ d o, G d = none → c.s0.heap.get? d = none → d ≠ c.env.locals → h.get? d = some o → (∀ vs, o.data ≠ .fields vs) → (∀ v, o.data ≠ .cell v) → h'.get? d = some o)
    (x : SlotR c G h sl v) : SlotR c G' h' sl v := by
  unfold SlotR at x ⊢
  split at x
  · exact x.mono hl
  · obtain ⟨d, rfl, g, n, l, sm, o⟩ := x
    obtain ⟨ob, e, n1, n2⟩ := o.data
    refine ⟨d, rfl, ?_, n, l, sm, o.step hl fun ob' e' => ?_⟩
    · cases q : G' d with
      | none => rfl
      | some _ => rw [fr d g (by rw [q]; simp)] at e; cases e
    · rw [e] at e'; cases e'; exact hk d ob g n l e n1 n2
theorem Heap.Ns.data {a : Addr} {m : Str → Option Value} (x : h.Ns a m) : ∃ o, h.get? a = some o ∧ (∀ vs, o.data ≠ .fields vs) ∧ (∀ v, o.data ≠ .cell v) :=
  let ⟨o, es, ep, e, d, _⟩ := x; ⟨o, e, (fun _ q => by rw [d] at q; cases q), (fun _ q => by rw [d] at q; cases q)⟩

theorem St.step (S : St c ρ G s) (x : Ext D.tabs G s G' s') (g : GOK D G' s') : St c ρ G' s' := by
  have kp : ∀ b o, s.heap.get? b = some o → (∀ vs, o.data ≠ .fields vs) → s'.heap.get? b = some o := fun b o e hn => x.keep b o (S.ok.notTab e hn) e
  have mv : ∀ {sl v}, SlotR c G s.heap sl v → SlotR c G' s'.heap sl v := fun y => y.move x.le x.fresh fun d o _ _ _ e n _ => kp d o e n
  obtain ⟨m, hm, hl⟩ := S.loc
  obtain ⟨oL, eL, nL, _⟩ := Heap.Ns.data hm
  have offL : G' c.env.locals = none := by
    cases q : G' c.env.locals with
    | none => rfl
    | some _ => rw [x.fresh _ S.offL (by rw [q]; simp)] at eL; cases eL
  refine ⟨S.wf, S.ext.then S.ok x, g, S.newL, offL, ⟨m, hm.at' fun o e => kp _ o e (by rw [eL] at e; cases e; exact nL), fun i y sl h1 h2 h3 => ?_⟩, fun i y k h1 h2 h3 => ?_, S.apart⟩
  · obtain ⟨v, e, r⟩ := hl i y sl h1 h2 h3
    exact ⟨v, e, mv r⟩
  · obtain ⟨a, v0, e1, e2, e3, e5⟩ := S.cel i y k h1 h2 h3
    obtain ⟨oc, ec, dc⟩ := e2
    have nf : ∀ vs, oc.data ≠ .fields vs := fun vs q => by rw [dc] at q; cases q
    refine ⟨a, v0, e1, ⟨oc, kp a oc ec nf, dc⟩, fun hk => ⟨(e3 hk).1, ?_⟩, fun sl h4 => ?_⟩
    · cases q : G' a with
      | none => rfl
      | some _ => rw [x.fresh _ (e3 hk).2 (by rw [q]; simp)] at ec; cases ec
    · obtain ⟨v, h5, r⟩ := e5 sl h4
      exact ⟨v, h5, mv r⟩

theorem Ev.mono {e : Expr} {a : V} {Q : Value → Shared → Prop} {E : Value → Shared → Prop} (x : Ev c ρ e a) (S : St c ρ G s) (h : ∀ v s' G', Ext D.tabs G s G' s' → GOK D G' s' → VR D G' a v → Q v s') : wpAny D.M c.A (eval e c.env) Q E s :=
  wpAny_mono (x.run G s E S) (fun v s' ⟨G', y, g, r⟩ => h v s' G' y g r) fun _ _ e => e

/-! ### names and constants -/
theorem Ev.name {i : Nat} {x : Str} {pos : Pos} {a : V} (hx : c.names[i]? = some x) (hr : ρ[i]? = some (some (.val a))) : Ev c ρ (.Name x pos) a := by
  refine .mk fun G s E S => ?_
  obtain ⟨k, hk⟩ := S.wf.kall i x hx
  have pl := S.wf.plain i x hx
  refine wpAny_Name ?_ pl.1
  by_cases hl : k = .loc
  · subst hl
    obtain ⟨m, hm, hv⟩ := S.loc
    obtain ⟨v, e, r⟩ := hv i x _ hx hk hr
    exact wpAny_loadName_local S.wf.fn (S.wf.kloc i x hx hk) hm e ⟨G, Ext.refl .., S.ok, r⟩
  · obtain ⟨ad, v0, e1, e2, _, e5⟩ := S.cel i x k hx hk hl
    obtain ⟨v, rfl, r⟩ := e5 _ hr
    have fin : Post D G s a v s := ⟨G, Ext.refl .., S.ok, r⟩
    cases k with
    | loc => exact absurd rfl hl
    | own => exact wpAny_loadName_cell S.wf.fn (S.wf.kown i x hx hk) e1 e2 fin
    | ext =>
      rcases S.wf.kext i x hx hk with q | q
      · exact wpAny_loadName_cell S.wf.fn q e1 e2 fin
      · exact wpAny_loadName_free S.wf.fn q e1 e2 fin pl.2
theorem Ev.int {n : Int} {k pos} : Ev c ρ (.Constant (.int n) k pos) (.int n) := .mk fun G s E S =>
  wpAny_Constant_int ⟨G, Ext.tok .., S.ok.tok _, by unfold VR; exact ⟨_, rfl⟩⟩
theorem Ev.str {x : Str} {k pos} : Ev c ρ (.Constant (.str x) k pos) (.str x) := .mk fun G s E S =>
  wpAny_Constant_str ⟨G, Ext.tok .., S.ok.tok _, by unfold VR; exact ⟨_, rfl⟩⟩
theorem Ev.bool {b : Bool} {k pos} : Ev c ρ (.Constant (.bool b) k pos) (.bool b) := .mk fun G s E S =>
  wpAny_Constant_bool ⟨G, Ext.refl .., S.ok, by unfold VR; rfl⟩

/-! ### operators -/
noncomputable def BinR (D : Wd) (op : Operator) (a b r : V) : Prop := ∀ A G s E u v, GOK D G s → VR D G a u → VR D G b v → wpAny D.M A (binaryOp op u v) (Post D G s r) E s
theorem Ev.bin {l r : Expr} {op : Operator} {pos : Pos} {a b z : V} (hl : Ev c ρ l a) (hr : Ev c ρ r b) (ho : BinR D op a b z) : Ev c ρ (.BinOp l op r pos) z := by
  refine .mk fun G s E S => ?_
  refine wpAny_BinOp (hl.mono S fun u s₁ G₁ x₁ g₁ r₁ => hr.mono (S.step x₁ g₁) fun v s₂ G₂ x₂ g₂ r₂ => ?_)
  refine wpAny_mono (ho c.A G₂ s₂ E u v g₂ (r₁.mono x₂.le) r₂) (fun z s' ⟨G', y, g, r⟩ => ⟨G', (x₁.then g₁ x₂).then g₂ y, g, r⟩) fun _ _ e => e
end
end Mine
/-! PI2 -/
namespace Mine
section
variable {D : Wd} {c : Cx D} {ρ : Ro} {G G' G₁ G₂ G₃ : PO} {s s' s₁ s₂ s₃ : Shared} {h h' : Heap}

theorem VR.int_iff {n : Int} {v : Value} : VR D G (.int n) v ↔ ∃ t, v = .int n t := by unfold VR; exact Iff.rfl
theorem VR.str_iff {n : Str} {v : Value} : VR D G (.str n) v ↔ ∃ t, v = .str n t := by unfold VR; exact Iff.rfl
theorem VR.bool_iff {n : Bool} {v : Value} : VR D G (.bool n) v ↔ v = .bool n := by unfold VR; exact Iff.rfl
theorem VR.raw_iff {u v : Value} : VR D G (.raw u) v ↔ v = u := by unfold VR; exact Iff.rfl
theorem VR.none_iff {v : Value} : VR D G .none v ↔ v = .none := by unfold VR; exact Iff.rfl
theorem VR.list_iff {l : List V} {v : Value} : VR D G (.list l) v ↔ ∃ a us, v = .ref a ∧ ListP G a us ∧ VRs D G l us := by conv => lhs; unfold VR
theorem VR.tup_iff {l : List V} {v : Value} : VR D G (.tup l) v ↔ ∃ a us, v = .ref a ∧ TupP G a us ∧ VRs D G l us := by conv => lhs; unfold VR
theorem VR.dict_iff {ks : List Int} {l : List V} {v : Value} : VR D G (.dict ks l) v ↔ ∃ a us, v = .ref a ∧ a ≠ sysModules ∧ ks.length = us.length ∧ DictP D G a (ks.zip us) ∧ VRs D G l us := by conv => lhs; unfold VR
theorem VR.fn_iff {ps : Arguments} {b : FuncBody} {sc : Scope} {cl : List (Str × Addr)} {q : Str} {v : Value} : VR D G (.fn ps b sc cl q) v ↔ ∃ f, v = .ref f ∧ FnP G f ps b sc cl q := by conv => lhs; unfold VR
theorem VR.inst_iff {C : Addr} {fs : List Str} {l : List V} {v : Value} : VR D G (.inst C fs l) v ↔ ∃ x us, v = .ref x ∧ fs.length = us.length ∧ InstP G x C fs us ∧ VRs D G l us := by conv => lhs; unfold VR

theorem Post.tokI {n : Int} {t : Tok} {k : Nat} (g : GOK D G s) : Post D G s (.int n) (.int n t) { s with toks := k } := ⟨G, Ext.tok .., g.tok _, VR.int_iff.mpr ⟨_, rfl⟩⟩
theorem Post.tokS {x : Str} {t : Tok} {k : Nat} (g : GOK D G s) : Post D G s (.str x) (.str x t) { s with toks := k } := ⟨G, Ext.tok .., g.tok _, VR.str_iff.mpr ⟨_, rfl⟩⟩
theorem Post.bool {b : Bool} (g : GOK D G s) : Post D G s (.bool b) (.bool b) s := ⟨G, Ext.refl .., g, VR.bool_iff.mpr rfl⟩

theorem Post.newList {l : List V} {us : List Value} {k : Nat} (g : GOK D G s) (h : VRs D G l us) (n : Nat := 0) : Post D G s (.list l) (.ref s.heap.objs.size) { s with heap := s.heap.push { cls := .type "list", data := .seq us.toArray n }, toks := k } :=
  let ⟨g', x⟩ := g.push_frozen (o := { cls := .type "list", data := .seq us.toArray n }) (n := k) rfl
  ⟨_, x, g', VR.list_iff.mpr ⟨_, us, rfl, ⟨n, PO.add_self ..⟩, h.mono x.le⟩⟩
theorem Post.newTup {l : List V} {us : List Value} {k : Nat} (g : GOK D G s) (h : VRs D G l us) (n : Nat := 0) : Post D G s (.tup l) (.ref s.heap.objs.size) { s with heap := s.heap.push { cls := .type "tuple", data := .seq us.toArray n }, toks := k } :=
  let ⟨g', x⟩ := g.push_frozen (o := { cls := .type "tuple", data := .seq us.toArray n }) (n := k) rfl
  ⟨_, x, g', VR.tup_iff.mpr ⟨_, us, rfl, ⟨n, PO.add_self ..⟩, h.mono x.le⟩⟩
theorem Post.after {a : V} {v : Value} {s₁ s₂ : Shared} (x : Ext D.tabs G s G₁ s₁) (g : GOK D G₁ s₁) (p : Post D G₁ s₁ a v s₂) : Post D G s a v s₂ :=
  let ⟨G', y, g', r⟩ := p; ⟨G', x.then g y, g', r⟩

/-! ### binary operators -/
theorem BinR.add {a b : Int} : BinR D .Add (.int a) (.int b) (.int (a + b)) := fun A G s E u v g hu hv => by
  obtain ⟨t, rfl⟩ := VR.int_iff.mp hu; obtain ⟨t', rfl⟩ := VR.int_iff.mp hv
  exact PyProof.Rows.add_int (.tokI g)
theorem BinR.sub {a b : Int} : BinR D .Sub (.int a) (.int b) (.int (a - b)) := fun A G s E u v g hu hv => by
  obtain ⟨t, rfl⟩ := VR.int_iff.mp hu; obtain ⟨t', rfl⟩ := VR.int_iff.mp hv
  exact PyProof.Rows.sub_int (.tokI g)
theorem BinR.mul {a b : Int} (hm : IntMulOk a b) : BinR D .Mult (.int a) (.int b) (.int (a * b)) := fun A G s E u v g hu hv => by
  obtain ⟨t, rfl⟩ := VR.int_iff.mp hu; obtain ⟨t', rfl⟩ := VR.int_iff.mp hv
  exact PyProof.Rows.mul_int (.tokI g) hm
theorem BinR.div {a b : Int} (hb : b ≠ 0) (hl : b.natAbs < 1073741824) : BinR D .FloorDiv (.int a) (.int b) (.int (a.fdiv b)) := fun A G s E u v g hu hv => by
  obtain ⟨t, rfl⟩ := VR.int_iff.mp hu; obtain ⟨t', rfl⟩ := VR.int_iff.mp hv
  exact PyProof.Rows.floordiv_int hb (.tokI g) (.inl (PyProof.noPylong_small hl))
theorem BinR.mod {a b : Int} (hb : b ≠ 0) : BinR D .Mod (.int a) (.int b) (.int (a.fmod b)) := fun A G s E u v g hu hv => by
  obtain ⟨t, rfl⟩ := VR.int_iff.mp hu; obtain ⟨t', rfl⟩ := VR.int_iff.mp hv
  exact PyProof.Rows.mod_int hb (.tokI g)
theorem BinR.pow {a b : Int} (hb : 0 ≤ b) (hs : (Builtin.Int.intBits a : Int) * b ≤ 2 ^ 27) : BinR D .Pow (.int a) (.int b) (.int (a ^ b.toNat)) := fun A G s E u v g hu hv => by
  obtain ⟨t, rfl⟩ := VR.int_iff.mp hu; obtain ⟨t', rfl⟩ := VR.int_iff.mp hv
  exact PyProof.Rows.pow_int hb hs (.tokI g)
theorem BinR.shl {a b : Int} (hb : 0 ≤ b) (hs : (Builtin.Int.intBits a : Int) + b ≤ 2 ^ 27) : BinR D .LShift (.int a) (.int b) (.int (a * 2 ^ b.toNat)) := fun A G s E u v g hu hv => by
  obtain ⟨t, rfl⟩ := VR.int_iff.mp hu; obtain ⟨t', rfl⟩ := VR.int_iff.mp hv
  exact PyProof.Rows.lshift_int hb hs (.tokI g)
theorem BinR.shr {a b : Int} (hb : 0 ≤ b) : BinR D .RShift (.int a) (.int b) (.int (a.fdiv (2 ^ b.toNat))) := fun A G s E u v g hu hv => by
  obtain ⟨t, rfl⟩ := VR.int_iff.mp hu; obtain ⟨t', rfl⟩ := VR.int_iff.mp hv
  exact PyProof.Rows.rshift_int hb (.tokI g)
theorem BinR.and {a b : Int} : BinR D .BitAnd (.int a) (.int b) (.int (Builtin.bitAnd a b)) := fun A G s E u v g hu hv => by
  obtain ⟨t, rfl⟩ := VR.int_iff.mp hu; obtain ⟨t', rfl⟩ := VR.int_iff.mp hv
  exact PyProof.Rows.and_int (.tokI g)
theorem BinR.xor {a b : Int} : BinR D .BitXor (.int a) (.int b) (.int (Builtin.bitXor a b)) := fun A G s E u v g hu hv => by
  obtain ⟨t, rfl⟩ := VR.int_iff.mp hu; obtain ⟨t', rfl⟩ := VR.int_iff.mp hv
  exact PyProof.Rows.xor_int (.tokI g)
theorem BinR.addStr {a b : Str} (hs : a.length + b.length ≤ sizeLine) : BinR D .Add (.str a) (.str b) (.str (a ++ b)) := fun A G s E u v g hu hv => by
  obtain ⟨t, rfl⟩ := VR.str_iff.mp hu; obtain ⟨t', rfl⟩ := VR.str_iff.mp hv
  exact PyProof.Rows.add_str (fun _ _ => .tokS g) hs
theorem BinR.mulStr {a : Str} {n : Int} (hs : MulOk a n) : BinR D .Mult (.str a) (.int n) (.str (Txt.mul a n)) := fun A G s E u v g hu hv => by
  obtain ⟨t, rfl⟩ := VR.str_iff.mp hu; obtain ⟨t', rfl⟩ := VR.int_iff.mp hv
  exact SB.mul hs (fun _ _ => .tokS g)
theorem BinR.addList {a b : List V} (hs : a.length + b.length ≤ sizeLine) : BinR D .Add (.list a) (.list b) (.list (a ++ b)) := fun A G s E u v g hu hv => by
  obtain ⟨l, us, rfl, ⟨n, e⟩, ha⟩ := VR.list_iff.mp hu; obtain ⟨b, ws, rfl, ⟨n', e'⟩, hb⟩ := VR.list_iff.mp hv
  have e := g.sub _ _ e
  have e' := g.sub _ _ e'
  refine concat_meets ⟨_, e, rfl⟩ ⟨_, e', rfl⟩ noFill_list_add seq_list_add PySem.F.slot_list_add PySem.F.entry_list_add (PySem.F.args_list_add_2 _ _) (list_addW l b us.toArray ws.toArray n n' none none #[] #[] (by simp [← ha.length, ← hb.length]; exact hs)) ⟨e, e', ?_⟩
  have q := Post.newList (k := s.toks) g (ha.append hb)
  rw [← List.append_toArray] at q
  exact q
theorem replicate_flat {α : Type} (us : List α) : ∀ n : Nat, List.foldl (fun x1 x2 => x1 ++ x2) #[] (List.replicate (if us.toArray.isEmpty = true then 0 else n) us.toArray) = (List.replicate n us).flatten.toArray := by
  intro n
  have key : ∀ (n : Nat) (acc : Array α), List.foldl (fun x1 x2 => x1 ++ x2) acc (List.replicate n us.toArray) = acc ++ (List.replicate n us).flatten.toArray := by
    intro n
    induction n with
    | zero => intro acc; simp
    | succ n ih => intro acc; rw [List.replicate_succ, List.foldl_cons, ih, List.replicate_succ, List.flatten_cons]; simp [Array.append_assoc]
  cases us with
  | nil => simp [List.flatten_replicate_nil]
  | cons u us => rw [if_neg (by simp), key]; simp
theorem VRs.replicate {l : List V} {us : List Value} (h : VRs D G l us) : ∀ n : Nat, VRs D G (List.replicate n l).flatten (List.replicate n us).flatten
  | 0 => by simpa using VRs.nil
  | n + 1 => by rw [List.replicate_succ, List.flatten_cons, List.replicate_succ, List.flatten_cons]; exact h.append (h.replicate n)
theorem BinR.mulList {a : List V} {n : Int} (hlo : 0 ≤ n) (hhi : n ≤ 100) (hs : a.length ≤ 100) : BinR D .Mult (.list a) (.int n) (.list (List.replicate n.toNat a).flatten) := fun A G s E u v g hu hv => by
  obtain ⟨l, us, rfl, ⟨k, e⟩, ha⟩ := VR.list_iff.mp hu; obtain ⟨t', rfl⟩ := VR.int_iff.mp hv
  have e := g.sub _ _ e
  have hz : us.toArray.size * n.toNat ≤ 10000 := by
    have h1 : us.toArray.size ≤ 100 := by simpa [← ha.length] using hs
    have h2 : n.toNat ≤ 100 := by omega
    exact Nat.le_trans (Nat.mul_le_mul h1 h2) (by decide)
  refine wpAny_binaryOp_repeat_ref (T := "list") (U := "int") (by decide) ⟨_, e, rfl⟩ (fun s' => typeIs_int s' n t') noFill_list_mul F.fills_int_mul F.slot_int_rmul repeat_list F.slot_int_index.lookup
    (call_meets F.slot_int_rmul (typeIs_int s n t') F.entry_int_rmul (F.args_int_rmul_2 _ _) (int___rmul___int_list n t' l us.toArray k)
      ⟨e, rfl, ⟨_, e, rfl⟩, call_meets F.slot_list_mul ⟨_, e, rfl⟩ F.entry_list_mul (F.args_list_mul_2 _ _)
        (AutoListH.list___mul___list_int_3 l us.toArray k n t' (by simp [Builtin.List.listFitsIndex]; omega) (by omega) (by show ¬ decide (us.toArray.size * n.toNat > sizeLine) = true; rw [sizeLine_eq, decide_eq_true_eq]; omega))
        ⟨e, ?_⟩⟩)
  rw [replicate_flat]
  exact Post.newList (k := s.toks) g (ha.replicate n.toNat)

/-! ### comparisons -/
noncomputable def CmpR (D : Wd) (A : Around) (op : CmpOp) (a b : V) (r : Bool) : Prop := ∀ G s E u v, GOK D G s → VR D G a u → VR D G b v → wpAny D.M A (compareOp op u v) (Post D G s (.bool r)) E s
section
variable {A : Around}
theorem CmpR.lt {a b : Int} : CmpR D A .Lt (.int a) (.int b) (decide (a < b)) := fun G s E u v g hu hv => by
  obtain ⟨t, rfl⟩ := VR.int_iff.mp hu; obtain ⟨t', rfl⟩ := VR.int_iff.mp hv
  exact PyProof.Rows.lt_int (.bool g)
theorem CmpR.gt {a b : Int} : CmpR D A .Gt (.int a) (.int b) (decide (b < a)) := fun G s E u v g hu hv => by
  obtain ⟨t, rfl⟩ := VR.int_iff.mp hu; obtain ⟨t', rfl⟩ := VR.int_iff.mp hv
  exact PyProof.Rows.gt_int (.bool g)
theorem CmpR.le {a b : Int} : CmpR D A .LtE (.int a) (.int b) (decide (a ≤ b)) := fun G s E u v g hu hv => by
  obtain ⟨t, rfl⟩ := VR.int_iff.mp hu; obtain ⟨t', rfl⟩ := VR.int_iff.mp hv
  exact PyProof.Rows.le_int (.bool g)
theorem CmpR.ge {a b : Int} : CmpR D A .GtE (.int a) (.int b) (decide (b ≤ a)) := fun G s E u v g hu hv => by
  obtain ⟨t, rfl⟩ := VR.int_iff.mp hu; obtain ⟨t', rfl⟩ := VR.int_iff.mp hv
  exact PyProof.Rows.ge_int (.bool g)
theorem CmpR.eq {a b : Int} : CmpR D A .Eq (.int a) (.int b) (a == b) := fun G s E u v g hu hv => by
  obtain ⟨t, rfl⟩ := VR.int_iff.mp hu; obtain ⟨t', rfl⟩ := VR.int_iff.mp hv
  exact PyProof.Rows.eq_int (.bool g)
theorem CmpR.ne {a b : Int} : CmpR D A .NotEq (.int a) (.int b) (a != b) := fun G s E u v g hu hv => by
  obtain ⟨t, rfl⟩ := VR.int_iff.mp hu; obtain ⟨t', rfl⟩ := VR.int_iff.mp hv
  exact PyProof.Rows.ne_int (.bool g)
theorem CmpR.eqStr {a b : Str} : CmpR D A .Eq (.str a) (.str b) (a == b) := fun G s E u v g hu hv => by
  obtain ⟨t, rfl⟩ := VR.str_iff.mp hu; obtain ⟨t', rfl⟩ := VR.str_iff.mp hv
  exact PyProof.Rows.eq_str (.bool g)
end
theorem Ev.cmp {l r : Expr} {op : CmpOp} {pos : Pos} {a b : V} {z : Bool} (hl : Ev c ρ l a) (hr : Ev c ρ r b) (ho : CmpR D c.A op a b z) (hm : behindInMarks op r = false := by with_unfolding_all rfl) : Ev c ρ (.Compare l [op] [r] pos) (.bool z) := by
  refine .mk fun G s E S => ?_
  refine wpAny_Compare1 (hl.mono S fun u s₁ G₁ x₁ g₁ r₁ => hr.mono (S.step x₁ g₁) fun v s₂ G₂ x₂ g₂ r₂ => ?_) hm
  exact wpAny_mono (ho G₂ s₂ E u v g₂ (r₁.mono x₂.le) r₂) (fun z s' p => (p.after x₂ g₂).after x₁ g₁) fun _ _ e => e
theorem Tst.cmp {l r : Expr} {op : CmpOp} {pos : Pos} {a b : V} {z : Bool} (hl : Ev c ρ l a) (hr : Ev c ρ r b) (ho : CmpR D c.A op a b z) (hm : behindInMarks op r = false := by with_unfolding_all rfl) : Tst c ρ (.Compare l [op] [r] pos) z := by
  refine .mk fun G s E S => ?_
  refine wpAny_isTrue_Compare1 (hl.mono S fun u s₁ G₁ x₁ g₁ r₁ => hr.mono (S.step x₁ g₁) fun v s₂ G₂ x₂ g₂ r₂ => ?_) hm
  refine wpAny_mono (ho G₂ s₂ E u v g₂ (r₁.mono x₂.le) r₂) (fun z s' p => ?_) fun _ _ e => e
  obtain ⟨G', y, g', r⟩ := p
  cases VR.bool_iff.mp r
  exact wpAny_truthy_bool ⟨G', (x₁.then g₁ x₂).then g₂ y, g', rfl⟩
theorem Tst.mono {e : Expr} {b : Bool} {Q : Bool → Shared → Prop} {E : Value → Shared → Prop} (x : Tst c ρ e b) (S : St c ρ G s) (h : ∀ s' G', Ext D.tabs G s G' s' → GOK D G' s' → Q b s') : wpAny D.M c.A (isTrue e c.env (eval e c.env)) Q E s :=
  wpAny_mono (x.run G s E S) (fun v s' ⟨G', y, g, r⟩ => by subst r; exact h s' G' y g) fun _ _ e => e
theorem Tst.and2 {x y : Expr} {pos : Pos} {b₁ b₂ : Bool} (hx : Tst c ρ x b₁) (hy : b₁ = true → Tst c ρ y b₂) : Tst c ρ (.BoolOp .And [x, y] pos) (b₁ && b₂) := by
  refine .mk fun G s E S => ?_
  refine wpAny_isTrue_BoolOp (wpAny_allTrue_And_cons (hx.mono S fun s₁ G₁ x₁ g₁ => ?_))
  cases b₁ with
  | false => exact ⟨G₁, x₁, g₁, rfl⟩
  | true =>
    refine wpAny_allTrue_And_cons ((hy rfl).mono (S.step x₁ g₁) fun s₂ G₂ x₂ g₂ => ?_)
    cases b₂ with
    | false => exact ⟨G₂, x₁.then g₁ x₂, g₂, rfl⟩
    | true => exact wpAny_allTrue_And_nil ⟨G₂, x₁.then g₁ x₂, g₂, rfl⟩
theorem Tst.or2 {x y : Expr} {pos : Pos} {b₁ b₂ : Bool} (hx : Tst c ρ x b₁) (hy : b₁ = false → Tst c ρ y b₂) : Tst c ρ (.BoolOp .Or [x, y] pos) (b₁ || b₂) := by
  refine .mk fun G s E S => ?_
  refine wpAny_isTrue_BoolOp (wpAny_allTrue_Or_cons (hx.mono S fun s₁ G₁ x₁ g₁ => ?_))
  cases b₁ with
  | true => exact ⟨G₁, x₁, g₁, rfl⟩
  | false =>
    refine wpAny_allTrue_Or_cons ((hy rfl).mono (S.step x₁ g₁) fun s₂ G₂ x₂ g₂ => ?_)
    cases b₂ with
    | true => exact ⟨G₂, x₁.then g₁ x₂, g₂, rfl⟩
    | false => exact wpAny_allTrue_Or_nil ⟨G₂, x₁.then g₁ x₂, g₂, rfl⟩
theorem Tst.ofBool {e : Expr} {b : Bool} (x : Ev c ρ e (.bool b)) (he : ∀ env whole, isTrue e env whole = (do let v ← whole; standAt e.pos; holding [v] (truthy v)) := by intro _ _; rfl) : Tst c ρ e b := by
  refine .mk fun G s E S => ?_
  refine wpAny_isTrue_value (x.mono S fun v s₁ G₁ x₁ g₁ r₁ => ?_) (he _ _)
  cases VR.bool_iff.mp r₁
  exact wpAny_truthy_bool ⟨G₁, x₁, g₁, rfl⟩
theorem Ev.ite {t x y : Expr} {pos : Pos} {b : Bool} {a₁ a₂ : V} (ht : Tst c ρ t b) (hx : b = true → Ev c ρ x a₁) (hy : b = false → Ev c ρ y a₂) : Ev c ρ (.IfExp t x y pos) (if b = true then a₁ else a₂) := by
  refine .mk fun G s E S => ?_
  refine wpAny_IfExp (ht.mono S fun s₁ G₁ x₁ g₁ => ?_)
  cases b with
  | true => exact (hx rfl).mono (S.step x₁ g₁) fun v s₂ G₂ x₂ g₂ r₂ => ⟨G₂, x₁.then g₁ x₂, g₂, r₂⟩
  | false => exact (hy rfl).mono (S.step x₁ g₁) fun v s₂ G₂ x₂ g₂ r₂ => ⟨G₂, x₁.then g₁ x₂, g₂, r₂⟩
theorem Ev.neg {x : Expr} {pos : Pos} {n : Int} (hx : Ev c ρ x (.int n)) : Ev c ρ (.UnaryOp .USub x pos) (.int (-n)) := by
  refine .mk fun G s E S => ?_
  refine wpAny_UnaryOp (hx.mono S fun v s₁ G₁ x₁ g₁ r₁ => ?_)
  obtain ⟨t, rfl⟩ := VR.int_iff.mp r₁
  exact PyProof.Rows.neg_int ((Post.tokI g₁).after x₁ g₁)

/-! ### argument lists, displays -/
noncomputable def EvL {D : Wd} (c : Cx D) (ρ : Ro) (es : List Expr) (l : List V) : Prop :=
  Box (∀ pos G s E, St c ρ G s → wpAny D.M c.A (spliced (backTo pos (starEach es c.env))) (PostL D G s l) E s)
theorem EvL.nil : EvL c ρ [] [] := .mk fun pos G s E S => wpAny_pure ⟨G, Ext.refl .., S.ok, VRs.nil⟩
theorem EvL.cons {e : Expr} {es : List Expr} {a : V} {l : List V} (he : Ev c ρ e a) (hl : EvL c ρ es l) (hs : ∀ env, starEach (e :: es) env = (false, eval e env) :: starEach es env := by intro _; rfl) : EvL c ρ (e :: es) (a :: l) := by
  refine .mk fun pos G s E S => ?_
  rw [hs]
  show wpAny D.M c.A (spliced ((false, eval e c.env) :: backTo pos (starEach es c.env))) _ E s
  unfold spliced
  refine wpAny_bind (he.mono S fun v s₁ G₁ x₁ g₁ r₁ => ?_)
  refine wpAny_bind (wpAny_pure (wpAny_bind (wpAny_holding (wpAny_mono (hl.run pos G₁ s₁ E (S.step x₁ g₁)) (fun vs s₂ p => ?_) fun _ _ e => e))))
  obtain ⟨G₂, x₂, g₂, r₂⟩ := p
  exact wpAny_pure ⟨G₂, x₁.then g₁ x₂, g₂, VRs.cons (r₁.mono x₂.le) r₂⟩
theorem Ev.list {es : List Expr} {pos : Pos} {l : List V} (h : EvL c ρ es l) (hs : l.length ≤ sizeLine := by first | decide | size_fits) : Ev c ρ (.List es pos) (.list l) := by
  refine .mk fun G s E S => ?_
  refine wpAny_List (wpAny_mono (h.run pos G s E S) (fun vs s₁ p => ?_) fun _ _ e => e)
  obtain ⟨G₁, x₁, g₁, r₁⟩ := p
  exact ⟨r₁.length ▸ hs, (Post.newList (k := s₁.toks) g₁ r₁).after x₁ g₁⟩
theorem Ev.tup {es : List Expr} {k : Nat} {pos : Pos} {l : List V} (h : EvL c ρ es l) (hs : l.length ≤ sizeLine := by first | decide | size_fits) : Ev c ρ (.Tuple es k pos) (.tup l) := by
  refine .mk fun G s E S => ?_
  refine wpAny_Tuple (wpAny_mono (h.run pos G s E S) (fun vs s₁ p => ?_) fun _ _ e => e)
  obtain ⟨G₁, x₁, g₁, r₁⟩ := p
  exact ⟨r₁.length ▸ hs, (Post.newTup (k := s₁.toks) g₁ r₁).after x₁ g₁⟩

/-! ### items -/
theorem Ev.itemList {e i : Expr} {pos : Pos} {l : List V} {n : Int} {a : V} (he : Ev c ρ e (.list l)) (hi : Ev c ρ i (.int n)) (h0 : 0 ≤ n) (hn : n < 2 ^ 63) (hx : l[n.toNat]? = some a)
    (hs : ∀ d k t, subscripted i false (.ref d) (.int k t) = operate [.ref d, .int k t] (getItem (.ref d) (.int k t)) := by intro _ _ _; rfl) : Ev c ρ (.Subscript e i pos) a := by
  refine .mk fun G s E S => ?_
  refine Subscript_ (he.mono S fun v s₁ G₁ x₁ g₁ r₁ => hi.mono (S.step x₁ g₁) fun k s₂ G₂ x₂ g₂ r₂ => ?_)
  obtain ⟨l', us, rfl, ⟨m, e1⟩, rs⟩ := VR.list_iff.mp (r₁.mono x₂.le)
  obtain ⟨t, rfl⟩ := VR.int_iff.mp r₂
  obtain ⟨u, hu, ru⟩ := rs.get hx
  have e2 := g₂.sub _ _ e1
  have hL : s₂.heap.IsList l' us.toArray := ⟨_, e2, rfl, m, rfl⟩
  exact tail_any hL.typeIs slot_list_getitem.lookup (wpAny_getItem_list hL h0 hn (by simpa using hu) ⟨G₂, x₁.then g₁ x₂, g₂, ru⟩) (hs _ _ _)
theorem Ev.itemTup {e i : Expr} {pos : Pos} {l : List V} {n : Int} {a : V} (he : Ev c ρ e (.tup l)) (hi : Ev c ρ i (.int n)) (h0 : 0 ≤ n) (hn : n < 2 ^ 63) (hx : l[n.toNat]? = some a)
    (hs : ∀ d k t, subscripted i false (.ref d) (.int k t) = operate [.ref d, .int k t] (getItem (.ref d) (.int k t)) := by intro _ _ _; rfl) : Ev c ρ (.Subscript e i pos) a := by
  refine .mk fun G s E S => ?_
  refine Subscript_ (he.mono S fun v s₁ G₁ x₁ g₁ r₁ => hi.mono (S.step x₁ g₁) fun k s₂ G₂ x₂ g₂ r₂ => ?_)
  obtain ⟨l', us, rfl, ⟨m, e1⟩, rs⟩ := VR.tup_iff.mp (r₁.mono x₂.le)
  obtain ⟨t, rfl⟩ := VR.int_iff.mp r₂
  obtain ⟨u, hu, ru⟩ := rs.get hx
  have e2 := g₂.sub _ _ e1
  have hL : IsTup s₂.heap l' us.toArray := ⟨_, e2, rfl, m, rfl⟩
  have hlt : n.toNat < us.length := (List.getElem?_eq_some_iff.mp hu).1
  have hsi : seqIndex? n us.length = some n.toNat := by
    unfold seqIndex?
    have h1 : ¬ n < 0 := by omega
    have h2 : (decide (0 ≤ n) && decide (n < us.length)) = true := by simp; omega
    simp [h1, h2]
  exact item_tupleT hL (by omega) hn hsi hu ⟨G₂, x₁.then g₁ x₂, g₂, ru⟩ (hs _ _ _)
end
end Mine
/-! PI3 -/
namespace Mine

/-! ### iteration: what a loop sees of its iterator -/
structure Wk (D : Wd) (A : Around) (tgt : Expr) (I : Addr) (xs : List V) (J : Nat → PO → Heap → Prop) : Prop where
  stable : ∀ i G h G' h', J i G h → G.le G' → (∀ b o, G' b = some o → h'.get? b = some o) → (∀ o, h.get? I = some o → h'.get? I = some o) → J i G' h'
  obj : ∀ i G h, J i G h → ∃ o vs, h.get? I = some o ∧ o.data = .fields vs
  item : ∀ i G (s : Shared) E x, xs[i]? = some x → J i G s.heap → GOK D G s → G I = none → wpAny D.M A (pyNext (.ref I)) (fun r s' => ∃ v, r = some v ∧
    wpAny D.M A (letOwnedTupleGo tgt (.ref I) v) (fun _ s'' => ∃ G', Ext (I :: D.tabs) G s G' s'' ∧ GOK D G' s'' ∧ VR D G' x v ∧ J (i + 1) G' s''.heap) E s') E s
  done : ∀ G (s : Shared) E, J xs.length G s.heap → GOK D G s → G I = none → wpAny D.M A (pyNext (.ref I)) (fun r s' => r = none ∧ ∃ G', Ext (I :: D.tabs) G s G' s' ∧ GOK D G' s') E s
  self : ∀ i G (s : Shared) (Q : Value → Shared → Prop) (E : Value → Shared → Prop), J i G s.heap → Q (.ref I) s → wpAny D.M A (pyIter (.ref I)) Q E s

noncomputable def Own4 : List String := ["enumerate", "zip", "dict_itemiterator", "dict_reverseitemiterator", "odict_iterator", "itertools.zip_longest", "itertools.pairwise"]
section
variable {D : Wd} {c : Cx D} {A : Around} {ρ : Ro} {G G' G₁ G₂ G₃ : PO} {s s' s₁ s₂ s₃ : Shared} {h h' : Heap}

theorem letgo_other {tgt : Expr} {I : Addr} {v : Value} {o : Obj} {n : String} {Q : Unit → Shared → Prop} {E : Value → Shared → Prop} (ho : s.heap.get? I = some o) (hc : o.cls = .type n) (hn : Own4.contains n = false) (hQ : Q () s) :
    wpAny D.M A (letOwnedTupleGo tgt (.ref I) v) Q E s := by
  have hn' : (["enumerate", "zip", "dict_itemiterator", "dict_reverseitemiterator", "odict_iterator", "itertools.zip_longest", "itertools.pairwise"].contains n) = false := hn
  obtain ⟨cl, d, dt, sl⟩ := o
  simp only at hc
  subst hc
  unfold letOwnedTupleGo
  cases tgt <;> first
    | exact wpAny_pure hQ
    | (cases v <;> first
        | exact wpAny_pure hQ
        | (refine wpAny_bind (wpAny_load ho ?_)
           cases dt <;> first
             | exact wpAny_pure hQ
             | (simp only [hn', Bool.false_and, Bool.false_eq_true, if_false]; exact wpAny_pure hQ)))

theorem Wk.ofWalks {tgt : Expr} {I : Addr} {xs : List V} {fp : List Addr} {P : Nat → Value → Prop} {S : Nat → Heap → Prop} (W : Walks D.prog D.w A I fp [I] xs.length P S) (hI : I ∉ D.tabs)
    (hP : ∀ i v x, P i v → xs[i]? = some x → VR D G x v) (hfp : ∀ b ∈ fp, b ≠ I → G b ≠ none)
    (hcls : ∀ i h, S i h → ∃ o n vs, h.get? I = some o ∧ o.cls = .type n ∧ Own4.contains n = false ∧ o.data = .fields vs) :
    Wk D A tgt I xs (fun i G' h => S i h ∧ G.le G' ∧ ∀ b o, G' b = some o → h.get? b = some o) where
  stable := fun i G₁ h G₂ h' ⟨st, le, sb⟩ le' sb' kI => ⟨W.frame i h h' st fun b hb o e => by
      by_cases q : b = I
      · subst q; exact kI o e
      · cases z : G b with
        | none => exact absurd z (hfp b hb q)
        | some o' =>
          have z1 := le b o' z
          have z2 := sb b o' z1
          rw [e] at z2; cases z2
          exact sb' b o (le' b o z1), fun b o e => le' b o (le b o e), sb'⟩
  obj := fun i G₁ h ⟨st, _, _⟩ => let ⟨o, n, vs, e, _, _, r⟩ := hcls i h st; ⟨o, vs, e, r⟩
  item := fun i G₁ s E x hx ⟨st, le, sb⟩ g hn => by
    have hlt : i < xs.length := (List.getElem?_eq_some_iff.mp hx).1
    refine W.item i s _ E hlt st fun v h' tk hv st' hk => ⟨v, rfl, ?_⟩
    obtain ⟨o, n, vs, e, c1, c2, c3⟩ := hcls _ _ st'
    refine letgo_other e c1 c2 ?_
    have sb' : ∀ b o, G₁ b = some o → h'.get? b = some o := fun b o e => hk b o (fun q => by rw [List.mem_singleton.mp q, hn] at e; cases e) (g.sub b o e)
    refine ⟨G₁, ⟨⟨h', tk, rfl⟩, fun _ _ e => e, fun _ a b => absurd a b, fun b o hb e => hk b o (fun q => hb (by rw [List.mem_singleton.mp q]; exact .head _)) e⟩, ⟨g.base, sb', fun q hq => ?_⟩, (hP i v x hv hx).mono le, st', le, sb'⟩
    obtain ⟨a1, ps, a2, a3⟩ := g.tabs q hq
    exact ⟨a1, ps, hk _ _ (fun z => hI (by rw [← List.mem_singleton.mp z]; exact List.mem_map_of_mem hq)) a2, a3⟩
  done := fun G₁ s E ⟨st, le, sb⟩ g hn => by
    refine W.done s _ E st fun h' tk hk => ⟨rfl, G₁, ⟨⟨h', tk, rfl⟩, fun _ _ e => e, fun _ a b => absurd a b, fun b o hb e => hk b o (fun q => hb (by rw [List.mem_singleton.mp q]; exact .head _)) e⟩, ⟨g.base, fun b o e => hk b o (fun q => by rw [List.mem_singleton.mp q, hn] at e; cases e) (g.sub b o e), fun q hq => ?_⟩⟩
    obtain ⟨a1, ps, a2, a3⟩ := g.tabs q hq
    exact ⟨a1, ps, hk _ _ (fun z => hI (by rw [← List.mem_singleton.mp z]; exact List.mem_map_of_mem hq)) a2, a3⟩
  self := fun i G₁ s Q E ⟨st, _, _⟩ hQ => W.self i s Q E st hQ

noncomputable def ItAt (D : Wd) (A : Around) (tgt : Expr) (G : PO) (s : Shared) (xs : List V) (it : Value) (s₂ : Shared) : Prop :=
  ∃ G' I J, it = .ref I ∧ Ext D.tabs G s G' s₂ ∧ GOK D G' s₂ ∧ s.heap.get? I = none ∧ G' I = none ∧ I ∉ D.tabs ∧ Wk D A tgt I xs J ∧ J 0 G' s₂.heap
noncomputable def ItE {D : Wd} (c : Cx D) (ρ : Ro) (tgt e : Expr) (xs : List V) : Prop :=
  Box (∀ G s E, St c ρ G s → wpAny D.M c.A (eval e c.env) (fun x s₁ => wpAny D.M c.A (pyIter x) (ItAt D c.A tgt G s xs) E s₁) E s)

theorem GOK.push_away (g : GOK D G s) {o : Obj} {k : Nat} : GOK D G { s with heap := s.heap.push o, toks := k } ∧ Ext D.tabs G s G { s with heap := s.heap.push o, toks := k } ∧ G s.heap.objs.size = none ∧ s.heap.get? s.heap.objs.size = none ∧ s.heap.objs.size ∉ D.tabs := by
  have hz : s.heap.get? s.heap.objs.size = none := by
    cases e : s.heap.get? s.heap.objs.size with
    | none => rfl
    | some o' => exact absurd (Heap.lt_size e) (Nat.lt_irrefl _)
  refine ⟨⟨g.base, fun b o' e => Heap.get?_push_of_some _ (g.sub b o' e), fun q hq => ?_⟩, ⟨⟨_, _, rfl⟩, fun _ _ e => e, fun _ a b => absurd a b, fun b o' _ e => Heap.get?_push_of_some _ e⟩, g.none_size, hz, fun hb => g.alive hb hz⟩
  obtain ⟨a1, ps, a2, a3⟩ := g.tabs q hq
  exact ⟨a1, ps, Heap.get?_push_of_some _ a2, a3⟩

theorem iter_list {tgt : Expr} {l : List V} {v : Value} {E} (hh : A.handled = none) (g : GOK D G s) (r : VR D G (.list l) v) : wpAny D.M A (pyIter v) (ItAt D A tgt G s l) E s := by
  obtain ⟨a, us, rfl, ⟨n, e⟩, rs⟩ := VR.list_iff.mp r
  have e2 := g.sub _ _ e
  refine wpAny_pyIter_list (l := a) (items := us.toArray) ⟨_, e2, rfl, n, rfl⟩ ?_
  obtain ⟨g', x, n1, n2, n3⟩ := g.push_away (o := { cls := .type "list_iterator", data := .fields #[.ref a, .int 0 0] }) (k := s.toks)
  have hne : a ≠ s.heap.objs.size := Nat.ne_of_lt (Heap.lt_size e2)
  have hlen : us.toArray.size = l.length := by simp [rs.length]
  have W := Walks.list (prog := D.prog) (w := D.w) hh s.heap.objs.size a hne us.toArray
  rw [hlen] at W
  refine ⟨G, s.heap.objs.size, _, rfl, x, g', n2, n1, n3, Wk.ofWalks (G := G) W n3 (fun i v x hv hx => ?_) (fun b hb hbI => ?_) (fun i h st => ?_), ?_⟩
  · obtain ⟨u, hu, ru⟩ := rs.get hx
    have : us.toArray[i]? = some v := hv
    rw [List.getElem?_toArray, hu] at this; cases this; exact ru
  · simp at hb
    rcases hb with q | q
    · exact absurd q hbI
    · rw [q, e]; simp
  · obtain ⟨o, ho, hc, hd⟩ := st.1
    exact ⟨o, _, _, ho, hc, by decide, hd⟩
  · exact ⟨⟨⟨_, Heap.get?_push_size _ rfl, rfl, rfl⟩, ⟨_, Heap.get?_push_of_some _ e2, rfl, n, rfl⟩⟩, fun _ _ e => e, g'.sub⟩
theorem iter_tup {tgt : Expr} {l : List V} {v : Value} {E} (hh : A.handled = none) (g : GOK D G s) (r : VR D G (.tup l) v) : wpAny D.M A (pyIter v) (ItAt D A tgt G s l) E s := by
  obtain ⟨a, us, rfl, ⟨n, e⟩, rs⟩ := VR.tup_iff.mp r
  have e2 := g.sub _ _ e
  refine wpAny_pyIter_tuple (t := a) (items := us.toArray) ⟨_, e2, rfl, n, rfl⟩ ?_
  obtain ⟨g', x, n1, n2, n3⟩ := g.push_away (o := { cls := .type "tuple_iterator", data := .fields #[.ref a, .int 0 0] }) (k := s.toks)
  have hne : a ≠ s.heap.objs.size := Nat.ne_of_lt (Heap.lt_size e2)
  have hlen : us.toArray.size = l.length := by simp [rs.length]
  have W := Walks.tuple (prog := D.prog) (w := D.w) hh s.heap.objs.size a hne us.toArray
  rw [hlen] at W
  refine ⟨G, s.heap.objs.size, _, rfl, x, g', n2, n1, n3, Wk.ofWalks (G := G) W n3 (fun i v x hv hx => ?_) (fun b hb hbI => ?_) (fun i h st => ?_), ?_⟩
  · obtain ⟨u, hu, ru⟩ := rs.get hx
    have : us.toArray[i]? = some v := hv
    rw [List.getElem?_toArray, hu] at this; cases this; exact ru
  · simp at hb
    rcases hb with q | q
    · exact absurd q hbI
    · rw [q, e]; simp
  · obtain ⟨o, ho, hc, hd⟩ := st.1
    exact ⟨o, _, _, ho, hc, by decide, hd⟩
  · exact ⟨⟨⟨_, Heap.get?_push_size _ rfl, rfl, rfl⟩, ⟨_, Heap.get?_push_of_some _ e2, rfl, n, rfl⟩⟩, fun _ _ e => e, g'.sub⟩

noncomputable def charsOf (x : Str) : List V := x.cps.toList.map fun ch => V.str ⟨#[ch]⟩
theorem iter_str {tgt : Expr} {x : Str} {v : Value} {E} (hh : A.handled = none) (g : GOK D G s) (r : VR D G (.str x) v) : wpAny D.M A (pyIter v) (ItAt D A tgt G s (charsOf x)) E s := by
  obtain ⟨t, rfl⟩ := VR.str_iff.mp r
  have hlen : (charsOf x).length = x.cps.size := by simp [charsOf]
  have fin : ∀ (nm : String) (S : Nat → Heap → Prop), (∀ i h, S i h ↔ h.IsStrIter s.heap.objs.size nm x t i) → Own4.contains nm = false → Walks D.prog D.w A s.heap.objs.size [s.heap.objs.size] [s.heap.objs.size] x.cps.size (SignAt x) S → ∀ o : Obj, S 0 (s.heap.push o) →
      ItAt D A tgt G s (charsOf x) (.ref s.heap.objs.size) { s with heap := s.heap.push o } := by
    intro nm S hS hn W o h0
    obtain ⟨g', y, n1, n2, n3⟩ := g.push_away (o := o) (k := s.toks)
    rw [← hlen] at W
    refine ⟨G, s.heap.objs.size, _, rfl, y, g', n2, n1, n3, Wk.ofWalks (G := G) W n3 (fun i v z hv hz => ?_) (fun b hb hbI => absurd (List.mem_singleton.mp hb) hbI) (fun i h st => ?_), ⟨h0, fun _ _ e => e, g'.sub⟩⟩
    · obtain ⟨ch, u, hc, rfl⟩ := hv
      unfold charsOf at hz
      rw [List.getElem?_map, Array.getElem?_toList, hc] at hz
      cases hz
      exact VR.str_iff.mpr ⟨_, rfl⟩
    · obtain ⟨o, ho, hc, hd⟩ := (hS i h).mp st
      exact ⟨o, _, _, ho, hc, hn, hd⟩
  cases ha : x.cps.all (· < 128)
  · exact wpAny_pyIter_wide ha (fin "str_iterator" _ (fun _ _ => Iff.rfl) (by decide) (Walks.strWide hh _ x t) _ ⟨_, Heap.get?_push_size _ rfl, rfl, rfl⟩)
  · exact wpAny_pyIter_ascii ha (fin "str_ascii_iterator" _ (fun _ _ => Iff.rfl) (by decide) (Walks.strAscii hh _ x t) _ ⟨_, Heap.get?_push_size _ rfl, rfl, rfl⟩)

theorem ItAt.after {tgt : Expr} {xs : List V} {it : Value} (x : Ext D.tabs G s G₁ s₁) (g : GOK D G₁ s₁) (p : ItAt D A tgt G₁ s₁ xs it s₂) : ItAt D A tgt G s xs it s₂ := by
  obtain ⟨G', I, J, rfl, y, g', n1, n2, n3, W, j⟩ := p
  refine ⟨G', I, J, rfl, x.then g y, g', ?_, n2, n3, W, j⟩
  cases e : s.heap.get? I with
  | none => rfl
  | some o => rw [x.keep _ _ n3 e] at n1; cases n1
theorem ItE.list {tgt e : Expr} {l : List V} (h : Ev c ρ e (.list l)) : ItE c ρ tgt e l := .mk fun G s E S =>
  h.mono S fun v s₁ G₁ x₁ g₁ r₁ => wpAny_mono (iter_list S.wf.hand g₁ r₁) (fun _ _ p => p.after x₁ g₁) fun _ _ e => e
theorem ItE.tup {tgt e : Expr} {l : List V} (h : Ev c ρ e (.tup l)) : ItE c ρ tgt e l := .mk fun G s E S =>
  h.mono S fun v s₁ G₁ x₁ g₁ r₁ => wpAny_mono (iter_tup S.wf.hand g₁ r₁) (fun _ _ p => p.after x₁ g₁) fun _ _ e => e
theorem ItE.str {tgt e : Expr} {x : Str} (h : Ev c ρ e (.str x)) : ItE c ρ tgt e (charsOf x) := .mk fun G s E S =>
  h.mono S fun v s₁ G₁ x₁ g₁ r₁ => wpAny_mono (iter_str S.wf.hand g₁ r₁) (fun _ _ p => p.after x₁ g₁) fun _ _ e => e
end
end Mine
/-! PI4 -/
namespace Mine

structure GD (D : Wd) : Prop where
  g : D.h₀.Ns mainGlobals D.mg
  b : D.h₀.Ns builtinsNs D.mb
  lim : D.h₀.NoLimit
  bi : ∀ x : Str, x ≠ "__name__" → D.mb x = bootBuiltins x

section
variable {D : Wd} {c : Cx D} {A : Around} {ρ : Ro} {G G' G₁ G₂ G₃ : PO} {s s' s₁ s₂ s₃ : Shared} {h h' : Heap}

theorem name_glob (gd : GD D) {x : Str} {pos : Pos} {v : Value} {Q : Value → Shared → Prop} {E} (S : St c ρ G s) (hk : c.env.kindOf x = some .globalImplicit) (hv : D.mg x = some v) (hQ : Q v s) (hd : (x == ("__debug__" : Str)) = false := by decide) :
    wpAny D.M c.A (eval (.Name x pos) c.env) Q E s :=
  Name_function_global S.wf.fn hk (loadGlobal_global (by rw [S.wf.glob]; exact gd.g.keeps S.ok.base') hv hQ) hd
theorem name_bui (gd : GD D) {x : Str} {pos : Pos} {v : Value} {Q : Value → Shared → Prop} {E} (S : St c ρ G s) (hk : c.env.kindOf x = some .globalImplicit) (hn : D.mg x = none) (hv : bootBuiltins x = some v) (hQ : Q v s)
    (hx : x ≠ "__name__" := by decide) (hd : (x == ("__debug__" : Str)) = false := by decide) :
    wpAny D.M c.A (eval (.Name x pos) c.env) Q E s :=
  Name_function_global S.wf.fn hk (loadGlobal_builtin (by rw [S.wf.glob]; exact gd.g.keeps S.ok.base') hn (by rw [S.wf.bui]; exact gd.b.keeps S.ok.base') ((gd.bi x hx).trans hv) hQ) hd

noncomputable def Glo {D : Wd} (c : Cx D) (ρ : Ro) (e : Expr) (v : Value) : Prop := ∀ G s (Q : Value → Shared → Prop) E, St c ρ G s → Q v s → wpAny D.M c.A (eval e c.env) Q E s
theorem Glo.top (gd : GD D) {x : Str} {pos : Pos} {v : Value} (hk : c.env.kindOf x = some .globalImplicit) (hv : D.mg x = some v) (hd : (x == ("__debug__" : Str)) = false := by decide) : Glo c ρ (.Name x pos) v :=
  fun G s Q E S hQ => name_glob gd S hk hv hQ hd
theorem Glo.bui (gd : GD D) {x : Str} {pos : Pos} {v : Value} (hk : c.env.kindOf x = some .globalImplicit) (hn : D.mg x = none) (hv : bootBuiltins x = some v) (hx : x ≠ "__name__" := by decide) (hd : (x == ("__debug__" : Str)) = false := by decide) : Glo c ρ (.Name x pos) v :=
  fun G s Q E S hQ => name_bui gd S hk hn hv hQ hx hd

noncomputable def Kpr (D : Wd) (f : Value) : Prop := ∀ h : Heap, (∀ b o, D.h₀.get? b = some o → h.get? b = some o) → ∃ k, (k = Keeper.frame ∨ k = Keeper.machine ∨ k = Keeper.boundFrame) ∧ Looks D.M h (keeperOf f) k
theorem Kpr.type {T : String} : Kpr D (.type T) := fun h _ => ⟨.machine, .inr (.inl rfl), Looks.of_pure rfl⟩
theorem Kpr.builtin {T : String} : Kpr D (.builtin T) := fun h _ => ⟨.machine, .inr (.inl rfl), Looks.of_pure rfl⟩
theorem Kpr.fn {a : Addr} {o : Obj} {fd : FuncData} (ho : D.h₀.get? a = some o) (hd : o.data = .func fd) : Kpr D (.ref a) := fun h hk =>
  ⟨.frame, .inl rfl, (Looks.ld (part := none) (hk _ _ ho)).andThen (by rw [hd]; exact .now)⟩

theorem callWith_gen {pos : Pos} {f : Value} {first : List Value} {e : Expr} {es : List Expr} {l : List V} {Q : Value → Shared → Prop} {E} (S : St c ρ G s) (hf : Kpr D f) (hl : EvL c ρ (e :: es) l)
    (k : ∀ vs s₁ G₁, Ext D.tabs G s G₁ s₁ → GOK D G₁ s₁ → VRs D G₁ l vs → wpAny D.M c.A (call f (first ++ vs)) Q E s₁)
    (hp : ∀ env, (backTo pos (starEach (e :: es) env)).any (·.1) = false) :
    wpAny D.M c.A (callWith pos f first (backTo pos (starEach (e :: es) c.env)) []) Q E s := by
  refine callWith_of (P := fun h => ∀ b o, D.h₀.get? b = some o → h.get? b = some o) (by rw [hp]; rfl) hf ?_
  have key : wpAny D.M c.A (spliced (backTo pos (starEach (e :: es) c.env))) (fun vs s' => (∀ b o, D.h₀.get? b = some o → s'.heap.get? b = some o) ∧ wpAny D.M c.A (call f (first ++ vs)) Q E s') E s :=
    wpAny_mono (hl.run pos G s E S) (fun vs s₁ ⟨G₁, x₁, g₁, r₁⟩ => ⟨g₁.base', k vs s₁ G₁ x₁ g₁ r₁⟩) fun _ _ e => e
  have hs : ∃ t, backTo pos (starEach (e :: es) c.env) = (false, t) :: backTo pos (starEach es c.env) := by
    have := hp c.env
    cases e <;> first
      | exact ⟨_, rfl⟩
      | (exfalso; simp [starEach, backTo] at this)
  obtain ⟨t, ht⟩ := hs
  rw [ht] at key ⊢
  exact evalArgs_plain key
theorem callWith_nil {pos : Pos} {f : Value} {first : List Value} {Q : Value → Shared → Prop} {E} (g : GOK D G s) (hf : Kpr D f) (k : wpAny D.M A (call f (first ++ [])) Q E s) {env : Env} :
    wpAny D.M A (callWith pos f first (backTo pos (starEach [] env)) []) Q E s :=
  callWith_of (P := fun h => ∀ b o, D.h₀.get? b = some o → h.get? b = some o) rfl hf (evalArgs_nil3 ⟨g.base', k⟩)

noncomputable def CallR (D : Wd) (A : Around) (f : Value) (l : List V) (a : V) : Prop := ∀ G s E vs, GOK D G s → VRs D G l vs → wpAny D.M A (call f vs) (Post D G s a) E s

theorem Ev.call {x : Str} {np pos : Pos} {e : Expr} {es : List Expr} {f : Value} {l : List V} {a : V} (hn : Glo c ρ (.Name x np) f) (hf : Kpr D f) (hl : EvL c ρ (e :: es) l) (hc : CallR D c.A f l a)
    (hp : ∀ pos env, (backTo pos (starEach (e :: es) env)).any (·.1) = false := by intro _ _; rfl) : Ev c ρ (.Call (.Name x np) (e :: es) [] pos) a := by
  refine .mk fun G s E S => ?_
  refine wpAny_Call_NameR (hn G s _ E S (callWith_gen S hf hl (fun vs s₁ G₁ x₁ g₁ r₁ => ?_) (hp pos)))
  exact wpAny_mono (hc G₁ s₁ E vs g₁ r₁) (fun v s' p => p.after x₁ g₁) fun _ _ e => e

/-! ### ranges -/
noncomputable def ranV (a : Int) : Nat → List V
  | 0 => []
  | n + 1 => .int a :: ranV (a + 1) n
theorem ranV_length (a : Int) (n : Nat) : (ranV a n).length = n := by
  induction n generalizing a with
  | zero => rfl
  | succ n ih => simp [ranV, ih]
theorem ranV_get (a : Int) (n i : Nat) (hi : i < n) : (ranV a n)[i]? = some (.int (a + i)) := by
  induction n generalizing a i with
  | zero => omega
  | succ n ih =>
    cases i with
    | zero => simp [ranV]
    | succ i => simp only [ranV, List.getElem?_cons_succ]; rw [ih (a + 1) i (by omega)]; congr 2; omega
noncomputable def IterR (D : Wd) (A : Around) (tgt : Expr) (f : Value) (l : List V) (xs : List V) : Prop :=
  ∀ G s E vs, GOK D G s → VRs D G l vs → wpAny D.M A (call f vs) (fun v s₁ => wpAny D.M A (pyIter v) (ItAt D A tgt G s xs) E s₁) E s
theorem ItE.call {tgt : Expr} {x : Str} {np pos : Pos} {e : Expr} {es : List Expr} {f : Value} {l xs : List V} (hn : Glo c ρ (.Name x np) f) (hf : Kpr D f) (hl : EvL c ρ (e :: es) l) (hc : IterR D c.A tgt f l xs)
    (hp : ∀ pos env, (backTo pos (starEach (e :: es) env)).any (·.1) = false := by intro _ _; rfl) : ItE c ρ tgt (.Call (.Name x np) (e :: es) [] pos) xs := by
  refine .mk fun G s E S => ?_
  refine wpAny_Call_NameR (hn G s _ E S (callWith_gen S hf hl (fun vs s₁ G₁ x₁ g₁ r₁ => ?_) (hp pos)))
  exact wpAny_mono (hc G₁ s₁ E vs g₁ r₁) (fun v s' p => wpAny_mono p (fun _ _ q => q.after x₁ g₁) fun _ _ e => e) fun _ _ e => e
theorem iter_range {tgt : Expr} (hh : A.handled = none) {a b : Int} {t u w : Tok} {k : Nat} (g : GOK D G s) (ha : -(2 ^ 62) ≤ a) (ha' : a < 2 ^ 62) (hb : -(2 ^ 62) ≤ b) (hb' : b < 2 ^ 62) {E} :
    wpAny D.M A (pyIter (.ref s.heap.objs.size)) (ItAt D A tgt G s (ranV a (b - a).toNat)) E { s with heap := s.heap.push { cls := .type "range", data := .fields #[.int a t, .int b u, .int 1 w] }, toks := k } := by
  obtain ⟨g₁, x₁, _, _, _⟩ := g.push_away (o := { cls := .type "range", data := .fields #[.int a t, .int b u, .int 1 w] }) (k := k)
  refine wpAny_pyIter_range (IsRange.new ..) (small_one ha ha' hb hb') ?_
  obtain ⟨g₂, x₂, n1, n2, n3⟩ := g₁.push_away (o := { cls := .type "range_iterator", data := .fields #[rawInt a, rawInt (Builtin.Range.rangeSize a b 1), rawInt 1] }) (k := k)
  have p : ItAt D A tgt G { s with heap := s.heap.push { cls := .type "range", data := .fields #[.int a t, .int b u, .int 1 w] }, toks := k } (ranV a (b - a).toNat) (.ref (s.heap.push { cls := .type "range", data := .fields #[.int a t, .int b u, .int 1 w] }).objs.size)
      { s with heap := (s.heap.push { cls := .type "range", data := .fields #[.int a t, .int b u, .int 1 w] }).push { cls := .type "range_iterator", data := .fields #[rawInt a, rawInt (Builtin.Range.rangeSize a b 1), rawInt 1] }, toks := k } := by
    refine ⟨G, _, _, rfl, x₂, g₂, n2, n1, n3, Wk.ofWalks (G := G) (fp := [(s.heap.push { cls := .type "range", data := .fields #[.int a t, .int b u, .int 1 w] }).objs.size]) (by rw [ranV_length]; exact Walks.range hh _ a 1 (b - a).toNat) n3 (fun i v x hv hx => ?_) (fun b hb hbI => absurd (List.mem_singleton.mp hb) hbI) (fun i h st => ⟨_, _, _, st, rfl, by decide, rfl⟩), ⟨?_, fun _ _ e => e, g₂.sub⟩⟩
    · obtain ⟨t, rfl⟩ := hv
      have hlt : i < (b - a).toNat := by have := (List.getElem?_eq_some_iff.mp hx).1; rwa [ranV_length] at this
      rw [ranV_get a _ i hlt] at hx
      cases hx
      exact VR.int_iff.mpr ⟨t, by rw [Int.mul_one]⟩
    · show IsRangeIter _ _ (a + ((0 : Nat) : Int) * 1) (((b - a).toNat : Int) - ((0 : Nat) : Int)) 1
      have e : Builtin.Range.rangeSize a b 1 = ((b - a).toNat : Int) := by rw [rangeSize_one]; split <;> omega
      rw [← e]
      have := Heap.get?_push_size (s.heap.push { cls := .type "range", data := .fields #[.int a t, .int b u, .int 1 w] }) (o := { cls := .type "range_iterator", data := .fields #[rawInt a, rawInt (Builtin.Range.rangeSize a b 1), rawInt 1] }) rfl
      simpa using this
  exact p.after x₁ g₁
theorem IterR.range1 {tgt : Expr} (hh : A.handled = none) {n : Int} (h0 : -(2 ^ 62) ≤ n) (h1 : n < 2 ^ 62) : IterR D A tgt (.type "range") [.int n] (ranV 0 n.toNat) := by
  intro G s E vs g r
  unfold VRs at r
  obtain ⟨u, r, rfl, hu, hr⟩ := r
  unfold VRs at hr
  subst hr
  obtain ⟨t, rfl⟩ := VR.int_iff.mp hu
  refine call_range_1 ?_
  have := iter_range (D := D) (A := A) (tgt := tgt) hh (a := 0) (b := n) (t := s.toks) (u := t) (w := s.toks + 1) (k := s.toks + 1 + 1) (E := E) g (by decide) (by decide) h0 h1
  rw [Int.sub_zero] at this
  exact this
theorem IterR.range2 {tgt : Expr} (hh : A.handled = none) {a n : Int} (ha : -(2 ^ 62) ≤ a) (ha' : a < 2 ^ 62) (h0 : -(2 ^ 62) ≤ n) (h1 : n < 2 ^ 62) : IterR D A tgt (.type "range") [.int a, .int n] (ranV a (n - a).toNat) := by
  intro G s E vs g r
  unfold VRs at r
  obtain ⟨u, r, rfl, hu, hr⟩ := r
  unfold VRs at hr
  obtain ⟨u', r', rfl, hu', hr⟩ := hr
  unfold VRs at hr
  subst hr
  obtain ⟨t, rfl⟩ := VR.int_iff.mp hu
  obtain ⟨t', rfl⟩ := VR.int_iff.mp hu'
  exact call_range_2 (iter_range hh g ha ha' h0 h1)

/-! ### built-in functions of one list -/
theorem GOK.keeps (g : GOK D G s) {k : Nat} (hk : ∀ b o, s.heap.get? b = some o → h'.get? b = some o) : GOK D G { s with heap := h', toks := k } ∧ Ext D.tabs G s G { s with heap := h', toks := k } :=
  ⟨⟨g.base, fun b o e => hk _ _ (g.sub b o e), fun q hq => by
    obtain ⟨a1, ps, a2, a3⟩ := g.tabs q hq
    exact ⟨a1, ps, hk _ _ a2, a3⟩⟩, ⟨⟨_, _, rfl⟩, fun _ _ e => e, fun _ a b => absurd a b, fun b o _ e => hk b o e⟩⟩
theorem VRs.one {a : V} {vs : List Value} (r : VRs D G [a] vs) : ∃ v, vs = [v] ∧ VR D G a v := by
  unfold VRs at r
  obtain ⟨u, r, rfl, hu, hr⟩ := r
  unfold VRs at hr
  subst hr
  exact ⟨u, rfl, hu⟩
theorem VRs.two {a b : V} {vs : List Value} (r : VRs D G [a, b] vs) : ∃ v w, vs = [v, w] ∧ VR D G a v ∧ VR D G b w := by
  unfold VRs at r
  obtain ⟨u, r, rfl, hu, hr⟩ := r
  obtain ⟨w, rfl, hw⟩ := hr.one
  exact ⟨u, w, rfl, hu, hw⟩
theorem CallR.len {l : List V} (hs : l.length < 2 ^ 40) : CallR D A (.builtin "len") [.list l] (.int l.length) := by
  intro G s E vs g r
  obtain ⟨v, rfl, hv⟩ := r.one
  obtain ⟨a, us, rfl, ⟨n, e⟩, rs⟩ := VR.list_iff.mp hv
  refine call_len_list (items := us.toArray) ⟨_, g.sub _ _ e, rfl, n, rfl⟩ (by simp [← rs.length]; omega) ?_
  rw [List.size_toArray, ← rs.length]
  exact ⟨G, Ext.tok .., g.tok _, VR.int_iff.mpr ⟨_, rfl⟩⟩
theorem intsItems : ∀ {us : List Value} {ns : List Int}, IntsAre us ns → ∃ xs : Array (Int × Tok), us.toArray = intItems xs ∧ xs.toList.map (·.1) = ns
  | [], [], _ => ⟨#[], by simp [intItems], rfl⟩
  | _, _, .cons n t h => by
    obtain ⟨xs, e1, e2⟩ := intsItems h
    refine ⟨((n, t) :: xs.toList).toArray, ?_, by simp [e2]⟩
    have e3 := congrArg Array.toList e1
    apply Array.ext'
    simp only [intItems, Array.toList_map] at e3 ⊢
    simp [e3]
theorem CallR.sum (hh : A.handled = none) {ns : List Int} : CallR D A (.builtin "sum") [.list (ns.map V.int)] (.int ns.sum) := by
  intro G s E vs g r
  obtain ⟨v, rfl, hv⟩ := r.one
  obtain ⟨a, us, rfl, ⟨n, e⟩, rs⟩ := VR.list_iff.mp hv
  obtain ⟨xs, e1, e2⟩ := intsItems rs.ints
  have hl : s.heap.IsList a (intItems xs) := ⟨_, g.sub _ _ e, rfl, n, by rw [e1]⟩
  refine sum_intListG hh hl fun h' tk t' hk => ?_
  obtain ⟨g', x⟩ := g.keeps (k := tk) hk
  refine ⟨G, x, g', VR.int_iff.mpr ⟨t', ?_⟩⟩
  rw [preSum_eq, List.take_of_length_le (by simp), e2]
theorem CallR.max (hh : A.handled = none) {ns : List Int} {m : Int} (hm : m ∈ ns) (hx : ∀ n ∈ ns, n ≤ m) : CallR D A (.builtin "max") [.list (ns.map V.int)] (.int m) := by
  intro G s E vs g r
  obtain ⟨v, rfl, hv⟩ := r.one
  obtain ⟨a, us, rfl, ⟨n, e⟩, rs⟩ := VR.list_iff.mp hv
  obtain ⟨xs, e1, e2⟩ := intsItems rs.ints
  have hl : s.heap.IsList a (intItems xs) := ⟨_, g.sub _ _ e, rfl, n, by rw [e1]⟩
  have hsz : 0 < xs.size := by
    cases ns with
    | nil => cases hm
    | cons n ns => have := congrArg List.length e2; simp at this; omega
  refine max_intList hh hl hsz fun v h' tk hv hk => ?_
  obtain ⟨t, rfl⟩ := intItems_at hv
  obtain ⟨h1, h2⟩ := argBest_gt (numAt xs) (xs.size - 1)
  obtain ⟨g', x⟩ := g.keeps (k := tk) hk
  refine ⟨G, x, g', VR.int_iff.mpr ⟨t, ?_⟩⟩
  have mem : numAt xs (argBest (fun i j => decide (numAt xs i > numAt xs j)) (xs.size - 1)) ∈ ns := by
    rw [numAt_eq, e2]; exact getD_mem (by rw [← e2, List.length_map, Array.length_toList]; omega)
  have top : m ≤ numAt xs (argBest (fun i j => decide (numAt xs i > numAt xs j)) (xs.size - 1)) := by
    obtain ⟨j, hj, ej⟩ := mem_getD hm
    rw [← e2, List.length_map, Array.length_toList] at hj
    have := h2 j (by omega)
    rw [numAt_eq (j := j), e2, ej] at this
    exact this
  rw [Int.le_antisymm (hx _ mem) top]
theorem CallR.max2 (hh : A.handled = none) {a b : Int} : CallR D A (.builtin "max") [.int a, .int b] (.int (if b > a then b else a)) := by
  intro G s E vs g r
  obtain ⟨v, w, rfl, hv, hw⟩ := r.two
  obtain ⟨t, rfl⟩ := VR.int_iff.mp hv
  obtain ⟨t', rfl⟩ := VR.int_iff.mp hw
  refine max_two_ints hh fun h' tk hk => ?_
  obtain ⟨g', x⟩ := g.keeps (k := tk) hk
  refine ⟨G, x, g', ?_⟩
  split <;> exact VR.int_iff.mpr ⟨_, rfl⟩
theorem CallR.divmod {a b : Int} (hb : b ≠ 0) (hl : b.natAbs.log2 < 9000) : CallR D A (.builtin "divmod") [.int a, .int b] (.tup [.int (a.fdiv b), .int (a.fmod b)]) := by
  intro G s E vs g r
  obtain ⟨v, w, rfl, hv, hw⟩ := r.two
  obtain ⟨t, rfl⟩ := VR.int_iff.mp hv
  obtain ⟨t', rfl⟩ := VR.int_iff.mp hw
  refine divmod_int hb ?_ (.inl (PyProof.noPylong_of_log2 hl))
  exact Post.newTup (us := [.int (a.fdiv b) s.toks, .int (a.fmod b) (s.toks + 1)]) (k := s.toks + 1 + 1) g (VRs.cons (VR.int_iff.mpr ⟨_, rfl⟩) (VRs.cons (VR.int_iff.mpr ⟨_, rfl⟩) VRs.nil))
end
end Mine
/-! PI5 -/
namespace Mine

structure Asg (D : Wd) (L : Addr) (G : PO) (s : Shared) (G' : PO) (s' : Shared) : Prop where
  same : ∃ h' tk, s' = { s with heap := h', toks := tk }
  le : G.le G'
  fresh : ∀ b, G b = none → G' b ≠ none → s.heap.get? b = none
  keep : ∀ b o, b ∉ D.tabs → s.heap.get? b = some o → (∀ es n, o.data ≠ .dict es n) → (∀ v, o.data ≠ .cell v) → s'.heap.get? b = some o
  keepL : ∀ b o, b ∉ D.tabs → b ≠ L → s.heap.get? b = some o → (∀ v, o.data ≠ .cell v) → s'.heap.get? b = some o
  live : ∀ b o, s.heap.get? b = some o → ∃ o', s'.heap.get? b = some o'
structure Stp (D : Wd) (G : PO) (s : Shared) (G' : PO) (s' : Shared) : Prop where
  same : ∃ h' tk, s' = { s with heap := h', toks := tk }
  le : G.le G'
  fresh : ∀ b o vs, G b = none → b ∉ D.tabs → s.heap.get? b = some o → o.data = .fields vs → G' b = none
  keep : ∀ b o vs, b ∉ D.tabs → s.heap.get? b = some o → o.data = .fields vs → s'.heap.get? b = some o
  live : ∀ b o, s.heap.get? b = some o → ∃ o', s'.heap.get? b = some o'

section
variable {D : Wd} {c : Cx D} {A : Around} {ρ ρ' : Ro} {G G' G₁ G₂ G₃ : PO} {s s' s₁ s₂ s₃ : Shared} {h h' : Heap}

theorem Ext.live (x : Ext D.tabs G s G' s') (g : GOK D G' s') (b : Addr) (o : Obj) (e : s.heap.get? b = some o) : ∃ o', s'.heap.get? b = some o' := by
  by_cases hb : b ∈ D.tabs
  · cases q : s'.heap.get? b with
    | some o' => exact ⟨o', rfl⟩
    | none => exact absurd q (g.alive hb)
  · exact ⟨o, x.keep b o hb e⟩
theorem Ext.asg (x : Ext D.tabs G s G' s') (g : GOK D G' s') {L : Addr} : Asg D L G s G' s' := ⟨x.same, x.le, x.fresh, fun b o hb e _ _ => x.keep b o hb e, fun b o hb _ e _ => x.keep b o hb e, x.live g⟩
theorem Asg.stp {L : Addr} (x : Asg D L G s G' s') : Stp D G s G' s' := ⟨x.same, x.le, fun b o vs n _ e _ => (by cases q : G' b with | none => rfl | some _ => (rw [x.fresh b n (by rw [q]; simp)] at e; cases e)), fun b o vs hb e hd => x.keep b o hb e (fun es n q => by rw [hd] at q; cases q) (fun v q => by rw [hd] at q; cases q), x.live⟩
theorem Stp.refl (D : Wd) (G : PO) (s : Shared) : Stp D G s G s := ⟨⟨_, _, rfl⟩, fun _ _ e => e, fun _ _ _ a _ _ _ => a, fun b o vs _ e _ => e, fun b o e => ⟨o, e⟩⟩
theorem Asg.refl (D : Wd) (L : Addr) (G : PO) (s : Shared) : Asg D L G s G s := ⟨⟨_, _, rfl⟩, fun _ _ e => e, fun _ a b => absurd a b, fun b o _ e _ _ => e, fun b o _ _ e _ => e, fun b o e => ⟨o, e⟩⟩
theorem fresh_trans (l1 : ∀ b o, s₁.heap.get? b = some o → ∃ o', s₂.heap.get? b = some o') (f1 : ∀ b, G₁ b = none → G₂ b ≠ none → s₁.heap.get? b = none) (f2 : ∀ b, G₂ b = none → G₃ b ≠ none → s₂.heap.get? b = none) :
    ∀ b, G₁ b = none → G₃ b ≠ none → s₁.heap.get? b = none := fun b n n' => by
  cases e : G₂ b with
  | some o => exact f1 b n (by rw [e]; simp)
  | none =>
    cases q : s₁.heap.get? b with
    | none => rfl
    | some o => obtain ⟨o', e'⟩ := l1 b o q; rw [f2 b e n'] at e'; cases e'
theorem Asg.trans {L : Addr} (x : Asg D L G₁ s₁ G₂ s₂) (y : Asg D L G₂ s₂ G₃ s₃) : Asg D L G₁ s₁ G₃ s₃ := by
  obtain ⟨h', tk, e1⟩ := x.same
  obtain ⟨h'', tk', e2⟩ := y.same
  refine ⟨⟨h'', tk', by rw [e2, e1]⟩, fun b o e => y.le b o (x.le b o e), fresh_trans x.live x.fresh y.fresh, fun b o hb e n1 n2 => y.keep b o hb (x.keep b o hb e n1 n2) n1 n2, fun b o hb hL e n2 => y.keepL b o hb hL (x.keepL b o hb hL e n2) n2, fun b o e => ?_⟩
  obtain ⟨o', e'⟩ := x.live b o e
  exact y.live b o' e'
theorem Stp.trans (x : Stp D G₁ s₁ G₂ s₂) (y : Stp D G₂ s₂ G₃ s₃) : Stp D G₁ s₁ G₃ s₃ := by
  obtain ⟨h', tk, e1⟩ := x.same
  obtain ⟨h'', tk', e2⟩ := y.same
  refine ⟨⟨h'', tk', by rw [e2, e1]⟩, fun b o e => y.le b o (x.le b o e), fun b o vs n hb e hd => y.fresh b o vs (x.fresh b o vs n hb e hd) hb (x.keep b o vs hb e hd) hd, fun b o vs hb e hd => y.keep b o vs hb (x.keep b o vs hb e hd) hd, fun b o e => ?_⟩
  obtain ⟨o', e'⟩ := x.live b o e
  exact y.live b o' e'

theorem St.forget (S : St c ρ G s) (h : ∀ (i : Nat) sl, ρ'[i]? = some (some sl) → ρ[i]? = some (some sl)) : St c ρ' G s := by
  obtain ⟨m, hm, hl⟩ := S.loc
  exact ⟨S.wf, S.ext, S.ok, S.newL, S.offL, ⟨m, hm, fun i x sl h1 h2 h3 => hl i x sl h1 h2 (h i sl h3)⟩, fun i x k h1 h2 h3 =>
    let ⟨a, v0, e1, e2, e3, e5⟩ := S.cel i x k h1 h2 h3
    ⟨a, v0, e1, e2, e3, fun sl h4 => e5 sl (h i sl h4)⟩, S.apart⟩

theorem Heap.Ns.isDict {a : Addr} {m : Str → Option Value} (x : h.Ns a m) : ∃ o es n, h.get? a = some o ∧ o.data = .dict es n := let ⟨o, es, ep, e, d, _⟩ := x; ⟨o, es, ep, e, d⟩
theorem getElem?_set_ne {α : Type} {l : List α} {i j : Nat} {a : α} (h : i ≠ j) : (l.set i a)[j]? = l[j]? := by rw [List.getElem?_set]; simp [h]
theorem nodup_idx {α : Type} : ∀ {l : List α}, l.Nodup → ∀ {i j : Nat} {x : α}, l[i]? = some x → l[j]? = some x → i = j
  | [], _, i, j, x, h1, _ => by simp at h1
  | a :: l, hn, i, j, x, h1, h2 => by
    obtain ⟨n1, n2⟩ := List.nodup_cons.mp hn
    cases i with
    | zero =>
      cases j with
      | zero => rfl
      | succ j => simp at h1 h2; subst h1; exact absurd (List.mem_of_getElem? h2) n1
    | succ i =>
      cases j with
      | zero => simp at h1 h2; subst h2; exact absurd (List.mem_of_getElem? h1) n1
      | succ j => simp at h1 h2; rw [nodup_idx n2 h1 h2]

theorem Ext.write (x : Ext D.tabs G₁ s₁ G s) {a : Addr} {k : Nat} (h0 : s₁.heap.get? a = none) (hs : Heap.SameBut a s.heap h') : Ext D.tabs G₁ s₁ G { s with heap := h', toks := k } := by
  obtain ⟨h1, tk, e⟩ := x.same
  refine ⟨⟨h', k, by rw [e]⟩, x.le, x.fresh, fun b o hb e' => ?_⟩
  exact (hs.2 b (fun q => by rw [q, h0] at e'; cases e')).trans (x.keep b o hb e')
theorem GOK.write (g : GOK D G s) {a : Addr} {k : Nat} (hG : G a = none) (ht : a ∉ D.tabs) (hs : Heap.SameBut a s.heap h') : GOK D G { s with heap := h', toks := k } :=
  ⟨g.base, fun b o e => (hs.2 b (fun q => by rw [q, hG] at e; cases e)).trans (g.sub b o e), fun q hq => by
    obtain ⟨a1, ps, a2, a3⟩ := g.tabs q hq
    exact ⟨a1, ps, (hs.2 _ (fun z => ht (by rw [← z]; exact List.mem_map_of_mem hq))).trans a2, a3⟩⟩
theorem SlotR.write {sl : Slot} {v : Value} {a : Addr} (hs : Heap.SameBut a h h') (hn : ∀ d o, h.get? d = some o → (∀ vs, o.data ≠ .fields vs) → (∀ v, o.data ≠ .cell v) → c.s0.heap.get? d = none → d ≠ c.env.locals → G d = none → d ≠ a) (x : SlotR c G h sl v) : SlotR c G h' sl v :=
  x.move (fun _ _ e => e) (fun _ a b => absurd a b) fun d o g n l e n1 n2 => (hs.2 d (hn d o e n1 n2 n l g)).trans e

theorem St.store (S : St c ρ G s) {i : Nat} {x : Str} {k : VK} {sl : Slot} {v : Value} (hx : c.names[i]? = some x) (hk : c.kinds[i]? = some k) (hne : k ≠ .ext) (hv : SlotR c G s.heap sl v)
    {Q : Unit → Shared → Prop} {E} (hQ : ∀ s', St c (ρ.set i (some sl)) G s' → Asg D c.env.locals G s G s' → Q () s') : wpAny D.M A (storeName c.env x v) Q E s := by
  have hfn := S.wf.fn
  obtain ⟨m, hm, hl⟩ := S.loc
  have get_set : ∀ (j : Nat) sl', (ρ.set i (some sl))[j]? = some (some sl') → (i = j ∧ sl' = sl) ∨ (i ≠ j ∧ ρ[j]? = some (some sl')) := fun j sl' e => by
    rw [List.getElem?_set] at e
    by_cases q : i = j
    · rw [if_pos q] at e
      split at e
      · exact .inl ⟨q, by cases e; rfl⟩
      · cases e
    · rw [if_neg q] at e; exact .inr ⟨q, e⟩
  cases k with
  | ext => exact absurd rfl hne
  | loc =>
    refine wpAny_storeName_local (S.wf.kloc i x hx hk) hm (fun h' hm' hs => ?_) (by rw [hfn]; rfl)
    obtain ⟨oL, es, n, eL, dL⟩ := Heap.Ns.isDict hm
    have ht : c.env.locals ∉ D.tabs := S.ok.notTab eL (fun vs q => by rw [dL] at q; cases q)
    have mv : ∀ {sl' v'}, SlotR c G s.heap sl' v' → SlotR c G h' sl' v' := fun y => y.write hs fun d o _ _ _ _ hd _ => hd
    refine hQ _ ⟨S.wf, S.ext.write S.newL hs, S.ok.write S.offL ht hs, S.newL, S.offL, ⟨_, hm', fun j y sl' h1 h2 h3 => ?_⟩, fun j y k h1 h2 h3 => ?_, S.apart⟩ ⟨⟨h', _, rfl⟩, fun _ _ e => e, fun _ a b => absurd a b, fun b o _ e n1 _ => (hs.2 b (fun q => by rw [q, eL] at e; cases e; exact n1 _ _ dL)).trans e, fun b o _ hL e _ => (hs.2 b hL).trans e, fun b o e => ?_⟩
    · rcases get_set j sl' h3 with ⟨rfl, rfl⟩ | ⟨hij, h3⟩
      · rw [hx] at h1; cases h1
        exact ⟨v, by simp, mv hv⟩
      · obtain ⟨v', e, r⟩ := hl j y sl' h1 h2 h3
        have hyx : y ≠ x := fun q => hij (nodup_idx S.wf.nodup hx (q ▸ h1))
        exact ⟨v', by rw [if_neg hyx]; exact e, mv r⟩
    · obtain ⟨a, v0, e1, ⟨oc, ec, dc⟩, e3, e5⟩ := S.cel j y k h1 h2 h3
      have haL : a ≠ c.env.locals := fun q => by rw [q, eL] at ec; cases ec; rw [dc] at dL; cases dL
      refine ⟨a, v0, e1, ⟨oc, (hs.2 a haL).trans ec, dc⟩, e3, fun sl' h4 => ?_⟩
      rcases get_set j sl' h4 with ⟨rfl, _⟩ | ⟨_, h4⟩
      · rw [hk] at h2; cases h2; exact absurd rfl h3
      · obtain ⟨v', e, r⟩ := e5 sl' h4; exact ⟨v', e, mv r⟩
    · by_cases q : b = c.env.locals
      · obtain ⟨o', _, _, e', _⟩ := hm'; exact ⟨o', q ▸ e'⟩
      · exact ⟨o, (hs.2 b q).trans e⟩
  | own =>
    obtain ⟨a, v0, e1, hc, e3, _⟩ := S.cel i x .own hx hk (by simp)
    obtain ⟨n0, nG⟩ := e3 rfl
    obtain ⟨oc, ec, dc⟩ := id hc
    have ht : a ∉ D.tabs := S.ok.notTab ec (fun vs q => by rw [dc] at q; cases q)
    refine wpAny_storeName_cell hfn (S.wf.kown i x hx hk) e1 hc fun h' hc' hs => ?_
    obtain ⟨oL, es, n, eL, dL⟩ := Heap.Ns.isDict hm
    have haL : c.env.locals ≠ a := fun q => by rw [q, ec] at eL; cases eL; rw [dc] at dL; cases dL
    have mv : ∀ {sl' v'}, SlotR c G s.heap sl' v' → SlotR c G h' sl' v' := fun y => y.write hs fun d o e _ n2 _ _ _ q => by rw [q, ec] at e; cases e; exact n2 _ dc
    refine hQ _ ⟨S.wf, S.ext.write (k := s.toks) n0 hs, S.ok.write (k := s.toks) nG ht hs, S.newL, S.offL, ⟨m, hm.sameBut hs haL, fun j y sl' h1 h2 h3 => ?_⟩, fun j y k h1 h2 h3 => ?_, S.apart⟩ ⟨⟨h', _, rfl⟩, fun _ _ e => e, fun _ a b => absurd a b, fun b o _ e _ n2 => (hs.2 b (fun q => by rw [q, ec] at e; cases e; exact n2 _ dc)).trans e, fun b o _ _ e n2 => (hs.2 b (fun q => by rw [q, ec] at e; cases e; exact n2 _ dc)).trans e, fun b o e => ?_⟩
    · rcases get_set j sl' h3 with ⟨rfl, _⟩ | ⟨_, h3⟩
      · rw [hk] at h2; cases h2
      · obtain ⟨v', e, r⟩ := hl j y sl' h1 h2 h3; exact ⟨v', e, mv r⟩
    · obtain ⟨a', v0', f1, f2, f3, f5⟩ := S.cel j y k h1 h2 h3
      by_cases hij : i = j
      · subst hij
        rw [hx] at h1; cases h1
        rw [hk] at h2; cases h2
        rw [e1] at f1; cases f1
        refine ⟨a, some v, e1, hc', fun _ => ⟨n0, nG⟩, fun sl' h4 => ?_⟩
        rcases get_set i sl' h4 with ⟨_, rfl⟩ | ⟨q, _⟩
        · exact ⟨v, rfl, mv hv⟩
        · exact absurd rfl q
      · have ha' : a' ≠ a := fun q => hij (S.apart i j x y a k hx h1 hk h2 h3 e1 (q ▸ f1))
        refine ⟨a', v0', f1, f2.sameBut hs ha', f3, fun sl' h4 => ?_⟩
        rcases get_set j sl' h4 with ⟨q, _⟩ | ⟨_, h4⟩
        · exact absurd q hij
        · obtain ⟨v', e, r⟩ := f5 sl' h4; exact ⟨v', e, mv r⟩
    · by_cases q : b = a
      · obtain ⟨o', e', _⟩ := hc'; exact ⟨o', q ▸ e'⟩
      · exact ⟨o, (hs.2 b q).trans e⟩
end
end Mine
/-! PI6 -/
namespace Mine
section
variable {D : Wd} {c : Cx D} {A : Around} {ρ ρ' ρ'' : Ro} {G G' G₁ G₂ G₃ : PO} {s s' s₁ s₂ s₃ : Shared} {h h' : Heap}

/-! ### targets -/
noncomputable def AsgR {D : Wd} (c : Cx D) (ρ : Ro) (t : Expr) (x : V) (ρ' : Ro) : Prop :=
  ∀ G s v (Q : Unit → Shared → Prop) E, St c ρ G s → VR D G x v → (∀ s', St c ρ' G s' → Asg D c.env.locals G s G s' → Q () s') → wpAny D.M c.A (assign t c.env v) Q E s
noncomputable def AsgRs {D : Wd} (c : Cx D) (ρ : Ro) (ts : List Expr) (xs : List V) (ρ' : Ro) : Prop :=
  ts.length = xs.length ∧ (∀ env, (assignEach ts env).findIdx? (·.1) = none) ∧ (∀ env, (assignEach ts env).length = ts.length) ∧
  ∀ G s vs (Q : Unit → Shared → Prop) E, St c ρ G s → VRs D G xs vs → (∀ s', St c ρ' G s' → Asg D c.env.locals G s G s' → Q () s') → wpAny D.M c.A (assignInOrder ((assignEach ts c.env).map (·.2)) vs) Q E s
theorem AsgR.name {i : Nat} {x : Str} {pos : Pos} {k : VK} {a : V} (hx : c.names[i]? = some x) (hk : c.kinds[i]? = some k) (hne : k ≠ .ext := by decide) : AsgR c ρ (.Name x pos) a (ρ.set i (some (.val a))) :=
  fun G s v Q E S r hQ => wpAny_assign_Name (S.store (sl := .val a) hx hk hne r hQ)
theorem AsgRs.nil : AsgRs c ρ [] [] ρ := ⟨rfl, fun _ => rfl, fun _ => rfl, fun G s vs Q E S r hQ => by
  unfold VRs at r; subst r
  exact wpAny_assignInOrder_none (hQ s S (Asg.refl ..))⟩
theorem AsgRs.cons {x : Str} {pos : Pos} {ts : List Expr} {a : V} {xs : List V} (h : AsgR c ρ (.Name x pos) a ρ') (hs : AsgRs c ρ' ts xs ρ'') : AsgRs c ρ (.Name x pos :: ts) (a :: xs) ρ'' := by
  refine ⟨by rw [List.length_cons, List.length_cons, hs.1], fun env => ?_, fun env => ?_, fun G s vs Q E S r hQ => ?_⟩
  · show ((false, _) :: assignEach ts env).findIdx? (·.1) = none
    rw [List.findIdx?_cons]; simp [hs.2.1 env]
  · show ((false, _) :: assignEach ts env).length = _
    rw [List.length_cons, hs.2.2.1 env, List.length_cons]
  · unfold VRs at r
    obtain ⟨u, r, rfl, hu, hr⟩ := r
    show wpAny D.M c.A (assignInOrder (assign (.Name x pos) c.env :: (assignEach ts c.env).map (·.2)) (u :: r)) Q E s
    refine wpAny_assignInOrder_more (h G s u _ E S hu fun s₁ S₁ a₁ => ?_)
    exact hs.2.2.2 G s₁ r Q E S₁ hr fun s₂ S₂ a₂ => hQ s₂ S₂ (a₁.trans a₂)
theorem AsgR.tup {ts : List Expr} {k : Nat} {pos : Pos} {xs : List V} (h : AsgRs c ρ ts xs ρ') : AsgR c ρ (.Tuple ts k pos) (.tup xs) ρ' := by
  intro G s v Q E S r hQ
  obtain ⟨a, us, rfl, ⟨n, e⟩, rs⟩ := VR.tup_iff.mp r
  have e2 := S.ok.sub _ _ e
  refine wpAny_assign_Tuple (items := us.toArray) S.wf.hand ⟨_, e2, rfl, n, rfl⟩ (by rw [h.2.2.1, h.1, rs.length]; simp) (h.2.1 _) fun h' hx => ?_
  have hk : ∀ b o, s.heap.get? b = some o → h'.get? b = some o := fun b o e => hx b o (Nat.ne_of_lt (Heap.lt_size e)) e
  obtain ⟨g', x⟩ := S.ok.keeps (k := s.toks) hk
  exact h.2.2.2 G _ us Q E (S.step x g') rs fun s₁ S₁ a₁ => hQ s₁ S₁ ((x.asg g').trans a₁)

/-! ### the frame of a comprehension -/
theorem newEnv_comp {M : Model} {scope : Scope} {cl : List (Str × Addr)} {env : Env} {Q : Env → Shared → Prop} {E} 
    (hQ : Q { scope, locals := s.heap.objs.size, globals := env.globals, cells := cellsFrom (s.heap.objs.size + 1) scope.names cl, qual := env.qual, func := none, code := env.code, frame := env.frame, builtins := env.builtins }
      { s with heap := pushCells (s.heap.push { cls := .type "dict", data := .dict #[] }) scope.names }) :
    wpAny M A (newFunctionEnv scope env.globals cl [] env.qual none .none (some env)) Q E s := by
  unfold newFunctionEnv
  refine wpAny_bind (wpAny_alloc ?_)
  simp only [List.forIn_nil]
  refine wpAny_bind (wpAny_layCells _ ?_ scope.names cl _ _ ?_)
  · intro name kind cells; rfl
  · rw [Heap.size_push]
    exact wpAny_bind (wpAny_pure (wpAny_pure hQ))

noncomputable def ownCells : List (Str × NameKind) → List Str
  | [] => []
  | (n, k) :: r => if k == .cell then n :: ownCells r else ownCells r
theorem cellsFrom_other : ∀ (names : List (Str × NameKind)) (n : Nat) (acc : List (Str × Addr)) (x : Str), x ∉ ownCells names → (cellsFrom n names acc).lookup x = acc.lookup x
  | [], _, _, _, _ => rfl
  | (m, k) :: r, n, acc, x, hx => by
    unfold cellsFrom
    unfold ownCells at hx
    split
    · rename_i hk
      rw [if_pos hk] at hx
      rw [cellsFrom_other r _ _ x (fun q => hx (.tail _ q)), List.lookup_cons]
      have : (x == m) = false := by simpa using fun q : x = m => hx (q ▸ .head _)
      rw [this]
    · rename_i hk
      rw [if_neg hk] at hx
      exact cellsFrom_other r _ _ x hx
theorem ownCells_yes {m : Str} {k : NameKind} {r : List (Str × NameKind)} (hk : (k == NameKind.cell) = true) : ownCells ((m, k) :: r) = m :: ownCells r := by rw [ownCells, if_pos hk]
theorem ownCells_no {m : Str} {k : NameKind} {r : List (Str × NameKind)} (hk : ¬ (k == NameKind.cell) = true) : ownCells ((m, k) :: r) = ownCells r := by rw [ownCells, if_neg hk]
theorem cellsFrom_own : ∀ (names : List (Str × NameKind)) (h : Heap) (acc : List (Str × Addr)), (ownCells names).Nodup → ∀ x ∈ ownCells names, ∃ a, (cellsFrom h.objs.size names acc).lookup x = some a ∧ h.objs.size ≤ a ∧
    (pushCells h names).IsCell a none
  | [], _, _, _, _, hx => by cases hx
  | (m, k) :: r, h, acc, hn, x, hx => by
    unfold cellsFrom pushCells
    by_cases hk : (k == NameKind.cell) = true
    · rw [ownCells_yes hk] at hx hn
      rw [if_pos hk, if_pos hk]
      obtain ⟨n1, n2⟩ := List.nodup_cons.mp hn
      have hz : (h.push { cls := .type "cell", data := .cell none }).objs.size = h.objs.size + 1 := Heap.size_push ..
      rcases List.mem_cons.mp hx with rfl | hx
      · refine ⟨h.objs.size, ?_, Nat.le_refl _, ⟨_, pushCells_keeps r _ _ _ (Heap.get?_push_size _ rfl), rfl⟩⟩
        rw [cellsFrom_other r _ _ x n1]; simp
      · obtain ⟨a, e1, e2, e3⟩ := cellsFrom_own r (h.push { cls := .type "cell", data := .cell none }) ((m, h.objs.size) :: acc) n2 x hx
        rw [hz] at e1 e2
        exact ⟨a, e1, by omega, e3⟩
    · rw [ownCells_no hk] at hx hn
      rw [if_neg hk, if_neg hk]
      exact cellsFrom_own r h acc hn x hx
theorem cellsFrom_apart : ∀ (names : List (Str × NameKind)) (h : Heap) (acc : List (Str × Addr)), (ownCells names).Nodup → ∀ x ∈ ownCells names, ∀ y ∈ ownCells names, ∀ a, (cellsFrom h.objs.size names acc).lookup x = some a → (cellsFrom h.objs.size names acc).lookup y = some a → x = y
  | [], _, _, _, _, hx, _, _, _, _, _ => by cases hx
  | (m, k) :: r, h, acc, hn, x, hx, y, hy, a, e1, e2 => by
    unfold cellsFrom at e1 e2
    by_cases hk : (k == NameKind.cell) = true
    · rw [ownCells_yes hk] at hx hy hn
      rw [if_pos hk] at e1 e2
      obtain ⟨n1, n2⟩ := List.nodup_cons.mp hn
      have hz : (h.push { cls := .type "cell", data := .cell none }).objs.size = h.objs.size + 1 := Heap.size_push ..
      have at_m : (cellsFrom (h.objs.size + 1) r ((m, h.objs.size) :: acc)).lookup m = some h.objs.size := by rw [cellsFrom_other r _ _ m n1]; simp
      have up : ∀ z ∈ ownCells r, ∀ a, (cellsFrom (h.objs.size + 1) r ((m, h.objs.size) :: acc)).lookup z = some a → h.objs.size + 1 ≤ a := fun z hz' a e => by
        obtain ⟨a', e1', e2', _⟩ := cellsFrom_own r (h.push { cls := .type "cell", data := .cell none }) ((m, h.objs.size) :: acc) n2 z hz'
        rw [hz] at e1' e2'
        rw [e] at e1'; cases e1'; exact e2'
      by_cases qx : x = m <;> by_cases qy : y = m
      · rw [qx, qy]
      · rcases List.mem_cons.mp hy with hy | hy
        · exact absurd hy qy
        · rw [qx, at_m] at e1; cases e1; have := up y hy _ e2; omega
      · rcases List.mem_cons.mp hx with hx | hx
        · exact absurd hx qx
        · rw [qy, at_m] at e2; cases e2; have := up x hx _ e1; omega
      · rcases List.mem_cons.mp hx with hx | hx
        · exact absurd hx qx
        · rcases List.mem_cons.mp hy with hy | hy
          · exact absurd hy qy
          · rw [← hz] at e1 e2
            exact cellsFrom_apart r (h.push { cls := .type "cell", data := .cell none }) ((m, h.objs.size) :: acc) n2 x hx y hy a e1 e2
    · rw [ownCells_no hk] at hx hy hn
      rw [if_neg hk] at e1 e2
      exact cellsFrom_apart r h acc hn x hx y hy a e1 e2

/-! ### closures -/
noncomputable def freeNames : List (Str × NameKind) → List Str
  | [] => []
  | (n, k) :: r => if k == .free then n :: freeNames r else freeNames r
theorem closure_of {env : Env} : ∀ (names : List (Str × NameKind)) (acc : List (Str × Addr)), (∀ x ∈ freeNames names, ∃ a, env.cells.lookup x = some a) →
    ∃ cl, (forIn names acc fun (p : Str × NameKind) cs => if (p.2 == NameKind.free) = true then (do let a ← cellOf env p.1; pure (ForInStep.yield ((p.1, a) :: cs))) else pure (ForInStep.yield cs) : Sem (List (Str × Addr))) = pure cl ∧
      (∀ x ∈ freeNames names, cl.lookup x = env.cells.lookup x) ∧ (∀ x, x ∉ freeNames names → cl.lookup x = acc.lookup x)
  | [], acc, _ => ⟨acc, rfl, fun _ h => (by cases h), fun _ _ => rfl⟩
  | (m, k) :: r, acc, hx => by
    by_cases hk : (k == NameKind.free) = true
    · have e0 : freeNames ((m, k) :: r) = m :: freeNames r := by rw [freeNames, if_pos hk]
      obtain ⟨a, ea⟩ := hx m (by rw [e0]; exact .head _)
      obtain ⟨cl, e1, e2, e3⟩ := closure_of (env := env) r ((m, a) :: acc) fun x h => hx x (by rw [e0]; exact .tail _ h)
      refine ⟨cl, ?_, fun x h => ?_, fun x h => ?_⟩
      · rw [List.forIn_cons, if_pos hk]
        have : cellOf env m = pure a := by unfold cellOf; rw [ea]
        rw [this]
        exact e1
      · by_cases hm : x ∈ freeNames r
        · exact e2 x hm
        · rw [e0] at h
          rcases List.mem_cons.mp h with rfl | h
          · rw [e3 x hm]; simp [ea]
          · exact absurd h hm
      · rw [e0] at h
        rw [e3 x (fun q => h (.tail _ q)), List.lookup_cons]
        have : (x == m) = false := by simpa using fun q : x = m => h (q ▸ .head _)
        rw [this]
    · have e0 : freeNames ((m, k) :: r) = freeNames r := by rw [freeNames, if_neg hk]
      rw [e0] at hx ⊢
      obtain ⟨cl, e1, e2, e3⟩ := closure_of (env := env) r acc hx
      exact ⟨cl, by rw [List.forIn_cons, if_neg hk]; exact e1, e2, e3⟩
theorem closureFor_of {env : Env} {scope : Scope} (hx : ∀ x ∈ freeNames scope.names, ∃ a, env.cells.lookup x = some a) :
    ∃ cl, closureFor scope env = pure cl ∧ ∀ x ∈ freeNames scope.names, cl.lookup x = env.cells.lookup x := by
  obtain ⟨cl, e1, e2, _⟩ := closure_of (env := env) scope.names [] hx
  refine ⟨cl, ?_, e2⟩
  unfold closureFor
  show (forIn scope.names ([] : List (Str × Addr)) (fun (p : Str × NameKind) cs => if (p.2 == NameKind.free) = true then (do let a ← cellOf env p.1; pure (ForInStep.yield ((p.1, a) :: cs))) else pure (ForInStep.yield cs)) >>= fun cs => pure cs : Sem (List (Str × Addr))) = pure cl
  rw [e1]
  rfl
end
end Mine
/-! PI7 -/
namespace Mine
section
variable {D : Wd} {c : Cx D} {A : Around} {ρ ρ' ρ'' ρ0 : Ro} {G G' Ga G₁ G₂ G₃ : PO} {s s' sa s₁ s₂ s₃ : Shared} {h h' : Heap}

/-! ### loops over an iterator -/
theorem St.stepA (S : St c ρ G s) {I : Addr} {o : Obj} {vs : Array Value} (x : Ext (I :: D.tabs) G s G' s') (g : GOK D G' s') (e : s.heap.get? I = some o) (hd : o.data = .fields vs) (h0 : c.s0.heap.get? I = none) : St c ρ G' s' := by
  have nt : ∀ b o', s.heap.get? b = some o' → (∀ vs, o'.data ≠ .fields vs) → b ∉ I :: D.tabs := fun b o' e' hn q => by
    rcases List.mem_cons.mp q with rfl | q
    · rw [e] at e'; cases e'; exact hn _ hd
    · exact S.ok.notTab e' hn q
  have kp : ∀ b o, s.heap.get? b = some o → (∀ vs, o.data ≠ .fields vs) → s'.heap.get? b = some o := fun b o e hn => x.keep b o (nt b o e hn) e
  have mv : ∀ {sl v}, SlotR c G s.heap sl v → SlotR c G' s'.heap sl v := fun y => y.move x.le x.fresh fun d o _ _ _ e n _ => kp d o e n
  obtain ⟨m, hm, hl⟩ := S.loc
  obtain ⟨oL, eL, nL, _⟩ := Heap.Ns.data hm
  have offL : G' c.env.locals = none := by
    cases q : G' c.env.locals with
    | none => rfl
    | some _ => rw [x.fresh _ S.offL (by rw [q]; simp)] at eL; cases eL
  have ext : Ext D.tabs c.G0 c.s0 G' s' := by
    obtain ⟨h1, tk, e1⟩ := S.ext.same
    obtain ⟨h2, tk2, e2⟩ := x.same
    refine ⟨⟨h2, tk2, by rw [e2, e1]⟩, fun b o e => x.le b o (S.ext.le b o e), ?_, fun b o hb e' => x.keep b o (fun q => ?_) (S.ext.keep b o hb e')⟩
    · exact fresh_trans (S.ext.live S.ok) S.ext.fresh x.fresh
    · rcases List.mem_cons.mp q with rfl | q
      · rw [h0] at e'; cases e'
      · exact hb q
  refine ⟨S.wf, ext, g, S.newL, offL, ⟨m, hm.at' fun o e => kp _ o e (by rw [eL] at e; cases e; exact nL), fun i y sl h1 h2 h3 => ?_⟩, fun i y k h1 h2 h3 => ?_, S.apart⟩
  · obtain ⟨v, e, r⟩ := hl i y sl h1 h2 h3
    exact ⟨v, e, mv r⟩
  · obtain ⟨a, v0, e1, e2, e3, e5⟩ := S.cel i y k h1 h2 h3
    obtain ⟨oc, ec, dc⟩ := e2
    have nf : ∀ vs, oc.data ≠ .fields vs := fun vs q => by rw [dc] at q; cases q
    refine ⟨a, v0, e1, ⟨oc, kp a oc ec nf, dc⟩, fun hk => ⟨(e3 hk).1, ?_⟩, fun sl h4 => ?_⟩
    · cases q : G' a with
      | none => rfl
      | some _ => rw [x.fresh _ (e3 hk).2 (by rw [q]; simp)] at ec; cases ec
    · obtain ⟨v, h5, r⟩ := e5 sl h4
      exact ⟨v, h5, mv r⟩
theorem SlotR.stepA {sl : Slot} {v : Value} (y : SlotR c G s.heap sl v) (g0 : GOK D G s) {I : Addr} {o : Obj} {vs : Array Value} (x : Ext (I :: D.tabs) G s G' s') (e : s.heap.get? I = some o) (hd : o.data = .fields vs) : SlotR c G' s'.heap sl v :=
  y.move x.le x.fresh fun d o' _ _ _ e' n _ => x.keep d o' (fun q => by
    rcases List.mem_cons.mp q with rfl | q
    · rw [e] at e'; cases e'; exact n _ hd
    · exact g0.notTab e' n q) e'
theorem Stp.away (x : Stp D Ga sa G s) (g : GOK D G' s') {I : Addr} (y : Ext (I :: D.tabs) G s G' s') (h0 : sa.heap.get? I = none) : Stp D Ga sa G' s' := by
  obtain ⟨h1, tk, e1⟩ := x.same
  obtain ⟨h2, tk2, e2⟩ := y.same
  have nI : ∀ b o, sa.heap.get? b = some o → b ≠ I := fun b o e q => by rw [q, h0] at e; cases e
  refine ⟨⟨h2, tk2, by rw [e2, e1]⟩, fun b o e => y.le b o (x.le b o e), fun b o vs n hb e hd => (by cases q : G' b with | none => rfl | some _ => (have := x.keep b o vs hb e hd; rw [y.fresh b (x.fresh b o vs n hb e hd) (by rw [q]; simp)] at this; cases this)), fun b o vs hb e hd => y.keep b o (fun q => ?_) (x.keep b o vs hb e hd), fun b o e => ?_⟩
  · rcases List.mem_cons.mp q with q | q
    · exact nI b o e q
    · exact hb q
  · by_cases hb : b ∈ D.tabs
    · cases q : s'.heap.get? b with
      | some o' => exact ⟨o', rfl⟩
      | none => exact absurd q (g.alive hb)
    · obtain ⟨o', e'⟩ := x.live b o e
      exact ⟨o', y.keep b o' (fun q => by
        rcases List.mem_cons.mp q with q | q
        · exact nI b o e q
        · exact hb q) e'⟩
theorem Asg.slot (x : Asg D c.env.locals G s G' s') (g : GOK D G s) {a : V} {v : Value} (y : SlotR c G s.heap (.own a) v) : SlotR c G' s'.heap (.own a) v :=
  y.move x.le x.fresh fun d o _ _ hL e n1 n2 => x.keepL d o (g.notTab e n1) hL e n2

noncomputable def NoOwn (ρ : Ro) : Prop := ∀ (i : Nat) (a : V), ρ[i]? ≠ some (some (Slot.own a))
noncomputable def Sub (ρ ρ' : Ro) : Prop := ∀ (i : Nat) sl, ρ[i]? = some (some sl) → ρ'[i]? = some (some sl)

theorem St.writeAt (S : St c ρ G s) (hno : NoOwn ρ) {d : Addr} {o : Obj} {k : Nat} (e : s.heap.get? d = some o) (h0 : c.s0.heap.get? d = none) (hG : G d = none) (hL : d ≠ c.env.locals) (n1 : ∀ vs, o.data ≠ .fields vs) (n2 : ∀ v, o.data ≠ .cell v)
    (hs : Heap.SameBut d s.heap h') : St c ρ G { s with heap := h', toks := k } := by
  have ht : d ∉ D.tabs := S.ok.notTab e n1
  obtain ⟨m, hm, hl⟩ := S.loc
  have mv : ∀ {i : Nat} {sl v}, ρ[i]? = some (some sl) → SlotR c G s.heap sl v → SlotR c G h' sl v := fun {i sl v} hi y => by
    cases sl with
    | val a => exact y
    | own a => exact absurd hi (hno i a)
  refine ⟨S.wf, S.ext.write h0 hs, S.ok.write hG ht hs, S.newL, S.offL, ⟨m, hm.sameBut hs (Ne.symm hL), fun i y sl h1 h2 h3 => ?_⟩, fun i y k h1 h2 h3 => ?_, S.apart⟩
  · obtain ⟨v, e, r⟩ := hl i y sl h1 h2 h3
    exact ⟨v, e, mv h3 r⟩
  · obtain ⟨a, v0, e1, ⟨oc, ec, dc⟩, e3, e5⟩ := S.cel i y k h1 h2 h3
    have ha : a ≠ d := fun q => by rw [q, e] at ec; cases ec; exact n2 _ dc
    refine ⟨a, v0, e1, ⟨oc, (hs.2 a ha).trans ec, dc⟩, e3, fun sl h4 => ?_⟩
    obtain ⟨v, h5, r⟩ := e5 sl h4
    exact ⟨v, h5, mv h4 r⟩
theorem Stp.write (x : Stp D Ga sa G s) {d : Addr} {o : Obj} {k : Nat} (e : s.heap.get? d = some o) (h0 : sa.heap.get? d = none) (hs : Heap.SameBut d s.heap h') : Stp D Ga sa G { s with heap := h', toks := k } := by
  obtain ⟨h1, tk, e1⟩ := x.same
  refine ⟨⟨h', k, by rw [e1]⟩, x.le, x.fresh, fun b o vs hb e hd => ?_, fun b o e => ?_⟩
  · exact (hs.2 b (fun q => by rw [q, h0] at e; cases e)).trans (x.keep b o vs hb e hd)
  · by_cases q : b = d
    · rw [q, h0] at e; cases e
    · obtain ⟨o', e'⟩ := x.live b o e
      exact ⟨o', (hs.2 b q).trans e'⟩

/-! ### freezing -/
theorem GOK.freeze (g : GOK D G s) {d : Addr} {o : Obj} (e : s.heap.get? d = some o) (hG : G d = none) (ht : d ∉ D.tabs) : GOK D (G.add d o) s := by
  have le := PO.le_add (o := o) hG
  refine ⟨fun b o' q => le b o' (g.base b o' q), fun b o' q => ?_, g.tabs.mono le (fun b hb => ?_) fun _ _ => rfl⟩
  · unfold PO.add at q
    by_cases z : b = d
    · rw [if_pos z] at q; cases q; rw [z]; exact e
    · rw [if_neg z] at q; exact g.sub b o' q
  · unfold PO.add; rw [if_neg (fun z : b = d => ht (z ▸ hb))]; exact g.notab hb
theorem Ext.freeze (x : Ext D.tabs G₁ s₁ G s) {d : Addr} {o : Obj} (hG : G d = none) (h0 : s₁.heap.get? d = none) : Ext D.tabs G₁ s₁ (G.add d o) s := by
  refine ⟨x.same, fun b o' e => PO.le_add hG b o' (x.le b o' e), fun b n n' => ?_, x.keep⟩
  unfold PO.add at n'
  by_cases z : b = d
  · rw [z]; exact h0
  · rw [if_neg z] at n'; exact x.fresh b n n'
theorem VR.frozen {d : Addr} {a : V} {o : Obj} (hsm : d ≠ sysModules) (e : h.get? d = some o) (hG : G d = none) (x : OwnR D G h d a) : VR D (G.add d o) a (.ref d) := by
  unfold OwnR at x
  split at x
  · obtain ⟨us, y, n, e'⟩ := x
    rw [e] at e'; cases e'
    exact VR.list_iff.mpr ⟨d, us, rfl, ⟨n, PO.add_self ..⟩, y.mono (PO.le_add hG)⟩
  · obtain ⟨us, el, y, o', es, ep, e', r⟩ := x
    rw [e] at e'; cases e'
    exact VR.dict_iff.mpr ⟨d, us, rfl, hsm, el, ⟨_, es, ep, PO.add_self .., r⟩, y.mono (PO.le_add hG)⟩
  · exact x.elim

/-! ### the rest of a turn of a comprehension -/
noncomputable abbrev tests (ifs : List Expr) (env : Env) : Sem Bool := forIn ifs true fun c r => if r = true then do let ok ← isTrue c env (eval c env); pure (ForInStep.yield ok) else pure (ForInStep.yield r)
noncomputable def TestsR {D : Wd} (c : Cx D) (ρ : Ro) (ifs : List Expr) (b : Bool) : Prop := ∀ G s E, St c ρ G s → wpAny D.M c.A (tests ifs c.env) (PostB D G s b) E s
theorem TestsR.nil : TestsR c ρ [] true := fun G s E S => wpAny_pure ⟨G, Ext.refl .., S.ok, rfl⟩
theorem TestsR.one {e : Expr} {b : Bool} (h : Tst c ρ e b) : TestsR c ρ [e] b := fun G s E S => wpAny_tests_one (h.run G s E S)

noncomputable def BodyR {D : Wd} (c : Cx D) (ρ : Ro) (body : Value → (Unit → Shared → Prop) → (Value → Shared → Prop) → Shared → Prop) (a a' : V) : Prop :=
  ∀ G s E acc (Q : Unit → Shared → Prop), St c ρ G s → SlotR c G s.heap (.own a) acc → (∀ G' s', St c ρ G' s' → Stp D G s G' s' → SlotR c G' s'.heap (.own a') acc → Q () s') → body acc Q E s
noncomputable def TailR {D : Wd} (c : Cx D) (ρ : Ro) (ifs : List Expr) (body : Value → (Unit → Shared → Prop) → (Value → Shared → Prop) → Shared → Prop) (a a' : V) : Prop :=
  ∀ G s E acc (Q : Unit → Shared → Prop), St c ρ G s → SlotR c G s.heap (.own a) acc → (∀ G' s', St c ρ G' s' → Stp D G s G' s' → SlotR c G' s'.heap (.own a') acc → Q () s') →
    wpAny D.M c.A (tests ifs c.env) (fun ok s' => if ok = true then body acc Q E s' else Q () s') E s
theorem Ext.slot (x : Ext D.tabs G s G' s') (g : GOK D G s) {sl : Slot} {v : Value} (y : SlotR c G s.heap sl v) : SlotR c G' s'.heap sl v := y.move x.le x.fresh fun d o _ _ _ e n _ => x.keep d o (g.notTab e n) e
theorem Ext.stp (x : Ext D.tabs G s G' s') (g : GOK D G' s') : Stp D G s G' s' := (x.asg g (L := 0)).stp
variable {body : Value → (Unit → Shared → Prop) → (Value → Shared → Prop) → Shared → Prop} {ifs : List Expr} {a a' : V}
theorem TailR.skip (h : TestsR c ρ ifs false) : TailR c ρ ifs body a a := fun G s E acc Q S y hQ =>
  wpAny_mono (h G s E S) (fun ok s' ⟨G', x, g, e⟩ => by subst e; exact hQ G' s' (S.step x g) (x.stp g) (x.slot S.ok y)) fun _ _ e => e
theorem TailR.emit (h : TestsR c ρ ifs true) (hb : BodyR c ρ body a a') : TailR c ρ ifs body a a' := fun G s E acc Q S y hQ =>
  wpAny_mono (h G s E S) (fun ok s' ⟨G', x, g, e⟩ => by subst e; exact hb G' s' E acc Q (S.step x g) (x.slot S.ok y) fun G₂ s₂ S₂ x₂ y₂ => hQ G₂ s₂ S₂ ((x.stp g).trans x₂) y₂) fun _ _ e => e
theorem TailR.ite {b : Bool} (h : TestsR c ρ ifs b) (hb : b = true → BodyR c ρ body a a') (he : b = false → a' = a) : TailR c ρ ifs body a a' := by
  cases b with
  | true => exact .emit h (hb rfl)
  | false => rw [he rfl]; exact .skip h

noncomputable def Chain {D : Wd} (c : Cx D) (ρ0 : Ro) (tgt : Expr) (ifs : List Expr) (body : Value → (Unit → Shared → Prop) → (Value → Shared → Prop) → Shared → Prop) : List V → V → V → Prop
  | [], a, a' => a' = a
  | x :: xs, a, a' => ∃ ρ' a₁, AsgR c ρ0 tgt x ρ' ∧ Sub ρ0 ρ' ∧ TailR c ρ' ifs body a a₁ ∧ Chain c ρ0 tgt ifs body xs a₁ a'

noncomputable def Unf (D : Wd) (A : Around) (e : Expr) (depth : Nat) (env : Env) (tgt : Expr) (ifs : List Expr) (body : Value → (Unit → Shared → Prop) → (Value → Shared → Prop) → Shared → Prop) : Prop :=
  ∀ I d s (R : Result → Shared → Prop), (∀ E, wpAny D.M A (pyNext (.ref I)) (fun r s₁ => match r with
      | none => R (.ok .next) s₁
      | some v => wpAny D.M A (letOwnedTupleGo tgt (.ref I) v) (fun _ s₂ => wpAny D.M A (assign tgt env v) (fun _ s₃ => wpAny D.M A (tests ifs env) (fun ok s' =>
          if ok = true then body (.ref d) (fun _ s' => codeAny D.M A (.compLoop e depth (.ref I) (.ref d) env) R s') E s'
          else codeAny D.M A (.compLoop e depth (.ref I) (.ref d) env) R s') E s₃) E s₂) E s₁) E s) →
    codeAny D.M A (.compLoop e depth (.ref I) (.ref d) env) R s

theorem comp_loop {e tgt : Expr} {depth : Nat} (U : Unf D c.A e depth c.env tgt ifs body) {I : Addr} {xs : List V} {J : Nat → PO → Heap → Prop} (W : Wk D c.A tgt I xs J) (hT : I ∉ D.tabs) (h0 : c.s0.heap.get? I = none) (ha0 : sa.heap.get? I = none) {R : Result → Shared → Prop} {d : Addr} :
    ∀ (suf pre : List V) (a : V) (G : PO) (s : Shared), xs = pre ++ suf → Chain c ρ0 tgt ifs body suf a a' → J pre.length G s.heap → G I = none → St c ρ0 G s → Stp D Ga sa G s → SlotR c G s.heap (.own a) (.ref d) →
      (∀ G' s', St c ρ0 G' s' → Stp D Ga sa G' s' → SlotR c G' s'.heap (.own a') (.ref d) → R (.ok .next) s') →
      codeAny D.M c.A (.compLoop e depth (.ref I) (.ref d) c.env) R s := by
  intro suf
  induction suf with
  | nil =>
    intro pre a G s hx hc j gI S x y hR
    refine U I d s R fun E => ?_
    rw [List.append_nil] at hx; subst hx
    obtain ⟨o, vs, eo, do'⟩ := W.obj _ _ _ j
    refine wpAny_mono (W.done G s E j S.ok gI) (fun r s₁ ⟨hr, G₁, x₁, g₁⟩ => ?_) fun _ _ e => e
    subst hr
    unfold Chain at hc
    subst hc
    exact hR G₁ s₁ (S.stepA x₁ g₁ eo do' h0) (x.away g₁ x₁ ha0) (y.stepA S.ok x₁ eo do')
  | cons v suf ih =>
    intro pre a G s hx hc j gI S x y hR
    refine U I d s R fun E => ?_
    obtain ⟨o, vs, eo, do'⟩ := W.obj _ _ _ j
    obtain ⟨ρ', a₁, c1, c3, c5, c6⟩ := hc
    have hv : xs[pre.length]? = some v := by rw [hx]; simp
    refine wpAny_mono (W.item pre.length G s E v hv j S.ok gI) (fun r s₁ ⟨u, hr, k⟩ => ?_) fun _ _ e => e
    subst hr
    refine wpAny_mono k (fun _ s₂ ⟨G₂, x₂, g₂, r₂, j₂⟩ => ?_) fun _ _ e => e
    have gI₂ : G₂ I = none := by
      cases q : G₂ I with
      | none => rfl
      | some _ => rw [x₂.fresh _ gI (by rw [q]; simp)] at eo; cases eo
    have S₂ := S.stepA x₂ g₂ eo do' h0
    refine c1 G₂ s₂ u _ E S₂ r₂ fun s₃ S₃ b₃ => ?_
    have y₂ := y.stepA S.ok x₂ eo do'
    have y₃ := b₃.slot S₂.ok y₂
    refine c5 G₂ s₃ E (.ref d) (fun _ s' => codeAny D.M c.A (.compLoop e depth (.ref I) (.ref d) c.env) R s') S₃ y₃ fun G₄ s₄ S₄ x₄ y₄ => ?_
    obtain ⟨o₂, vs₂, e₂, d₂⟩ := W.obj _ _ _ j₂
    have xx : Stp D G₂ s₂ G₄ s₄ := b₃.stp.trans x₄
    have gI₄ : G₄ I = none := xx.fresh I o₂ vs₂ gI₂ hT e₂ d₂
    refine ih (pre ++ [v]) a₁ G₄ s₄ (by rw [hx]; simp) c6 ?_ gI₄ (S₄.forget c3) ((x.away g₂ x₂ ha0).trans xx) y₄ hR
    rw [List.length_append, List.length_singleton]
    exact W.stable _ _ _ _ _ j₂ xx.le S₄.ok.sub fun o' e' => by rw [e₂] at e'; cases e'; exact xx.keep I o₂ vs₂ hT e₂ d₂
end
end Mine
/-! PI8 -/
namespace Mine

/-! ### the names of a scope -/
noncomputable def nk1 : Str × NameKind → Option (Str × VK)
  | (n, .local) => some (n, .loc)
  | (n, .cell) => some (n, .own)
  | (n, .free) => some (n, .ext)
  | _ => none
noncomputable def nk (l : List (Str × NameKind)) : List (Str × VK) := l.filterMap nk1
noncomputable def nkN (l : List (Str × NameKind)) : List Str := (nk l).map (·.1)
noncomputable def nkK (l : List (Str × NameKind)) : List VK := (nk l).map (·.2)
noncomputable def okNames (l : List (Str × NameKind)) : Bool := decide (l.map (·.1)).Nodup && l.all fun p => !(p.1 == ("__debug__" : Str)) && !(p.1 == ("__classdict__" : Str))
theorem lookup_of_nodup : ∀ {l : List (Str × NameKind)} {x : Str} {k : NameKind}, (l.map (·.1)).Nodup → (x, k) ∈ l → l.lookup x = some k
  | [], _, _, _, h => by cases h
  | (y, k') :: l, x, k, hn, h => by
    obtain ⟨n1, n2⟩ := List.nodup_cons.mp hn
    rcases List.mem_cons.mp h with q | q
    · cases q; simp
    · have : (x == y) = false := by simpa using fun z : x = y => n1 (z ▸ List.mem_map_of_mem (f := (·.1)) q)
      rw [List.lookup_cons, this]; exact lookup_of_nodup n2 q
theorem nk_mem {l : List (Str × NameKind)} {x : Str} {k : VK} (h : (x, k) ∈ nk l) : (k = .loc ∧ (x, NameKind.local) ∈ l) ∨ (k = .own ∧ (x, NameKind.cell) ∈ l) ∨ (k = .ext ∧ (x, NameKind.free) ∈ l) := by
  obtain ⟨⟨n, q⟩, h1, h2⟩ := List.mem_filterMap.mp h
  cases q <;> simp [nk1] at h2 <;> obtain ⟨rfl, rfl⟩ := h2 <;> simp [h1]
theorem nk_nodup {l : List (Str × NameKind)} (h : (l.map (·.1)).Nodup) : (nkN l).Nodup := by
  unfold nkN nk
  induction l with
  | nil => simp
  | cons p l ih =>
    obtain ⟨n1, n2⟩ := List.nodup_cons.mp h
    obtain ⟨n, q⟩ := p
    have key : ∀ y ∈ List.map (·.1) (List.filterMap nk1 l), y ∈ l.map (·.1) := fun y hy => by
      obtain ⟨⟨a, b⟩, h1, rfl⟩ := List.mem_map.mp hy
      rcases nk_mem (l := l) h1 with ⟨_, h⟩ | ⟨_, h⟩ | ⟨_, h⟩ <;> exact List.mem_map_of_mem h
    cases q <;> simp only [nk1, List.filterMap_cons, List.map_cons] <;> first
      | exact List.nodup_cons.mpr ⟨fun z => n1 (key _ z), ih n2⟩
      | exact ih n2
theorem nk_get {l : List (Str × NameKind)} {i : Nat} {x : Str} {k : VK} (h1 : (nkN l)[i]? = some x) (h2 : (nkK l)[i]? = some k) : (x, k) ∈ nk l := by
  unfold nkN at h1; unfold nkK at h2
  rw [List.getElem?_map] at h1 h2
  cases e : (nk l)[i]? with
  | none => rw [e] at h1; cases h1
  | some p => rw [e] at h1 h2; cases h1; cases h2; exact List.mem_of_getElem? e
theorem nk_all {l : List (Str × NameKind)} {i : Nat} {x : Str} (h1 : (nkN l)[i]? = some x) : ∃ k, (nkK l)[i]? = some k := by
  unfold nkN at h1; unfold nkK
  rw [List.getElem?_map] at h1 ⊢
  cases e : (nk l)[i]? with
  | none => rw [e] at h1; cases h1
  | some p => exact ⟨p.2, rfl⟩

theorem ownCells_mem : ∀ {l : List (Str × NameKind)} {x : Str}, x ∈ ownCells l ↔ (x, NameKind.cell) ∈ l
  | [], x => by simp [ownCells]
  | (n, k) :: l, x => by
    by_cases hk : (k == NameKind.cell) = true
    · rw [ownCells_yes hk, List.mem_cons, List.mem_cons, ownCells_mem]
      have : k = .cell := by simpa using hk
      subst this; simp
    · rw [ownCells_no hk, List.mem_cons, ownCells_mem]
      have : k ≠ .cell := by simpa using hk
      constructor
      · intro h; exact .inr h
      · rintro (h | h)
        · cases h; exact absurd rfl this
        · exact h
theorem freeNames_mem : ∀ {l : List (Str × NameKind)} {x : Str}, x ∈ freeNames l ↔ (x, NameKind.free) ∈ l
  | [], x => by simp [freeNames]
  | (n, k) :: l, x => by
    by_cases hk : (k == NameKind.free) = true
    · rw [freeNames, if_pos hk, List.mem_cons, List.mem_cons, freeNames_mem]
      have : k = .free := by simpa using hk
      subst this; simp
    · rw [freeNames, if_neg hk, List.mem_cons, freeNames_mem]
      have : k ≠ .free := by simpa using hk
      constructor
      · intro h; exact .inr h
      · rintro (h | h)
        · cases h; exact absurd rfl this
        · exact h
theorem ownCells_nodup {l : List (Str × NameKind)} (h : (l.map (·.1)).Nodup) : (ownCells l).Nodup := by
  induction l with
  | nil => simp [ownCells]
  | cons p l ih =>
    obtain ⟨n1, n2⟩ := List.nodup_cons.mp h
    obtain ⟨n, k⟩ := p
    by_cases hk : (k == NameKind.cell) = true
    · rw [ownCells_yes hk]; exact List.nodup_cons.mpr ⟨fun z => n1 (List.mem_map_of_mem (f := (·.1)) (ownCells_mem.mp z)), ih n2⟩
    · rw [ownCells_no hk]; exact ih n2

structure Fr {D : Wd} (c : Cx D) (l : List (Str × NameKind)) : Prop where
  names : c.names = nkN l
  kinds : c.kinds = nkK l
  glob : ∀ x, l.lookup x = some .globalImplicit → c.env.kindOf x = some .globalImplicit

section
variable {D : Wd} {c : Cx D} {A : Around} {ρ ρ' ρ'' ρ0 : Ro} {G G' Ga G₁ G₂ G₃ : PO} {s s' sa s₁ s₂ s₃ : Shared} {h h' : Heap} {l : List (Str × NameKind)}

theorem lookup_relabel {env : Env} : ∀ {names : List (Str × NameKind)} {x : Str},
    (names.map fun (n, k) => if (k == NameKind.free && env.scope.kind == .function && env.kindOf n == some .cell) then (n, NameKind.cell) else (n, k)).lookup x = (names.lookup x).map fun k => if (k == NameKind.free && env.scope.kind == .function && env.kindOf x == some .cell) then NameKind.cell else k
  | [], x => rfl
  | (n, k) :: r, x => by
    have ih := @lookup_relabel env r x
    show List.lookup x ((if (k == NameKind.free && env.scope.kind == .function && env.kindOf n == some .cell) = true then (n, NameKind.cell) else (n, k)) :: _) = _
    cases hx : x == n with
    | true =>
      have : x = n := by simpa using hx
      subst this
      by_cases hc : (k == NameKind.free && env.scope.kind == .function && env.kindOf x == some .cell) = true
      · rw [if_pos hc]; simp only [List.lookup_cons, hx, Option.map_some, if_pos hc]
      · rw [if_neg hc]; simp only [List.lookup_cons, hx, Option.map_some, if_neg hc]
    | false =>
      by_cases hc : (k == NameKind.free && env.scope.kind == .function && env.kindOf n == some .cell) = true
      · rw [if_pos hc]; simp only [List.lookup_cons, hx]; exact ih
      · rw [if_neg hc]; simp only [List.lookup_cons, hx]; exact ih

/-! ### the comprehension's own frame -/
noncomputable def compRo (ns : List Str) (ρ : Ro) (l : List (Str × NameKind)) : Ro :=
  (nk l).map fun p => match p.2 with
    | .ext => (match ρ[ns.idxOf p.1]? with | some (some (.val a)) => some (.val a) | _ => none)
    | _ => none
noncomputable def compCx {D : Wd} (c : Cx D) (scope : Scope) (cl : List (Str × Addr)) (C : Addr) (G : PO) (s : Shared) : Cx D :=
  { A := c.A, env := compEnvC scope cl C c.env, names := nkN scope.names, kinds := nkK scope.names, G0 := G, s0 := s }
theorem compCx_fr {scope : Scope} {cl : List (Str × Addr)} {C : Addr} : Fr (compCx c scope cl C G s) scope.names :=
  ⟨rfl, rfl, fun x hx => by
    show List.lookup x (relabel scope c.env).names = _
    unfold relabel
    rw [lookup_relabel, hx]; rfl⟩
theorem compRo_get {ns : List Str} {i : Nat} {sl : Slot} (h : (compRo ns ρ l)[i]? = some (some sl)) : ∃ x a, (nkN l)[i]? = some x ∧ (nkK l)[i]? = some .ext ∧ sl = .val a ∧ ρ[ns.idxOf x]? = some (some (.val a)) := by
  unfold compRo at h
  rw [List.getElem?_map] at h
  cases e : (nk l)[i]? with
  | none => rw [e] at h; cases h
  | some p =>
    rw [e] at h
    obtain ⟨x, k⟩ := p
    have e1 : (nkN l)[i]? = some x := by unfold nkN; rw [List.getElem?_map, e]; rfl
    have e2 : (nkK l)[i]? = some k := by unfold nkK; rw [List.getElem?_map, e]; rfl
    cases k with
    | loc => simp at h
    | own => simp at h
    | ext =>
      simp only [Option.map_some] at h
      cases q : ρ[ns.idxOf x]? with
      | none => rw [q] at h; simp at h
      | some z =>
        rw [q] at h
        cases z with
        | none => simp at h
        | some z =>
          cases z with
          | own a => simp at h
          | val a => simp at h; exact ⟨x, a, e1, e2, h.symm, q⟩
theorem compRo_noOwn {ns : List Str} : NoOwn (compRo ns ρ l) := fun i a h => by
  obtain ⟨_, _, _, _, e, _⟩ := compRo_get h; cases e

noncomputable def okFree (ns : List Str) (ks : List VK) (l : List (Str × NameKind)) : Bool := l.all fun p => match p.2 with
  | .free => (match ns[ns.idxOf p.1]? with | some y => y == p.1 | none => false) && (match ks[ns.idxOf p.1]? with | some .loc => false | some _ => true | none => false)
  | _ => true
theorem okFree_get (h : okFree c.names c.kinds l = true) {x : Str} (hx : (x, NameKind.free) ∈ l) : c.names[c.names.idxOf x]? = some x ∧ ∃ k, c.kinds[c.names.idxOf x]? = some k ∧ k ≠ .loc := by
  unfold okFree at h
  have := List.all_eq_true.mp h _ hx
  simp only [Bool.and_eq_true] at this
  obtain ⟨h1, h2⟩ := this
  constructor
  · cases e : c.names[c.names.idxOf x]? with
    | none => rw [e] at h1; simp at h1
    | some y => rw [e] at h1; simp at h1; rw [h1]
  · cases e : c.kinds[c.names.idxOf x]? with
    | none => rw [e] at h2; simp at h2
    | some k => rw [e] at h2; cases k <;> simp at h2 ⊢

theorem Heap.get?_size (h : Heap) : h.get? h.objs.size = none := by
  cases e : h.get? h.objs.size with
  | none => rfl
  | some o => exact absurd (Heap.lt_size e) (Nat.lt_irrefl _)
theorem Heap.get?_ge {h : Heap} {a : Addr} (ha : h.objs.size ≤ a) : h.get? a = none := by
  cases e : h.get? a with
  | none => rfl
  | some o => exact absurd (Heap.lt_size e) (Nat.not_lt.mpr ha)

theorem comp_frame (S : St c ρ G s) (S₂ : St c ρ G₂ s₂) (x₂ : Ext D.tabs G s G₂ s₂) {scope : Scope} {cl0 : List (Str × Addr)} (ho : okNames scope.names = true) (hk : scope.kind = .function) (hf : okFree c.names c.kinds scope.names = true)
    (hcl : ∀ x ∈ freeNames scope.names, cl0.lookup x = c.env.cells.lookup x) {o : Obj} {k : Nat} (hfr : o.isFreed = false) :
    St (compCx c scope (cellsFrom (s₂.heap.objs.size + 2) scope.names cl0) (s₂.heap.objs.size + 1) G s) (compRo c.names ρ scope.names) G₂
      { s₂ with heap := pushCells ((s₂.heap.push o).push { cls := .type "dict", data := .dict #[] }) scope.names, toks := k } ∧
    Ext D.tabs G₂ s₂ G₂ { s₂ with heap := pushCells ((s₂.heap.push o).push { cls := .type "dict", data := .dict #[] }) scope.names, toks := k } ∧
    (pushCells ((s₂.heap.push o).push { cls := .type "dict", data := .dict #[] }) scope.names).get? s₂.heap.objs.size = some o := by
  unfold okNames at ho
  simp only [Bool.and_eq_true, decide_eq_true_eq, List.all_eq_true, Bool.not_eq_true'] at ho
  obtain ⟨hn, hp⟩ := ho
  have z1 : (s₂.heap.push o).objs.size = s₂.heap.objs.size + 1 := Heap.size_push ..
  have z2 : ((s₂.heap.push o).push { cls := .type "dict", data := .dict #[] }).objs.size = s₂.heap.objs.size + 2 := by rw [Heap.size_push, z1]
  have kp : ∀ b o', s₂.heap.get? b = some o' → (pushCells ((s₂.heap.push o).push { cls := .type "dict", data := .dict #[] }) scope.names).get? b = some o' := fun b o' e =>
    pushCells_keeps _ _ _ _ (Heap.get?_push_of_some _ (Heap.get?_push_of_some _ e))
  obtain ⟨g', x'⟩ := S₂.ok.keeps (k := k) kp
  have above : ∀ a, s₂.heap.objs.size ≤ a → s.heap.get? a = none ∧ G₂ a = none := fun a ha => by
    have e2 := Heap.get?_ge (h := s₂.heap) ha
    constructor
    · cases e : s.heap.get? a with
      | none => rfl
      | some o' => obtain ⟨_, e'⟩ := x₂.live S₂.ok a o' e; rw [e2] at e'; cases e'
    · cases e : G₂ a with
      | none => rfl
      | some o' => rw [S₂.ok.sub a o' e] at e2; cases e2
  have hco : (pushCells ((s₂.heap.push o).push { cls := .type "dict", data := .dict #[] }) scope.names).get? (s₂.heap.objs.size + 1) = some { cls := .type "dict", data := .dict #[] } :=
    pushCells_keeps _ _ _ _ (by have := Heap.get?_push_size (s₂.heap.push o) (o := { cls := .type "dict", data := .dict #[] }) rfl; rwa [z1] at this)
  have kOf : ∀ {x : Str} {k : NameKind}, (x, k) ∈ scope.names → (compEnvC scope (cellsFrom (s₂.heap.objs.size + 2) scope.names cl0) (s₂.heap.objs.size + 1) c.env).kindOf x = some (if (k == NameKind.free && c.env.scope.kind == .function && c.env.kindOf x == some .cell) then NameKind.cell else k) := fun {x k} hx => by
    show List.lookup x (relabel scope c.env).names = _
    unfold relabel
    rw [lookup_relabel, lookup_of_nodup hn hx]; rfl
  refine ⟨⟨⟨?_, S.wf.glob, S.wf.bui, S.wf.hand, nk_nodup hn, fun i x h1 h2 => ?_, fun i x h1 h2 => ?_, fun i x h1 h2 => ?_, fun i x h1 => nk_all h1, fun i x h1 => ?_⟩, x₂.then S₂.ok x', g', (above _ (Nat.le_succ _)).1, (above _ (Nat.le_succ _)).2,
    ⟨fun _ => none, ⟨_, _, 0, hco, rfl, fun e he => by simp at he, fun _ => rfl⟩, fun i x sl h1 h2 h3 => ?_⟩, fun i x k h1 h2 h3 => ?_, fun i j x y a k h1 h2 h3 h4 hkl h5 h6 => ?_⟩, x', ?_⟩
  · exact hk
  · rcases nk_mem (nk_get h1 h2) with ⟨_, q⟩ | ⟨q, _⟩ | ⟨q, _⟩
    · exact kOf q
    · cases q
    · cases q
  · rcases nk_mem (nk_get h1 h2) with ⟨q, _⟩ | ⟨_, q⟩ | ⟨q, _⟩
    · cases q
    · exact kOf q
    · cases q
  · rcases nk_mem (nk_get h1 h2) with ⟨q, _⟩ | ⟨q, _⟩ | ⟨_, q⟩
    · cases q
    · cases q
    · rw [show (compCx c scope (cellsFrom (s₂.heap.objs.size + 2) scope.names cl0) (s₂.heap.objs.size + 1) G s).env = compEnvC scope (cellsFrom (s₂.heap.objs.size + 2) scope.names cl0) (s₂.heap.objs.size + 1) c.env from rfl, kOf q]
      split
      · exact .inl rfl
      · exact .inr rfl
  · obtain ⟨k, h2⟩ := nk_all h1
    have hm := nk_get h1 h2
    have : ∃ k', (x, k') ∈ scope.names := by rcases nk_mem hm with ⟨_, q⟩ | ⟨_, q⟩ | ⟨_, q⟩ <;> exact ⟨_, q⟩
    obtain ⟨k', q⟩ := this
    exact hp _ q
  · obtain ⟨x', a, e1, e2, _, _⟩ := compRo_get h3
    have : (nkK scope.names)[i]? = some .loc := h2
    rw [e2] at this; cases this
  · have hm := nk_get h1 h2
    rcases nk_mem hm with ⟨q, _⟩ | ⟨q, hq⟩ | ⟨q, hq⟩
    · exact absurd q h3
    · subst q
      obtain ⟨a, e1, e2, e3⟩ := cellsFrom_own scope.names ((s₂.heap.push o).push { cls := .type "dict", data := .dict #[] }) cl0 (ownCells_nodup hn) x (ownCells_mem.mpr hq)
      rw [z2] at e1 e2
      have := above a (by omega)
      refine ⟨a, none, e1, e3, fun _ => this, fun sl h4 => ?_⟩
      obtain ⟨x', a, e1, e2, _, _⟩ := compRo_get h4
      have : (nkK scope.names)[i]? = some .own := h2
      rw [e2] at this; cases this
    · subst q
      obtain ⟨f1, k', f2, f3⟩ := okFree_get hf hq
      obtain ⟨a, v0, e1, ⟨oc, ec, dc⟩, _, e5⟩ := S₂.cel _ x k' f1 f2 f3
      have hno : x ∉ ownCells scope.names := fun q => by
        have := lookup_of_nodup hn (ownCells_mem.mp q)
        rw [lookup_of_nodup hn hq] at this; cases this
      refine ⟨a, v0, ?_, ⟨oc, kp _ _ ec, dc⟩, (fun q => by cases q), fun sl h4 => ?_⟩
      · show (cellsFrom (s₂.heap.objs.size + 2) scope.names cl0).lookup x = _
        rw [cellsFrom_other _ _ _ _ hno, hcl x (freeNames_mem.mpr hq)]; exact e1
      · obtain ⟨x', a', g1, g2, g3, g4⟩ := compRo_get h4
        have : (nkN scope.names)[i]? = some x := h1
        rw [g1] at this; cases this
        subst g3
        obtain ⟨v, h5, r⟩ := e5 _ g4
        exact ⟨v, h5, r⟩
  · have m1 := nk_get h1 h3
    have m2 := nk_get h2 h4
    have c1 : x ∈ ownCells scope.names := by rcases nk_mem m1 with ⟨q, _⟩ | ⟨_, q⟩ | ⟨q, _⟩ <;> first | (cases q) | exact ownCells_mem.mpr q
    rcases nk_mem m2 with ⟨q, _⟩ | ⟨_, q⟩ | ⟨q, hq⟩
    · exact absurd q hkl
    · have := cellsFrom_apart scope.names ((s₂.heap.push o).push { cls := .type "dict", data := .dict #[] }) cl0 (ownCells_nodup hn) x c1 y (ownCells_mem.mpr q) a (by rw [z2]; exact h5) (by rw [z2]; exact h6)
      subst this
      exact nodup_idx (nk_nodup hn) h1 h2
    · obtain ⟨a1, e1, e2, _⟩ := cellsFrom_own scope.names ((s₂.heap.push o).push { cls := .type "dict", data := .dict #[] }) cl0 (ownCells_nodup hn) x c1
      rw [z2] at e1 e2
      rw [show (compCx c scope (cellsFrom (s₂.heap.objs.size + 2) scope.names cl0) (s₂.heap.objs.size + 1) G s).env.cells = cellsFrom (s₂.heap.objs.size + 2) scope.names cl0 from rfl] at h5 h6
      rw [h5] at e1; cases e1
      obtain ⟨f1, k', f2, f3⟩ := okFree_get hf hq
      obtain ⟨a', v0, e1, ⟨oc, ec, dc⟩, _⟩ := S₂.cel _ y k' f1 f2 f3
      have hno : y ∉ ownCells scope.names := fun q => by
        have := lookup_of_nodup hn (ownCells_mem.mp q)
        rw [lookup_of_nodup hn hq] at this; cases this
      rw [cellsFrom_other _ _ _ _ hno, hcl y (freeNames_mem.mpr hq), e1] at h6
      cases h6
      have := Heap.lt_size ec
      exact absurd this (Nat.not_lt.mpr (Nat.le_trans (Nat.le_add_right _ 2) e2))
  · exact pushCells_keeps _ _ _ _ (Heap.get?_push_of_some _ (Heap.get?_push_size _ hfr))
end
end Mine
/-! PI9 -/
namespace Mine
section
variable {D : Wd} {c : Cx D} {A : Around} {ρ ρ' ρ'' ρ0 : Ro} {G G' Ga G₁ G₂ G₃ : PO} {s s' sa s₁ s₂ s₃ : Shared} {h h' : Heap} {l : List (Str × NameKind)}

noncomputable abbrev Bdy := Value → (Unit → Shared → Prop) → (Value → Shared → Prop) → Shared → Prop
noncomputable def Sta (D : Wd) (A : Around) (e : Expr) (depth : Nat) (env : Env) : Prop :=
  ∀ I d s R, codeAny D.M A (.compLoop e depth (.ref I) (.ref d) env) R s → (∀ E, wpAny D.M A (pyIter (.ref I)) (fun it' s' => codeAny D.M A (.compLoop e depth it' (.ref d) env) R s') E s) → codeAny D.M A (.compStart e depth (.ref I) (.ref d) env) R s
noncomputable def NewAcc (newAcc : Sem Value) (o : Obj) : Prop := ∀ M A s Q E, Q (.ref s.heap.objs.size) { s with heap := s.heap.push o } → wpAny M A newAcc Q E s

theorem comp_run {e tgt itx : Expr} {ifs : List Expr} {gs : List Comprehension} {scope : Scope} {pos : Pos} {newAcc : Sem Value} {o : Obj} {use : Option (Value → Sem Unit)} {xs : List V} {a0 a' : V} {body : Env → Bdy} {Q : Value → Shared → Prop} {E : Value → Shared → Prop}
    (hcl : clausesOf e = ⟨tgt, itx, ifs, 0⟩ :: gs) (hs : ∀ x, foldedSetIterable itx c.env x = pure x) (hacc : NewAcc newAcc o) (hof : o.isFreed = false) (h0 : ∀ G h d, h.get? d = some o → OwnR D G h d a0)
    (ho : okNames scope.names = true) (hk : scope.kind = .function) (hf : okFree c.names c.kinds scope.names = true)
    (hU : ∀ cl C G s, Unf D c.A e 0 (compCx c scope cl C G s).env tgt ifs (body (compCx c scope cl C G s).env)) (hS : ∀ cl C G s, Sta D c.A e 0 (compCx c scope cl C G s).env)
    (hit : ItE c ρ tgt itx xs) (hch : ∀ c' : Cx D, Fr c' scope.names → (∃ cl C G s, c' = compCx c scope cl C G s) → Chain c' (compRo c.names ρ scope.names) tgt ifs (body c'.env) xs a0 a')
    (S : St c ρ G s)
    (hsm : sysModules ≠ s.heap.objs.size ∧ s.heap.get? cStatics ≠ none)
    (hK : ∀ C d G' s' o', Ext D.tabs G s G' s' → GOK D G' s' → s.heap.get? d = none → G' d = none → d ≠ sysModules → s'.heap.get? d = some o' → OwnR D G' s'.heap d a' → s.heap.get? C = none → G' C = none → d ≠ C → (∃ m, s'.heap.Ns C m) → compPost D.M c.A E use Q (.ref d) C (.ok .next) s') :
    wpAny D.M c.A (comprehension e scope c.env pos newAcc false (eval itx c.env) use) Q E s := by
  have hn : (scope.names.map (·.1)).Nodup := by unfold okNames at ho; simp only [Bool.and_eq_true, decide_eq_true_eq] at ho; exact ho.1
  obtain ⟨cl, e1, e2⟩ := closureFor_of (env := c.env) (scope := scope) fun x hx => by
    obtain ⟨f1, k', f2, f3⟩ := okFree_get hf (freeNames_mem.mp hx)
    obtain ⟨a, _, e1, _⟩ := S.cel _ x k' f1 f2 f3
    exact ⟨a, e1⟩
  refine wpAny_comprehension_free hcl hs e1 hk (fun x hx hl => by obtain ⟨n, k⟩ := x; simp only at hl; subst hl; exact lookup_of_nodup hn hx) (wpAny_mono (hit.run G s E S) (fun x s₁ h₁ => wpAny_mono h₁ (fun it s₂ h₂ => ?_) fun _ _ e => e) fun _ _ e => e)
  obtain ⟨G₂, I, J, rfl, x₂, g₂, i1, i2, i3, W, j⟩ := h₂
  refine hacc _ _ _ _ _ (newEnv_comp ?_)
  have S₂ := S.step x₂ g₂
  obtain ⟨F, xf, ef⟩ := comp_frame S S₂ x₂ ho hk hf (fun x hx => e2 x hx) (k := s₂.toks) hof
  have z1 : (s₂.heap.push o).objs.size = s₂.heap.objs.size + 1 := Heap.size_push ..
  simp only [z1]
  have hI2 := W.obj _ _ _ j
  obtain ⟨oI, vI, eI, dI⟩ := hI2
  have above : ∀ a, s₂.heap.objs.size ≤ a → s.heap.get? a = none ∧ G₂ a = none := fun a ha => by
    have e2 := Heap.get?_ge (h := s₂.heap) ha
    constructor
    · cases e : s.heap.get? a with
      | none => rfl
      | some o' => obtain ⟨_, e'⟩ := x₂.live S₂.ok a o' e; rw [e2] at e'; cases e'
    · cases e : G₂ a with
      | none => rfl
      | some o' => rw [S₂.ok.sub a o' e] at e2; cases e2
  have hdsm : s₂.heap.objs.size ≠ sysModules := fun q => hsm.2 (above cStatics (by rw [q]; decide)).1
  have y : SlotR (compCx c scope (cellsFrom (s₂.heap.objs.size + 2) scope.names cl) (s₂.heap.objs.size + 1) G s) G₂ (pushCells ((s₂.heap.push o).push { cls := .type "dict", data := .dict #[] }) scope.names) (.own a0) (.ref s₂.heap.objs.size) :=
    ⟨_, rfl, (above _ (Nat.le_refl _)).2, (above _ (Nat.le_refl _)).1, Nat.ne_of_lt (Nat.lt_succ_self _), hdsm, h0 _ _ _ ef⟩
  have main : codeAny D.M c.A (.compLoop e 0 (.ref I) (.ref s₂.heap.objs.size) (compCx c scope (cellsFrom (s₂.heap.objs.size + 2) scope.names cl) (s₂.heap.objs.size + 1) G s).env)
      (compPost D.M c.A E use Q (.ref s₂.heap.objs.size) (s₂.heap.objs.size + 1)) { s₂ with heap := pushCells ((s₂.heap.push o).push { cls := .type "dict", data := .dict #[] }) scope.names, toks := s₂.toks } := by
    refine comp_loop (c := compCx c scope (cellsFrom (s₂.heap.objs.size + 2) scope.names cl) (s₂.heap.objs.size + 1) G s) (Ga := G) (sa := s) (hU _ _ _ _) W i3 i1 i1 xs [] a0 G₂ _ rfl
      (hch _ compCx_fr ⟨_, _, _, _, rfl⟩) ?_ i2 F ((x₂.then S₂.ok xf).stp F.ok) y fun G' s' S' x' y' => ?_
    · exact W.stable _ _ _ _ _ j (fun _ _ e => e) F.ok.sub fun o e => xf.keep _ _ i3 e
    · obtain ⟨d, e, gd, nd, ld, sm, od⟩ := y'
      cases e
      obtain ⟨o', e', _, _⟩ := od.data
      obtain ⟨m, hm, _⟩ := S'.loc
      exact hK (s₂.heap.objs.size + 1) _ G' s' o' S'.ext S'.ok nd gd sm e' od S'.newL S'.offL ld ⟨m, hm⟩
  exact hS _ _ G s I _ _ _ main fun E' => W.self 0 G₂ _ _ _ (W.stable _ _ _ _ _ j (fun _ _ e => e) F.ok.sub fun o e => xf.keep _ _ i3 e) main

/-! ### what the model does in a turn -/
section
variable {elt kx vx tgt itx tgt' itx' : Expr} {ifs ifs' : List Expr} {scope : Scope} {pos : Pos} {env : Env}

noncomputable def emitL (D : Wd) (A : Around) (elt : Expr) (env : Env) : Bdy := fun acc Q E s => wpAny D.M A (eval elt env) (fun x s₁ => wpAny D.M A (call (.builtin "list.append") [acc, x]) (fun _ => Q ()) E s₁) E s
noncomputable def emitD (D : Wd) (A : Around) (kx vx : Expr) (env : Env) : Bdy := fun acc Q E s => wpAny D.M A (eval kx env) (fun k s₁ => wpAny D.M A (eval vx env) (fun v s₂ => ∃ d, acc = .ref d ∧ wpAny D.M A (dictSet d k v) Q E s₂) E s₁) E s
noncomputable def inner (D : Wd) (A : Around) (e itx' : Expr) (env : Env) : Bdy := fun acc Q E s => wpAny D.M A (eval itx' env) (fun x s₁ => wpAny D.M A (pyIter x) (fun it s₂ =>
  codeAny D.M A (.compStart e 1 it acc env) (fun r s' => match r with | .ok _ => Q () s' | .error _ => False) s₂) E s₁) E s

theorem Unf.list1 : Unf D A (.ListComp elt [⟨tgt, itx, ifs, 0⟩] scope pos) 0 env tgt ifs (emitL D A elt env) := by
  intro I d s R h
  refine codeAny_of_tree ?_
  show wpAny _ A ((compTurn (.ListComp elt [⟨tgt, itx, ifs, 0⟩] scope pos) 0 (.ref I) (.ref d) env).onRaise (fun x => do noteFrame x env; theTreesLotGoes x)) _ _ s
  refine wpAny_noted ?_
  rw [compTurn_list]
  refine wpAny_bind (wpAny_standAt (wpAny_bind (wpAny_mono (h _) (fun r s₁ h₁ => ?_) fun _ _ h' => h')))
  cases r with
  | none => exact wpAny_pure h₁
  | some v =>
    refine wpAny_bind (wpAny_mono h₁ (fun _ s₂ h₂ => wpAny_bind (wpAny_mono h₂ (fun _ s₃ h₃ => wpAny_bind (wpAny_mono h₃ (fun ok s₄ h₄ => ?_) fun _ _ h' => h')) fun _ _ h' => h')) fun _ _ h' => h')
    cases ok with
    | false => exact wpAny_pure ⟨rfl, h₄⟩
    | true => exact wpAny_bind (wpAny_bind (wpAny_mono h₄ (fun x s₅ h₅ => wpAny_bind (wpAny_mono h₅ (fun _ s₆ h₆ => wpAny_pure (wpAny_pure ⟨rfl, h₆⟩)) fun _ _ h' => h')) fun _ _ h' => h'))
theorem Unf.list2 : Unf D A (.ListComp elt [⟨tgt', itx', ifs', 0⟩, ⟨tgt, itx, ifs, 0⟩] scope pos) 1 env tgt ifs (emitL D A elt env) := by
  intro I d s R h
  refine codeAny_of_tree ?_
  show wpAny _ A ((compTurn (.ListComp elt [⟨tgt', itx', ifs', 0⟩, ⟨tgt, itx, ifs, 0⟩] scope pos) 1 (.ref I) (.ref d) env).onRaise (fun x => do noteFrame x env; theTreesLotGoes x)) _ _ s
  refine wpAny_noted ?_
  show wpAny _ A (do
      standAt itx.pos
      match ← pyNext (.ref I) with
      | none => pure (.done .next)
      | some v =>
        letOwnedTupleGo tgt (.ref I) v
        assign tgt env v
        let mut ok := true
        for c in ifs do
          if ok then ok ← isTrue c env (eval c env)
        if ok then
          (do let _ ← call (.builtin "list.append") [(.ref d), ← eval elt env])
        again (.compLoop (.ListComp elt [⟨tgt', itx', ifs', 0⟩, ⟨tgt, itx, ifs, 0⟩] scope pos) 1 (.ref I) (.ref d) env)) _ _ s
  refine wpAny_bind (wpAny_standAt (wpAny_bind (wpAny_mono (h _) (fun r s₁ h₁ => ?_) fun _ _ h' => h')))
  cases r with
  | none => exact wpAny_pure h₁
  | some v =>
    refine wpAny_bind (wpAny_mono h₁ (fun _ s₂ h₂ => wpAny_bind (wpAny_mono h₂ (fun _ s₃ h₃ => wpAny_bind (wpAny_mono h₃ (fun ok s₄ h₄ => ?_) fun _ _ h' => h')) fun _ _ h' => h')) fun _ _ h' => h')
    cases ok with
    | false => exact wpAny_pure ⟨rfl, h₄⟩
    | true => exact wpAny_bind (wpAny_bind (wpAny_mono h₄ (fun x s₅ h₅ => wpAny_bind (wpAny_mono h₅ (fun _ s₆ h₆ => wpAny_pure (wpAny_pure ⟨rfl, h₆⟩)) fun _ _ h' => h')) fun _ _ h' => h'))
theorem Unf.dict1 : Unf D A (.DictComp kx vx [⟨tgt, itx, ifs, 0⟩] scope pos) 0 env tgt ifs (emitD D A kx vx env) := by
  intro I d s R h
  refine codeAny_of_tree ?_
  show wpAny _ A ((compTurn (.DictComp kx vx [⟨tgt, itx, ifs, 0⟩] scope pos) 0 (.ref I) (.ref d) env).onRaise (fun x => do noteFrame x env; theTreesLotGoes x)) _ _ s
  refine wpAny_noted ?_
  rw [compTurn_dict]
  refine wpAny_bind (wpAny_standAt (wpAny_bind (wpAny_mono (h _) (fun r s₁ h₁ => ?_) fun _ _ h' => h')))
  cases r with
  | none => exact wpAny_pure h₁
  | some v =>
    refine wpAny_bind (wpAny_mono h₁ (fun _ s₂ h₂ => wpAny_bind (wpAny_mono h₂ (fun _ s₃ h₃ => wpAny_bind (wpAny_mono h₃ (fun ok s₄ h₄ => ?_) fun _ _ h' => h')) fun _ _ h' => h')) fun _ _ h' => h')
    cases ok with
    | false => exact wpAny_pure ⟨rfl, h₄⟩
    | true =>
      refine wpAny_bind (wpAny_bind (wpAny_mono h₄ (fun k s₅ h₅ => wpAny_bind (wpAny_holding (wpAny_mono h₅ (fun v s₆ h₆ => ?_) fun _ _ h' => h'))) fun _ _ h' => h'))
      obtain ⟨d', e, h₆⟩ := h₆
      cases e
      exact wpAny_bind (wpAny_standAt (wpAny_holding (wpAny_mono h₆ (fun _ s₇ h₇ => wpAny_pure ⟨rfl, h₇⟩) fun _ _ h' => h')))
theorem Unf.outer (hs : ∀ x, foldedSetIterable itx env x = pure x) : Unf D A (.ListComp elt [⟨tgt', itx', ifs', 0⟩, ⟨tgt, itx, ifs, 0⟩] scope pos) 0 env tgt' ifs' (inner D A (.ListComp elt [⟨tgt', itx', ifs', 0⟩, ⟨tgt, itx, ifs, 0⟩] scope pos) itx env) := by
  intro I d s R h
  refine codeAny_of_tree ?_
  show wpAny _ A ((compTurn (.ListComp elt [⟨tgt', itx', ifs', 0⟩, ⟨tgt, itx, ifs, 0⟩] scope pos) 0 (.ref I) (.ref d) env).onRaise (fun x => do noteFrame x env; theTreesLotGoes x)) _ _ s
  refine wpAny_noted ?_
  show wpAny _ A (do
      standAt itx'.pos
      match ← pyNext (.ref I) with
      | none => pure (.done .next)
      | some v =>
        letOwnedTupleGo tgt' (.ref I) v
        assign tgt' env v
        let mut ok := true
        for c in ifs' do
          if ok then ok ← isTrue c env (eval c env)
        if ok then
          let x ← eval itx env
          standAt itx.pos
          let x ← foldedSetIterable itx env x
          let _ ← runOwn (.compStart (.ListComp elt [⟨tgt', itx', ifs', 0⟩, ⟨tgt, itx, ifs, 0⟩] scope pos) 1 (← holding [x] (pyIter x)) (.ref d) env) env
        again (.compLoop (.ListComp elt [⟨tgt', itx', ifs', 0⟩, ⟨tgt, itx, ifs, 0⟩] scope pos) 0 (.ref I) (.ref d) env)) _ _ s
  refine wpAny_bind (wpAny_standAt (wpAny_bind (wpAny_mono (h _) (fun r s₁ h₁ => ?_) fun _ _ h' => h')))
  cases r with
  | none => exact wpAny_pure h₁
  | some v =>
    refine wpAny_bind (wpAny_mono h₁ (fun _ s₂ h₂ => wpAny_bind (wpAny_mono h₂ (fun _ s₃ h₃ => wpAny_bind (wpAny_mono h₃ (fun ok s₄ h₄ => ?_) fun _ _ h' => h')) fun _ _ h' => h')) fun _ _ h' => h')
    cases ok with
    | false => exact wpAny_pure ⟨rfl, h₄⟩
    | true =>
      refine wpAny_bind (wpAny_mono h₄ (fun x s₅ h₅ => wpAny_bind (wpAny_standAt (wpAny_bind (wpAny_of_eq (hs x) (wpAny_bind (wpAny_holding (wpAny_mono h₅ (fun it s₆ h₆ => ?_) fun _ _ h' => h'))))))) fun _ _ h' => h')
      refine wpAny_bind (wpAny_runOwn (codeAny_mono h₆ fun r s₇ h₇ => ?_))
      cases r with
      | ok _ => exact wpAny_pure ⟨rfl, h₇⟩
      | error _ => exact h₇.elim

theorem Sta.list {r : List Comprehension} : Sta D A (.ListComp elt (⟨tgt, itx, ifs, 0⟩ :: r) scope pos) 0 env := fun I d s R h0 h => codeAny_compStart_list h0 (h _)
theorem Sta.dict {r : List Comprehension} : Sta D A (.DictComp kx vx (⟨tgt, itx, ifs, 0⟩ :: r) scope pos) 0 env := fun I d s R h0 h => codeAny_compStart_dict h0 (h _)
theorem Sta.list1 : Sta D A (.ListComp elt [⟨tgt', itx', ifs', 0⟩, ⟨tgt, itx, ifs, 0⟩] scope pos) 1 env := fun I d s R h0 h => by
  refine codeAny_of_tree ?_
  show wpAny _ A ((compStart (.ListComp elt [⟨tgt', itx', ifs', 0⟩, ⟨tgt, itx, ifs, 0⟩] scope pos) 1 (.ref I) (.ref d) env).onRaise (fun x => do noteFrame x env; standAt theWindowsPlace)) _ _ s
  refine wpAny_notedAt ?_
  unfold compStart
  show wpAny _ A (ask >>= _) _ _ s
  refine wpAny_bind (wpAny_askSetting (wpAny_ite ?_))
  split
  · first
      | exact wpAny_bind (wpAny_pure (wpAny_pure (And.intro rfl h0)))
      | exact wpAny_pure (And.intro rfl h0)
  · refine wpAny_bind (wpAny_rule ?_)
    exact wpAny_bind (wpAny_standAt (wpAny_bind (wpAny_mono (h _) (fun it' s' h' => wpAny_pure ⟨rfl, h'⟩) fun _ _ h' => h')))
end

/-! ### what is emitted -/
theorem BodyR.append {elt : Expr} {l : List V} {a : V} (hno : NoOwn ρ) (he : Ev c ρ elt a) (hl : l.length ≤ 10000) : BodyR c ρ (emitL D c.A elt c.env) (.list l) (.list (l ++ [a])) := by
  intro G s E acc Q S y hQ
  refine he.mono S fun v s₁ G₁ x₁ g₁ r₁ => ?_
  obtain ⟨d, rfl, gd, n, hL, sm, us, rs, k, e⟩ := x₁.slot S.ok y
  refine wpAny_list_append_plain (items := us.toArray) ⟨k, e⟩ (fun h' hl' hs => ?_) (by rw [List.size_toArray, ← rs.length, sizeLine_eq]; omega)
  obtain ⟨k', e'⟩ := hl'
  have S₁ := S.step x₁ g₁
  refine hQ G₁ _ (S₁.writeAt (k := s₁.toks) hno e n gd hL (fun _ q => by cases q) (fun _ q => by cases q) hs) ?_ ⟨d, rfl, gd, n, hL, sm, us ++ [v], rs.append (VRs.cons r₁ VRs.nil), k', ?_⟩
  · obtain ⟨o1, e1⟩ := (show ∃ o1, s.heap.get? d = some o1 by
      obtain ⟨d', e0, _, _, _, _, o⟩ := y
      cases e0
      obtain ⟨o1, e1, _⟩ := o.data
      exact ⟨o1, e1⟩)
    have xx := x₁.stp g₁
    obtain ⟨h1, tk, q1⟩ := xx.same
    refine ⟨⟨h', s₁.toks, by rw [q1]⟩, xx.le, xx.fresh, fun b o vs hb e2 hd => ?_, fun b o e2 => ?_⟩
    · have e3 := xx.keep b o vs hb e2 hd
      exact (hs.2 b (fun q => by rw [q, e] at e3; cases e3; cases hd)).trans e3
    · by_cases q : b = d
      · exact ⟨_, q ▸ e'⟩
      · obtain ⟨o', e3⟩ := xx.live b o e2
        exact ⟨o', (hs.2 b q).trans e3⟩
  · rw [e']; simp
noncomputable def putK (ks : List Int) (vs : List V) (k : Int) (v : V) : V := if k ∈ ks then .dict ks (vs.set (ks.idxOf k) v) else .dict (ks ++ [k]) (vs ++ [v])
theorem stored_zip {α : Type} : ∀ {ks : List Int} {us : List α} {k : Int} {u : α}, ks.length = us.length → ks.Nodup →
    (if (ks.zip us).any (fun kv => decide (kv.1 = k)) = true then (ks.zip us).map (fun kv => if kv.1 = k then (kv.1, u) else kv) else ks.zip us ++ [(k, u)]) = (if k ∈ ks then ks.zip (us.set (ks.idxOf k) u) else (ks ++ [k]).zip (us ++ [u]))
  | [], [], k, u, _, _ => by simp
  | [], _ :: _, _, _, h, _ => by simp at h
  | _ :: _, [], _, _, h, _ => by simp at h
  | x :: ks, w :: us, k, u, h, hn => by
    obtain ⟨n1, n2⟩ := List.nodup_cons.mp hn
    have h' : ks.length = us.length := by simpa using h
    have ih := stored_zip (k := k) (u := u) h' n2
    by_cases q : x = k
    · subst q
      have key : ∀ (ks : List Int) (us : List α), x ∉ ks → (ks.zip us).map (fun kv => if kv.1 = x then (kv.1, u) else kv) = ks.zip us := by
        intro ks
        induction ks with
        | nil => intro us _; simp
        | cons y ks ih =>
          intro us hx
          cases us with
          | nil => simp
          | cons w us => simp only [List.mem_cons, not_or] at hx; simp only [List.zip_cons_cons, List.map_cons]; rw [if_neg (fun z => hx.1 z.symm), ih us hx.2]
      simp [key ks us n1]
    · have q' : (x == k) = false := by simpa using q
      have q2 : k ≠ x := fun z => q z.symm
      by_cases hm : k ∈ ks
      · rw [if_pos hm] at ih
        have ha : (ks.zip us).any (fun kv => decide (kv.1 = k)) = true := by
          rw [List.any_eq_true]
          obtain ⟨i, hi, e⟩ := List.mem_iff_getElem.mp hm
          exact ⟨(ks[i], us[i]'(h' ▸ hi)), List.mem_iff_getElem.mpr ⟨i, by simp [← h', hi], by simp⟩, by simpa using e⟩
        rw [if_pos ha] at ih
        simp only [List.zip_cons_cons, List.any_cons, ha, Bool.or_true, if_true, List.map_cons, if_neg q, List.mem_cons, hm, or_true, List.idxOf_cons, q', Bool.false_eq_true, if_false, cond_false, List.set_cons_succ]
        rw [ih]
      · rw [if_neg hm] at ih
        have ha : (ks.zip us).any (fun kv => decide (kv.1 = k)) = false := by
          rw [List.any_eq_false]
          rintro ⟨a, b⟩ hab
          have := (List.of_mem_zip hab).1
          simpa using fun z : a = k => hm (z ▸ this)
        rw [ha] at ih
        simp only [Bool.false_eq_true, if_false] at ih
        simp only [List.zip_cons_cons, List.any_cons, ha, q, decide_false, Bool.or_false, Bool.false_eq_true, if_false, List.mem_cons, q2, hm, or_false, List.cons_append]
        rw [ih]
theorem BodyR.put {kx vx : Expr} {ks : List Int} {vs : List V} {k : Int} {a : V} (hno : NoOwn ρ) (hk : Ev c ρ kx (.int k)) (hv : Ev c ρ vx a) (hl : ks.length ≤ 10000) : BodyR c ρ (emitD D c.A kx vx c.env) (.dict ks vs) (putK ks vs k a) := by
  intro G s E acc Q S y hQ
  refine hk.mono S fun kv s₁ G₁ x₁ g₁ r₁ => hv.mono (S.step x₁ g₁) fun v s₂ G₂ x₂ g₂ r₂ => ?_
  have x := x₁.then g₁ x₂
  obtain ⟨d, rfl, gd, n, hL, sm, us, el, rs, dp⟩ := x.slot S.ok y
  obtain ⟨t, rfl⟩ := VR.int_iff.mp r₁
  refine ⟨d, rfl, wpAny_dictSet_pairs (knd := intKind D.prog D.w) (k := k) (by simp [intKind, Value.isInt]) dp (fun h' hd' hs => ?_) (by rw [List.length_zip, ← el, sizeLine_eq]; omega)⟩
  obtain ⟨o, es, ep, e, q1, q2, q3, q4, q5⟩ := dp
  have hnd : ks.Nodup := by
    rw [show (List.map (·.1) (ks.zip us)) = ks from List.map_fst_zip (by omega)] at q5; exact q5
  have S₁ := S.step x g₂
  obtain ⟨o', es', ep', e', q1', q2', q3', q4', q5'⟩ := hd'
  refine hQ G₂ _ (S₁.writeAt (k := s₂.toks + 1) hno e n gd hL (fun _ q => by rw [q2] at q; cases q) (fun _ q => by rw [q2] at q; cases q) hs) ?_ ?_
  · have xx := x.stp g₂
    obtain ⟨h1, tk, z1⟩ := xx.same
    refine ⟨⟨h', s₂.toks + 1, by rw [z1]⟩, xx.le, xx.fresh, fun b o vs hb e2 hd => ?_, fun b o e2 => ?_⟩
    · have e3 := xx.keep b o vs hb e2 hd
      exact (hs.2 b (fun q => by rw [q, e] at e3; cases e3; rw [q2] at hd; cases hd)).trans e3
    · by_cases q : b = d
      · exact ⟨_, q ▸ e'⟩
      · obtain ⟨o', e3⟩ := xx.live b o e2
        exact ⟨o', (hs.2 b q).trans e3⟩
  · have st : stored (ks.zip us) k v = _ := stored_zip (u := v) el hnd
    rw [st] at q4' q5'
    unfold putK
    by_cases hm : k ∈ ks
    · rw [if_pos hm] at q4' q5' ⊢
      exact ⟨d, rfl, gd, n, hL, sm, us.set (ks.idxOf k) v, by simp [el], rs.set _ r₂, o', es', ep', e', q1', q2', q3', q4', q5'⟩
    · rw [if_neg hm] at q4' q5' ⊢
      exact ⟨d, rfl, gd, n, hL, sm, us ++ [v], by simp [el], rs.append (VRs.cons r₂ VRs.nil), o', es', ep', e', q1', q2', q3', q4', q5'⟩
theorem BodyR.inner {elt tgt itx tgt' itx' : Expr} {ifs ifs' : List Expr} {scope : Scope} {pos : Pos} {xs : List V} {a a' : V} (hit : ItE c ρ tgt itx xs) (hch : Chain c ρ tgt ifs (emitL D c.A elt c.env) xs a a') :
    BodyR c ρ (inner D c.A (.ListComp elt [⟨tgt', itx', ifs', 0⟩, ⟨tgt, itx, ifs, 0⟩] scope pos) itx c.env) a a' := by
  intro G s E acc Q S y hQ
  refine wpAny_mono (hit.run G s E S) (fun x s₁ h₁ => wpAny_mono h₁ (fun it s₂ h₂ => ?_) fun _ _ e => e) fun _ _ e => e
  obtain ⟨G₂, I, J, rfl, x₂, g₂, i1, i2, i3, W, j⟩ := h₂
  have S₂ := S.step x₂ g₂
  have y₂ := x₂.slot S.ok y
  obtain ⟨d, rfl, _⟩ := y
  have h0 : c.s0.heap.get? I = none := by
    cases e : c.s0.heap.get? I with
    | none => rfl
    | some o => rw [S.ext.keep I o i3 e] at i1; cases i1
  have main := comp_loop (Ga := G) (sa := s) (c := c) (ρ0 := ρ) (R := fun r s' => match r with | .ok _ => Q () s' | .error _ => False) (Unf.list2 (itx := itx) (tgt' := tgt') (itx' := itx') (ifs' := ifs') (scope := scope) (pos := pos)) W i3 h0 i1 xs [] a G₂ s₂ rfl hch j i2 S₂ (x₂.stp g₂) y₂
    fun G' s' S' x' y' => hQ G' s' S' x' y'
  exact Sta.list1 I d s₂ _ main fun E' => W.self 0 G₂ _ _ _ j main
end
end Mine
/-! PI10 -/
namespace Mine
section
variable {D : Wd} {c : Cx D} {A : Around} {ρ ρ' ρ'' ρ0 ρ1 : Ro} {G G' Ga G₁ G₂ G₃ : PO} {s s' sa s₁ s₂ s₃ : Shared} {h h' : Heap} {l : List (Str × NameKind)}

theorem alive_sm (sm : D.h₀.get? cStatics ≠ none) (g : GOK D G s) : s.heap.get? cStatics ≠ none := by
  cases e : D.h₀.get? cStatics with
  | none => exact absurd e sm
  | some o => rw [g.base' _ _ e]; simp
theorem sm_ne (sm : D.h₀.get? cStatics ≠ none) (g : GOK D G s) : sysModules ≠ s.heap.objs.size := fun q => alive_sm sm g (Heap.get?_ge (by rw [← q]; decide))

/-! ### one generator -/
theorem Chain.listF {α : Type} {φ : α → V} {tgt : Expr} {ifs : List Expr} {body : Bdy} {F : α → List V} : ∀ (zs : List α) (l0 : List V), (∀ z ∈ zs, ∃ ρ', AsgR c ρ0 tgt (φ z) ρ' ∧ Sub ρ0 ρ' ∧ ∀ l : List V, l.length ≤ 10000 → TailR c ρ' ifs body (.list l) (.list (l ++ F z))) →
    l0.length + (zs.flatMap F).length ≤ 10000 → Chain c ρ0 tgt ifs body (zs.map φ) (.list l0) (.list (l0 ++ zs.flatMap F))
  | [], l0, _, _ => by simp [Chain]
  | x :: xs, l0, h, hl => by
    obtain ⟨ρ', h1, h2, h3⟩ := h x (.head _)
    rw [List.flatMap_cons, List.length_append] at hl
    refine ⟨ρ', .list (l0 ++ F x), h1, h2, h3 l0 (by omega), ?_⟩
    have := Chain.listF xs (l0 ++ F x) (fun y hy => h y (.tail _ hy)) (by rw [List.length_append]; omega)
    rwa [List.append_assoc, ← List.flatMap_cons] at this

noncomputable def Turn1 {D : Wd} (c : Cx D) (ρ0 : Ro) (tgt : Expr) (ifs : List Expr) (elt : Expr) (x : V) (r : Option V) : Prop :=
  ∃ ρ', AsgR c ρ0 tgt x ρ' ∧ Sub ρ0 ρ' ∧ NoOwn ρ' ∧ TestsR c ρ' ifs r.isSome ∧ ∀ a, r = some a → Ev c ρ' elt a
theorem Turn1.tail {tgt elt x : Expr} {ifs : List Expr} {x : V} {r : Option V} (h : Turn1 c ρ0 tgt ifs elt x r) : ∃ ρ', AsgR c ρ0 tgt x ρ' ∧ Sub ρ0 ρ' ∧ ∀ l : List V, l.length ≤ 10000 → TailR c ρ' ifs (emitL D c.A elt c.env) (.list l) (.list (l ++ r.toList)) := by
  obtain ⟨ρ', h1, h2, h3, h4, h5⟩ := h
  refine ⟨ρ', h1, h2, fun l hl => TailR.ite h4 (fun e => ?_) fun e => ?_⟩
  · cases r with
    | none => cases e
    | some a => exact BodyR.append h3 (h5 a rfl) hl
  · cases r with
    | none => simp
    | some a => cases e

theorem newAcc_list : NewAcc (newList []) { cls := .type "list", data := .seq ([] : List Value).toArray } := fun M A s Q E h => wpAny_newObj_type h
theorem newAcc_dict : NewAcc newDict { cls := .type "dict", data := .dict #[] } := fun M A s Q E h => wpAny_newObj_type h
theorem own_nil {o : Obj} {d : Addr} (e : h.get? d = some { cls := .type "list", data := .seq ([] : List Value).toArray }) : OwnR D G h d (.list []) := ⟨[], VRs.nil, 0, e⟩
theorem own_nilD {d : Addr} (e : h.get? d = some { cls := .type "dict", data := .dict #[] }) : OwnR D G h d (.dict [] []) :=
  ⟨[], rfl, VRs.nil, _, #[], 0, e, ⟨rfl, rfl, rfl⟩, rfl, fun e he => by simp at he, Pairs.nil, by simp⟩

theorem comp_end {Q : Value → Shared → Prop} {E : Value → Shared → Prop} {a' : V} (hQ : ∀ v s', Post D G s a' v s' → Q v s') :
    ∀ C d G' s' o', Ext D.tabs G s G' s' → GOK D G' s' → s.heap.get? d = none → G' d = none → d ≠ sysModules → s'.heap.get? d = some o' → OwnR D G' s'.heap d a' → s.heap.get? C = none → G' C = none → d ≠ C → (∃ m, s'.heap.Ns C m) → compPost D.M A E none Q (.ref d) C (.ok .next) s' := by
  intro C d G' s' o' x g n1 n2 sm e od c1 c2 dC ⟨m, hm⟩
  refine ⟨m, hm, fun h' hs => hQ _ _ ?_⟩
  obtain ⟨o2, e2, nf, _⟩ := od.data
  rw [e] at e2; cases e2
  have ht := g.notTab e nf
  obtain ⟨oC, eC, nC, _⟩ := Heap.Ns.data hm
  have g2 := (g.freeze e n2 ht).write (a := C) (k := s'.toks) (h' := h') (by unfold PO.add; rw [if_neg (fun q => dC q.symm)]; exact c2) (g.notTab eC nC) hs
  have x2 := (x.freeze n2 n1 (o := o')).write (k := s'.toks) c1 hs
  exact ⟨_, x2, g2, VR.frozen sm e n2 od⟩

theorem Ev.listGen {α : Type} {φ : α → V} {zs : List α} {elt tgt itx : Expr} {ifs : List Expr} {scope : Scope} {pos : Pos} {F : α → Option V} (sm : D.h₀.get? cStatics ≠ none)
    (hit : ItE c ρ tgt itx (zs.map φ)) (ht : ∀ c' : Cx D, Fr c' scope.names → c'.A = c.A → Wf c' → ∀ z ∈ zs, Turn1 c' (compRo c.names ρ scope.names) tgt ifs elt (φ z) (F z))
    (ho : okNames scope.names = true) (hk : scope.kind = .function) (hf : okFree c.names c.kinds scope.names = true) (hl : (zs.filterMap F).length ≤ 10000) (hs : ∀ x env, foldedSetIterable itx env x = pure x) :
    Ev c ρ (.ListComp elt [⟨tgt, itx, ifs, 0⟩] scope pos) (.list (zs.filterMap F)) := by
  refine .mk fun G s E S => ?_
  rw [eval_ListComp]
  have fm : zs.filterMap F = zs.flatMap fun x => (F x).toList := by
    clear hit ht hl
    induction zs with
    | nil => rfl
    | cons x xs ih => rw [List.flatMap_cons, ← ih]; cases e : F x <;> simp [List.filterMap_cons, e]
  refine comp_run (gs := []) (a0 := .list []) (a' := .list (zs.filterMap F)) (body := emitL D c.A elt) rfl (fun x => hs x _) newAcc_list rfl (fun G h d e => own_nil (o := default) e) ho hk hf (fun cl C G s => Unf.list1) (fun cl C G s => Sta.list) hit ?_ S ⟨sm_ne sm S.ok, alive_sm sm S.ok⟩ (comp_end fun _ _ p => p)
  rintro c' F' ⟨cl, C, G1, s1, rfl⟩
  rw [fm] at hl ⊢
  have := Chain.listF (φ := φ) (c := compCx c scope cl C G1 s1) (ρ0 := compRo c.names ρ scope.names) (tgt := tgt) (ifs := ifs) (body := emitL D c.A elt (compCx c scope cl C G1 s1).env) (F := fun x => (F x).toList) zs [] (fun x hx => ?_) (by simpa using hl)
  · simpa using this
  · by_cases hw : Wf (compCx c scope cl C G1 s1)
    · exact (ht _ F' rfl hw x hx).tail (x := elt)
    · refine ⟨compRo c.names ρ scope.names, fun G s v Q E S => absurd S.wf hw, fun _ _ e => e, fun l hl G s E acc Q S => absurd S.wf hw⟩
theorem Ev.cast {e : Expr} {a b : V} (h : Ev c ρ e a) (q : a = b) : Ev c ρ e b := q ▸ h

/-! ### two generators -/
theorem Ev.listGen2 {α β : Type} {φ : α → V} {ψ : β → V} {zs : List α} {elt tgt itx tgt' itx' : Expr} {ifs ifs' : List Expr} {scope : Scope} {pos : Pos} {K : α → List β} {F : α → β → Option V} (sm : D.h₀.get? cStatics ≠ none)
    (hit : ItE c ρ tgt' itx' (zs.map φ)) (ht : ∀ c' : Cx D, Fr c' scope.names → c'.A = c.A → Wf c' → ∀ x ∈ zs, ∃ ρ', AsgR c' (compRo c.names ρ scope.names) tgt' (φ x) ρ' ∧ Sub (compRo c.names ρ scope.names) ρ' ∧ TestsR c' ρ' ifs' true ∧ ItE c' ρ' tgt itx ((K x).map ψ) ∧ ∀ y ∈ K x, Turn1 c' ρ' tgt ifs elt (ψ y) (F x y))
    (ho : okNames scope.names = true) (hk : scope.kind = .function) (hf : okFree c.names c.kinds scope.names = true) (hl : (zs.flatMap fun x => (K x).filterMap (F x)).length ≤ 5000) (hs' : ∀ x env, foldedSetIterable itx' env x = pure x) (hs : ∀ x env, foldedSetIterable itx env x = pure x) :
    Ev c ρ (.ListComp elt [⟨tgt', itx', ifs', 0⟩, ⟨tgt, itx, ifs, 0⟩] scope pos) (.list (zs.flatMap fun x => (K x).filterMap (F x))) := by
  refine .mk fun G s E S => ?_
  rw [eval_ListComp]
  refine comp_run (gs := [⟨tgt, itx, ifs, 0⟩]) (a0 := .list []) (a' := .list (zs.flatMap fun x => (K x).filterMap (F x))) (body := inner D c.A (.ListComp elt [⟨tgt', itx', ifs', 0⟩, ⟨tgt, itx, ifs, 0⟩] scope pos) itx) rfl (fun x => hs' x _) newAcc_list rfl (fun G h d e => own_nil (o := default) e) ho hk hf (fun cl C G s => Unf.outer fun x => hs x _) (fun cl C G s => Sta.list) hit ?_ S ⟨sm_ne sm S.ok, alive_sm sm S.ok⟩ (comp_end fun _ _ p => p)
  rintro c' F' ⟨cl, C, G1, s1, rfl⟩
  by_cases hw : Wf (compCx c scope cl C G1 s1)
  · have key : ∀ (zs : List α) (l0 : List V), (∀ x ∈ zs, ∃ ρ', AsgR (compCx c scope cl C G1 s1) (compRo c.names ρ scope.names) tgt' (φ x) ρ' ∧ Sub (compRo c.names ρ scope.names) ρ' ∧ TestsR (compCx c scope cl C G1 s1) ρ' ifs' true ∧ ItE (compCx c scope cl C G1 s1) ρ' tgt itx ((K x).map ψ) ∧ ∀ y ∈ K x, Turn1 (compCx c scope cl C G1 s1) ρ' tgt ifs elt (ψ y) (F x y)) →
        l0.length + (zs.flatMap fun x => (K x).filterMap (F x)).length ≤ 5000 →
        Chain (compCx c scope cl C G1 s1) (compRo c.names ρ scope.names) tgt' ifs' (inner D c.A (.ListComp elt [⟨tgt', itx', ifs', 0⟩, ⟨tgt, itx, ifs, 0⟩] scope pos) itx (compCx c scope cl C G1 s1).env) (zs.map φ) (.list l0) (.list (l0 ++ zs.flatMap fun x => (K x).filterMap (F x))) := by
      intro zs
      induction zs with
      | nil => intro l0 _ _; simp [Chain]
      | cons x xs ih =>
        intro l0 h hl
        obtain ⟨ρ', h1, h2, h3, h4, h5⟩ := h x (.head _)
        rw [List.flatMap_cons, List.length_append] at hl
        refine ⟨ρ', .list (l0 ++ (K x).filterMap (F x)), h1, h2, TailR.emit h3 (BodyR.inner h4 ?_), ?_⟩
        · have fm : (K x).filterMap (F x) = (K x).flatMap fun y => (F x y).toList := by
            clear h4 h5 hl
            generalize K x = ys
            induction ys with
            | nil => rfl
            | cons y ys ih => rw [List.flatMap_cons, ← ih]; cases e : F x y <;> simp [List.filterMap_cons, e]
          rw [fm]
          exact Chain.listF (φ := ψ) (F := fun y => (F x y).toList) (K x) l0 (fun y hy => (h5 y hy).tail (x := elt)) (by rw [← fm]; omega)
        · have := ih (l0 ++ (K x).filterMap (F x)) (fun y hy => h y (.tail _ hy)) (by rw [List.length_append]; omega)
          rwa [List.append_assoc, ← List.flatMap_cons (f := fun x => (K x).filterMap (F x))] at this
    simpa using key zs [] (ht _ F' rfl hw) (by simpa using hl)
  · have key : ∀ (xs : List V) (a b : V), Chain (compCx c scope cl C G1 s1) (compRo c.names ρ scope.names) tgt' ifs' (inner D c.A (.ListComp elt [⟨tgt', itx', ifs', 0⟩, ⟨tgt, itx, ifs, 0⟩] scope pos) itx (compCx c scope cl C G1 s1).env) xs a b ∨ xs = [] := by
      intro xs
      induction xs with
      | nil => intro _ _; exact .inr rfl
      | cons x xs ih =>
        intro a b
        left
        rcases ih b b with h | h
        · exact ⟨compRo c.names ρ scope.names, b, fun G s v Q E S => absurd S.wf hw, fun _ _ e => e, fun G s E acc Q S => absurd S.wf hw, h⟩
        · subst h; exact ⟨compRo c.names ρ scope.names, b, fun G s v Q E S => absurd S.wf hw, fun _ _ e => e, fun G s E acc Q S => absurd S.wf hw, rfl⟩
    rcases key (zs.map φ) (.list []) (.list (zs.flatMap fun x => (K x).filterMap (F x))) with h | h
    · exact h
    · have : zs = [] := by simpa using h
      subst this; exact rfl

/-! ### dicts -/
noncomputable def TurnD {D : Wd} (c : Cx D) (ρ0 : Ro) (tgt : Expr) (ifs : List Expr) (kx vx : Expr) (x : V) (r : Option (Int × V)) : Prop :=
  ∃ ρ', AsgR c ρ0 tgt x ρ' ∧ Sub ρ0 ρ' ∧ NoOwn ρ' ∧ TestsR c ρ' ifs r.isSome ∧ ∀ k a, r = some (k, a) → Ev c ρ' kx (.int k) ∧ Ev c ρ' vx a
theorem Ev.dictGen {α : Type} {φ : α → V} {zs : List α} {kx vx tgt itx : Expr} {ifs : List Expr} {scope : Scope} {pos : Pos} {F : α → Option (Int × V)} (sm : D.h₀.get? cStatics ≠ none)
    (hit : ItE c ρ tgt itx (zs.map φ)) (ht : ∀ c' : Cx D, Fr c' scope.names → c'.A = c.A → Wf c' → ∀ x ∈ zs, TurnD c' (compRo c.names ρ scope.names) tgt ifs kx vx (φ x) (F x))
    (hn : ((zs.filterMap F).map (·.1)).Nodup)
    (ho : okNames scope.names = true) (hk : scope.kind = .function) (hf : okFree c.names c.kinds scope.names = true) (hl : (zs.filterMap F).length ≤ 10000) (hs : ∀ x env, foldedSetIterable itx env x = pure x) :
    Ev c ρ (.DictComp kx vx [⟨tgt, itx, ifs, 0⟩] scope pos) (.dict ((zs.filterMap F).map (·.1)) ((zs.filterMap F).map (·.2))) := by
  refine .mk fun G s E S => ?_
  show wpAny D.M c.A (comprehension (.DictComp kx vx [⟨tgt, itx, ifs, 0⟩] scope pos) scope c.env (firstIterPos [⟨tgt, itx, ifs, 0⟩] pos) newDict false (eval itx c.env)) _ E s
  refine comp_run (gs := []) (a0 := .dict [] []) (a' := .dict ((zs.filterMap F).map (·.1)) ((zs.filterMap F).map (·.2))) (body := emitD D c.A kx vx) rfl (fun x => hs x _) newAcc_dict rfl (fun G h d e => own_nilD e) ho hk hf (fun cl C G s => Unf.dict1) (fun cl C G s => Sta.dict) hit ?_ S ⟨sm_ne sm S.ok, alive_sm sm S.ok⟩ (comp_end fun _ _ p => p)
  rintro c' F' ⟨cl, C, G1, s1, rfl⟩
  have key : ∀ (xs : List α) (ks : List Int) (vs : List V), (∀ x ∈ xs, Wf (compCx c scope cl C G1 s1) → TurnD (compCx c scope cl C G1 s1) (compRo c.names ρ scope.names) tgt ifs kx vx (φ x) (F x)) → (ks ++ (xs.filterMap F).map (·.1)).Nodup → ks.length + (xs.filterMap F).length ≤ 10000 →
      Chain (compCx c scope cl C G1 s1) (compRo c.names ρ scope.names) tgt ifs (emitD D c.A kx vx (compCx c scope cl C G1 s1).env) (xs.map φ) (.dict ks vs) (.dict (ks ++ (xs.filterMap F).map (·.1)) (vs ++ (xs.filterMap F).map (·.2))) := by
    intro xs
    induction xs with
    | nil => intro ks vs _ _ _; simp [Chain]
    | cons x xs ih =>
      intro ks vs h hn hl
      by_cases hw : Wf (compCx c scope cl C G1 s1)
      · obtain ⟨ρ', h1, h2, h3, h4, h5⟩ := h x (.head _) hw
        cases e : F x with
        | none =>
          rw [e] at h4 h5
          rw [List.filterMap_cons, e] at hn hl ⊢
          exact ⟨ρ', .dict ks vs, h1, h2, TailR.skip h4, ih ks vs (fun y hy => h y (.tail _ hy)) hn hl⟩
        | some p =>
          obtain ⟨k, a⟩ := p
          rw [e] at h4 h5
          rw [List.filterMap_cons, e] at hn hl ⊢
          simp only [List.map_cons, List.length_cons] at hn hl ⊢
          have hkn : k ∉ ks := fun q => by
            have := (List.nodup_append.mp hn).2.2 k q k (.head _)
            exact this rfl
          obtain ⟨e1, e2⟩ := h5 k a rfl
          refine ⟨ρ', .dict (ks ++ [k]) (vs ++ [a]), h1, h2, TailR.emit h4 ?_, ?_⟩
          · have := BodyR.put (c := compCx c scope cl C G1 s1) (ρ := ρ') (ks := ks) (vs := vs) h3 e1 e2 (by omega)
            unfold putK at this
            rw [if_neg hkn] at this
            exact this
          · have := ih (ks ++ [k]) (vs ++ [a]) (fun y hy => h y (.tail _ hy)) (by simpa using hn) (by rw [List.length_append]; simp; omega)
            simpa using this
      · refine ⟨compRo c.names ρ scope.names, .dict (ks ++ (F x).toList.map (·.1)) (vs ++ (F x).toList.map (·.2)), fun G s v Q E S => absurd S.wf hw, fun _ _ e => e, fun G s E acc Q S => absurd S.wf hw, ?_⟩
        have := ih (ks ++ (F x).toList.map (·.1)) (vs ++ (F x).toList.map (·.2)) (fun y hy => h y (.tail _ hy))
        cases e : F x with
        | none => rw [e] at this; rw [List.filterMap_cons, e] at hn hl ⊢; simpa using this (by simpa using hn) (by simpa using hl)
        | some p => rw [e] at this; rw [List.filterMap_cons, e] at hn hl ⊢; simpa using this (by simpa using hn) (by simp at hl ⊢; omega)
  simpa using key zs [] [] (fun x hx hw => ht _ F' rfl hw x hx) (by simpa using hn) (by simpa using hl)
end
end Mine
/-! PI11 -/
namespace Mine

inductive Out where
  | next (ρ : Ro) | brk (ρ : Ro) | ret (a : V) | done (ρ : Ro) (a : V)

section
variable {D : Wd} {c : Cx D} {A : Around} {ρ ρ' ρ'' ρ0 ρ1 : Ro} {G G' Ga G₁ G₂ G₃ : PO} {s s' sa s₁ s₂ s₃ : Shared} {h h' : Heap} {l : List (Str × NameKind)} {o : Out}

noncomputable def OutP {D : Wd} (c : Cx D) (G : PO) (s : Shared) (o : Out) (f : Flow) (s' : Shared) : Prop :=
  match o with
  | .next ρ => f = .next ∧ ∃ G', St c ρ G' s' ∧ Stp D G s G' s'
  | .brk ρ => f = .brk ∧ ∃ G', St c ρ G' s' ∧ Stp D G s G' s'
  | .ret a => ∃ v, f = .ret v ∧ ∃ G' ρ', St c ρ' G' s' ∧ Stp D G s G' s' ∧ VR D G' a v
  | .done ρ' a => ∃ v, f = .ret v ∧ ∃ G', St c ρ' G' s' ∧ Stp D G s G' s' ∧ VR D G' a v
theorem OutP.after {f : Flow} (x : Stp D G s G₁ s₁) (p : OutP c G₁ s₁ o f s') : OutP c G s o f s' := by
  cases o with
  | next ρ => obtain ⟨e, G', S, y⟩ := p; exact ⟨e, G', S, x.trans y⟩
  | brk ρ => obtain ⟨e, G', S, y⟩ := p; exact ⟨e, G', S, x.trans y⟩
  | ret a => obtain ⟨v, e, G', ρ', S, y, r⟩ := p; exact ⟨v, e, G', ρ', S, x.trans y, r⟩
  | done ρ' a => obtain ⟨v, e, G', S, y, r⟩ := p; exact ⟨v, e, G', S, x.trans y, r⟩

noncomputable def Ex {D : Wd} (c : Cx D) (ρ : Ro) (st : Stmt) (o : Out) : Prop := Box (∀ G s E, St c ρ G s → wpAny D.M c.A (exec st c.env) (OutP c G s o) E s)
noncomputable def Exs {D : Wd} (c : Cx D) (ρ : Ro) (ss : List Stmt) (o : Out) : Prop := Box (∀ G s E, St c ρ G s → wpAny D.M c.A (execs ss c.env) (OutP c G s o) E s)
theorem Exs.nil : Exs c ρ [] (.next ρ) := .mk fun G s E S => wpAny_execs_nil ⟨rfl, G, S, Stp.refl ..⟩
theorem Exs.cons {st : Stmt} {ss : List Stmt} (h : Ex c ρ st (.next ρ')) (t : Exs c ρ' ss o) : Exs c ρ (st :: ss) o := .mk fun G s E S =>
  wpAny_execs_cons (wpAny_mono (h.run G s E S) (fun f s₁ p => by
    obtain ⟨rfl, G₁, S₁, x⟩ := p
    exact wpAny_mono (t.run G₁ s₁ E S₁) (fun f s' q => q.after x) fun _ _ e => e) fun _ _ e => e)
theorem Exs.ret {st : Stmt} {ss : List Stmt} {a : V} (h : Ex c ρ st (.ret a)) : Exs c ρ (st :: ss) (.ret a) := .mk fun G s E S =>
  wpAny_execs_cons (wpAny_mono (h.run G s E S) (fun f s₁ p => by
    obtain ⟨v, rfl, r⟩ := p
    exact ⟨v, rfl, r⟩) fun _ _ e => e)
theorem Exs.done {st : Stmt} {ss : List Stmt} {a : V} (h : Ex c ρ st (.done ρ' a)) : Exs c ρ (st :: ss) (.done ρ' a) := .mk fun G s E S =>
  wpAny_execs_cons (wpAny_mono (h.run G s E S) (fun f s₁ p => by
    obtain ⟨v, rfl, r⟩ := p
    exact ⟨v, rfl, r⟩) fun _ _ e => e)
theorem Exs.brk {st : Stmt} {ss : List Stmt} (h : Ex c ρ st (.brk ρ')) : Exs c ρ (st :: ss) (.brk ρ') := .mk fun G s E S =>
  wpAny_execs_cons (wpAny_mono (h.run G s E S) (fun f s₁ p => by
    obtain ⟨rfl, r⟩ := p
    exact ⟨rfl, r⟩) fun _ _ e => e)
theorem Ex.if {t : Expr} {th el : List Stmt} {pos : Pos} {b : Bool} (ht : Tst c ρ t b) (h1 : b = true → Exs c ρ th o) (h2 : b = false → Exs c ρ el o) : Ex c ρ (.If t th el pos) o := .mk fun G s E S => by
  refine wpAny_If (ht.mono S fun s₁ G₁ x₁ g₁ => ?_)
  cases b with
  | true => exact wpAny_mono ((h1 rfl).run G₁ s₁ E (S.step x₁ g₁)) (fun f s' q => q.after (x₁.stp g₁)) fun _ _ e => e
  | false => exact wpAny_mono ((h2 rfl).run G₁ s₁ E (S.step x₁ g₁)) (fun f s' q => q.after (x₁.stp g₁)) fun _ _ e => e
theorem Ex.ret {e : Expr} {pos : Pos} {a : V} (he : Ev c ρ e a) : Ex c ρ (.Return (some e) pos) (.ret a) := .mk fun G s E S =>
  wpAny_Return_some (he.mono S fun v s₁ G₁ x₁ g₁ r₁ => ⟨v, rfl, G₁, ρ, S.step x₁ g₁, x₁.stp g₁, r₁⟩)
theorem Ex.break {pos : Pos} : Ex c ρ (.Break pos) (.brk ρ) := .mk fun G s E S => wpAny_Break ⟨rfl, G, S, Stp.refl ..⟩
theorem Ex.expr {e : Expr} {pos : Pos} {a : V} (he : Ev c ρ e a) (hi : interactive c.env = false := by rfl) (hs : ∀ env l, swapsWith e none l env = pure false := by intro _ _; rfl) : Ex c ρ (.Expr e pos) (.next ρ) := .mk fun G s E S =>
  wpAny_Expr_any (he.mono S fun v s₁ G₁ x₁ g₁ r₁ => ⟨rfl, G₁, S.step x₁ g₁, x₁.stp g₁⟩) hi (hs _ _)
theorem Exs.cast {ss : List Stmt} {o' : Out} (h : Exs c ρ ss o) (e : o = o') : Exs c ρ ss o' := e ▸ h
theorem Ex.cast {st : Stmt} {o' : Out} (h : Ex c ρ st o) (e : o = o') : Ex c ρ st o' := e ▸ h

theorem Ex.assign {t e : Expr} {pos : Pos} {a : V} (he : Ev c ρ e a) (ht : AsgR c ρ t a ρ') (hs : swapsWith e (some t) pos.line c.env = pure false) (hw : swappedStores [t] e c.env = pure none)
    (hm : ∀ env, (assignEach [t] env).map (·.2) = [assign t env]) : Ex c ρ (.Assign [t] e pos) (.next ρ') := .mk fun G s E S => by
  refine wpAny_Assign_stores (he.mono S fun v s₁ G₁ x₁ g₁ r₁ => ?_) hs hw
  rw [hm]
  exact ht G₁ s₁ v _ E (S.step x₁ g₁) r₁ fun s' S' x' => ⟨rfl, G₁, S', (x₁.stp g₁).trans x'.stp⟩
theorem Ex.set {x : Str} {np pos : Pos} {e : Expr} {a : V} (he : Ev c ρ e a) {i : Nat} {k : VK} (hx : c.names[i]? = some x) (hk : c.kinds[i]? = some k) (hne : k ≠ .ext := by decide)
    (hs : ∀ env p l, swapsWith e (some (.Name x p)) l env = pure false := by intro _ _ _; rfl) : Ex c ρ (.Assign [.Name x np] e pos) (.next (ρ.set i (some (.val a)))) :=
  Ex.assign he (AsgR.name hx hk hne) (hs _ _ _) rfl fun _ => rfl
theorem Ex.set3 {x y z : Str} {p1 p2 p3 pos : Pos} {e : Expr} {a : V} (he : Ev c ρ e a) (h1 : AsgR c ρ (.Name x p1) a ρ') (h2 : AsgR c ρ' (.Name y p2) a ρ'') (h3 : AsgR c ρ'' (.Name z p3) a ρ1) : Ex c ρ (.Assign [.Name x p1, .Name y p2, .Name z p3] e pos) (.next ρ1) := .mk fun G s E S => by
  refine wpAny_Assign_three (he.mono S fun v s₁ G₁ x₁ g₁ r₁ => ?_)
  refine h1 G₁ s₁ v _ E (S.step x₁ g₁) r₁ fun s₂ S₂ y₂ => h2 G₁ s₂ v _ E S₂ r₁ fun s₃ S₃ y₃ => h3 G₁ s₃ v _ E S₃ r₁ fun s₄ S₄ y₄ => ⟨rfl, G₁, S₄, (x₁.stp g₁).trans ((y₂.stp.trans y₃.stp).trans y₄.stp)⟩
theorem swaps_cell {e : Expr} {x : Str} {p : Pos} {ln : Nat} {env : Env} (hx : env.kindOf x = some .cell) : swapsWith e (some (.Name x p)) ln env = pure false := by
  have z : (some NameKind.cell == some NameKind.local) = false := by decide
  unfold swapsWith
  cases e <;> (simp only [hx, z, Bool.and_false, Bool.false_and]; try rfl)
theorem Ex.setCell {x : Str} {np pos : Pos} {e : Expr} {a : V} (he : Ev c ρ e a) (hW : ∀ G s, St c ρ G s → c.env.kindOf x = some .cell) {i : Nat} (hx : c.names[i]? = some x) (hk : c.kinds[i]? = some .own) :
    Ex c ρ (.Assign [.Name x np] e pos) (.next (ρ.set i (some (.val a)))) := .mk fun G s E S =>
  (Ex.assign he (AsgR.name hx hk (by decide)) (swaps_cell (hW G s S)) rfl (fun _ => rfl)).run G s E S
theorem Ex.setCell' {x : Str} {np pos : Pos} {e : Expr} {a : V} (he : Ev c ρ e a) {i : Nat} (hx : c.names[i]? = some x) (hk : c.kinds[i]? = some .own) :
    Ex c ρ (.Assign [.Name x np] e pos) (.next (ρ.set i (some (.val a)))) := Ex.setCell he (fun G s S => S.wf.kown i x hx hk) hx hk
theorem Ex.aug {x : Str} {np pos : Pos} {op : Operator} {e : Expr} {a b r : V} {i : Nat} {k : VK} (hx : c.names[i]? = some x) (hk : c.kinds[i]? = some k) (hr : ρ[i]? = some (some (.val a))) (he : Ev c ρ e b)
    (ho : ∀ A G s E u v, GOK D G s → VR D G a u → VR D G b v → wpAny D.M A (inplaceOp op u v) (Post D G s r) E s) (hne : k ≠ .ext := by decide) : Ex c ρ (.AugAssign (.Name x np) op e pos) (.next (ρ.set i (some (.val r)))) := .mk fun G s E S => by
  have hn := Ev.name (c := c) (ρ := ρ) (pos := np) hx hr
  have pl := S.wf.plain i x hx
  refine wpAny_AugAssign_Name ?_
  have : wpAny D.M c.A (loadName c.env x) (Post D G s a) E s := by
    obtain ⟨kk, hkk⟩ := S.wf.kall i x hx
    by_cases hl : kk = .loc
    · subst hl
      obtain ⟨m, hm, hv⟩ := S.loc
      obtain ⟨v, e, r⟩ := hv i x _ hx hkk hr
      exact wpAny_loadName_local S.wf.fn (S.wf.kloc i x hx hkk) hm e ⟨G, Ext.refl .., S.ok, r⟩
    · obtain ⟨ad, v0, e1, e2, _, e5⟩ := S.cel i x kk hx hkk hl
      obtain ⟨v, rfl, r⟩ := e5 _ hr
      have fin : Post D G s a v s := ⟨G, Ext.refl .., S.ok, r⟩
      cases kk with
      | loc => exact absurd rfl hl
      | own => exact wpAny_loadName_cell S.wf.fn (S.wf.kown i x hx hkk) e1 e2 fin
      | ext => rw [hk] at hkk; cases hkk; exact absurd rfl hne
  refine wpAny_mono this (fun u s₁ ⟨G₁, x₁, g₁, r₁⟩ => he.mono (S.step x₁ g₁) fun v s₂ G₂ x₂ g₂ r₂ => ?_) fun _ _ e => e
  refine wpAny_mono (ho c.A G₂ s₂ E u v g₂ (r₁.mono x₂.le) r₂) (fun w s₃ ⟨G₃, x₃, g₃, r₃⟩ => ?_) fun _ _ e => e
  have xx := (x₁.then g₁ x₂).then g₂ x₃
  exact (S.step xx g₃).store (sl := .val r) hx hk hne r₃ fun s' S' x' => ⟨rfl, G₃, S', (xx.stp g₃).trans x'.stp⟩

/-! ### loops -/
noncomputable def LoopC {D : Wd} (c : Cx D) (tgt : Expr) (body : List Stmt) : List V → Ro → Out → Prop
  | [], ρ, o => o = .next ρ
  | x :: xs, ρ, o => ∃ ρ₁ o₁, AsgR c ρ tgt x ρ₁ ∧ Exs c ρ₁ body o₁ ∧ match o₁ with
    | .next ρ₂ => LoopC c tgt body xs ρ₂ o
    | .brk ρ₂ => o = .next ρ₂
    | .ret a => o = .ret a
    | .done ρ₂ a => o = .done ρ₂ a
theorem codeAny_for_unf {M : Model} {A : Around} {R : Result → Shared → Prop} {target it body env} {prog : Program} {w : World} (hM : M = model prog w)
    (turn : ∀ E, wpAny M A (pyNext it) (fun r s₁ => match r with
      | none => R (.ok .next) s₁
      | some v => wpAny M A (letOwnedTupleGo target it v) (fun _ s₁' =>
          wpAny M A (assign target env v) (fun _ s₂ => wpAny M A (execs body env) (fun f s₃ => match f with
            | .next | .cont => codeAny M A (.forLoop target it body [] env) R s₃
            | .brk => R (.ok .next) s₃
            | .ret v => R (.ok (.ret v)) s₃) E s₂) E s₁') E s₁) E s) : codeAny M A (.forLoop target it body [] env) R s := by
  subst hM
  refine codeAny_of_tree ?_
  show wpAny _ A ((forTurn target it body [] env).onRaise (fun x => do noteFrame x env; theTreesLotGoes x)) _ _ s
  refine wpAny_noted ?_
  unfold forTurn
  refine wpAny_bind (wpAny_standAt (wpAny_bind (wpAny_onRaise (wpAny_mono (turn (notedBy (model prog w) A env fun e s' => R (.error e) s')) (fun r s₁ h₁ => ?_) fun _ _ h' => wpAny_standAt h'))))
  cases r with
    | none => exact wpAny_pure ⟨rfl, codeAny_block (wpAny_execs_nil h₁)⟩
    | some v =>
      refine wpAny_bind (wpAny_mono h₁ (fun _ s₂ h₂ => wpAny_bind (wpAny_mono h₂ (fun _ s₃ h₃ => wpAny_bind (wpAny_mono h₃ (fun f s₄ h₄ => ?_) fun _ _ h' => h')) fun _ _ h' => h')) fun _ _ h' => h')
      cases f with
      | next => exact wpAny_pure ⟨rfl, h₄⟩
      | cont => exact wpAny_pure ⟨rfl, h₄⟩
      | brk => exact wpAny_pure h₄
      | ret v => exact wpAny_pure h₄
theorem Ex.for {tgt itx : Expr} {body : List Stmt} {pos : Pos} {xs : List V} (hit : ItE c ρ tgt itx xs) (hl : LoopC c tgt body xs ρ o) (hs : ∀ x env, foldedSetIterable itx env x = pure x := by intro _ _; rfl) : Ex c ρ (.For tgt itx body [] pos) o := .mk fun G s E S => by
  refine wpAny_For ?_ (fun x => hs x _)
  refine wpAny_mono (hit.run G s E S) (fun x s₁ h₁ => wpAny_mono h₁ (fun it s₂ h₂ => ?_) fun _ _ e => e) fun _ _ e => e
  obtain ⟨G₂, I, J, rfl, x₂, g₂, i1, i2, i3, W, j⟩ := h₂
  have h0 : c.s0.heap.get? I = none := by
    cases e : c.s0.heap.get? I with
    | none => rfl
    | some o => rw [S.ext.keep I o i3 e] at i1; cases i1
  have key : ∀ (suf pre : List V) (ρi : Ro) (G₁ : PO) (s₁ : Shared), xs = pre ++ suf → LoopC c tgt body suf ρi o → J pre.length G₁ s₁.heap → G₁ I = none → St c ρi G₁ s₁ → Stp D G s G₁ s₁ →
      codeAny D.M c.A (.forLoop tgt (.ref I) body [] c.env) (fun r s' => match r with | .ok f => OutP c G s o f s' | .error e => cameBackBy D.M c.A c.env E e s') s₁ := by
    intro suf
    induction suf with
    | nil =>
      intro pre ρi G₁ s₁ hx hc j gI S₁ x
      rw [List.append_nil] at hx; subst hx
      refine codeAny_for_unf rfl fun E' => ?_
      obtain ⟨ob, vs, eo, do'⟩ := W.obj _ _ _ j
      refine wpAny_mono (W.done G₁ s₁ E' j S₁.ok gI) (fun r s₂ ⟨hr, G₂, y, g₂⟩ => ?_) fun _ _ e => e
      subst hr
      unfold LoopC at hc
      subst hc
      exact ⟨rfl, G₂, S₁.stepA y g₂ eo do' h0, x.away g₂ y i1⟩
    | cons v suf ih =>
      intro pre ρi G₁ s₁ hx hc j gI S₁ x
      refine codeAny_for_unf rfl fun E' => ?_
      obtain ⟨ob, vs, eo, do'⟩ := W.obj _ _ _ j
      obtain ⟨ρ₁, o₁, c1, c2, c3⟩ := hc
      have hv : xs[pre.length]? = some v := by rw [hx]; simp
      refine wpAny_mono (W.item pre.length G₁ s₁ E' v hv j S₁.ok gI) (fun r s₁' ⟨u, hr, k⟩ => ?_) fun _ _ e => e
      subst hr
      refine wpAny_mono k (fun _ s₂ ⟨G₂, x₂, g₂, r₂, j₂⟩ => ?_) fun _ _ e => e
      have gI₂ : G₂ I = none := by
        cases q : G₂ I with
        | none => rfl
        | some _ => rw [x₂.fresh _ gI (by rw [q]; simp)] at eo; cases eo
      have S₂ := S₁.stepA x₂ g₂ eo do' h0
      refine c1 G₂ s₂ u _ E' S₂ r₂ fun s₃ S₃ b₃ => ?_
      have xx₀ := (x.away g₂ x₂ i1).trans b₃.stp
      obtain ⟨o₂, vs₂, e₂, d₂⟩ := W.obj _ _ _ j₂
      refine wpAny_mono (c2.run G₂ s₃ E' S₃) (fun f s₄ p => ?_) fun _ _ e => e
      cases o₁ with
      | next ρ₂ =>
        obtain ⟨rfl, G₄, S₄, x₄⟩ := p
        have xx : Stp D G₂ s₂ G₄ s₄ := b₃.stp.trans x₄
        have gI₄ : G₄ I = none := xx.fresh I o₂ vs₂ gI₂ i3 e₂ d₂
        refine ih (pre ++ [v]) ρ₂ G₄ s₄ (by rw [hx]; simp) c3 ?_ gI₄ S₄ ((x.away g₂ x₂ i1).trans xx)
        rw [List.length_append, List.length_singleton]
        exact W.stable _ _ _ _ _ j₂ xx.le S₄.ok.sub fun o' e' => by rw [e₂] at e'; cases e'; exact xx.keep I o₂ vs₂ i3 e₂ d₂
      | brk ρ₂ =>
        obtain ⟨rfl, G₄, S₄, x₄⟩ := p
        have c3 : o = .next ρ₂ := c3
        subst c3
        exact ⟨rfl, G₄, S₄, xx₀.trans x₄⟩
      | ret a =>
        obtain ⟨v, rfl, G₄, ρ₄, S₄, x₄, r₄⟩ := p
        have c3 : o = .ret a := c3
        subst c3
        exact ⟨v, rfl, G₄, ρ₄, S₄, xx₀.trans x₄, r₄⟩
      | done ρ₂ a =>
        obtain ⟨v, rfl, G₄, S₄, x₄, r₄⟩ := p
        have c3 : o = .done ρ₂ a := c3
        subst c3
        exact ⟨v, rfl, G₄, S₄, xx₀.trans x₄, r₄⟩
  exact key xs [] ρ G₂ s₂ rfl hl j i2 (S.step x₂ g₂) (x₂.stp g₂)

noncomputable def WhileC {D : Wd} (c : Cx D) (test : Expr) (body : List Stmt) : Nat → Ro → Out → Prop
  | 0, _, _ => False
  | n + 1, ρ, o => ∃ b, Tst c ρ test b ∧ (b = false → o = .next ρ) ∧ (b = true → ∃ o₁, Exs c ρ body o₁ ∧ match o₁ with
    | .next ρ₂ => WhileC c test body n ρ₂ o
    | .brk ρ₂ => o = .next ρ₂
    | .ret a => o = .ret a
    | .done ρ₂ a => o = .done ρ₂ a)
theorem Ex.while {test : Expr} {body : List Stmt} {pos : Pos} (n : Nat) (hw : WhileC c test body n ρ o) : Ex c ρ (.While test body [] pos) o := .mk fun G s E S => by
  refine wpAny_While (codeAny_whileLoop (fun k s' => ∃ ρ' G', WhileC c test body k ρ' o ∧ St c ρ' G' s' ∧ Stp D G s G' s') ?_ n ⟨ρ, G, hw, S, Stp.refl ..⟩)
  rintro k s₁ ⟨ρ₁, G₁, hw, S₁, x₁⟩
  cases k with
  | zero => exact hw.elim
  | succ k =>
    obtain ⟨b, h1, h2, h3⟩ := hw
    refine h1.mono S₁ fun s₂ G₂ x₂ g₂ => ?_
    have S₂ := S₁.step x₂ g₂
    have xx := x₁.trans (x₂.stp g₂)
    cases b with
    | false =>
      have e := h2 rfl
      subst e
      exact wpAny_execs_nil ⟨rfl, G₂, S₂, xx⟩
    | true =>
      obtain ⟨o₁, h4, h5⟩ := h3 rfl
      refine wpAny_mono (h4.run G₂ s₂ _ S₂) (fun f s₃ p => ?_) fun _ _ e => e
      cases o₁ with
      | next ρ₂ => obtain ⟨rfl, G₃, S₃, x₃⟩ := p; exact ⟨k, Nat.lt_succ_self k, ρ₂, G₃, h5, S₃, xx.trans x₃⟩
      | brk ρ₂ =>
        obtain ⟨rfl, G₃, S₃, x₃⟩ := p
        have h5 : o = .next ρ₂ := h5
        subst h5
        exact ⟨rfl, G₃, S₃, xx.trans x₃⟩
      | ret a =>
        obtain ⟨v, rfl, G₃, ρ₃, S₃, x₃, r₃⟩ := p
        have h5 : o = .ret a := h5
        subst h5
        exact ⟨v, rfl, G₃, ρ₃, S₃, xx.trans x₃, r₃⟩
      | done ρ₂ a =>
        obtain ⟨v, rfl, G₃, S₃, x₃, r₃⟩ := p
        have h5 : o = .done ρ₂ a := h5
        subst h5
        exact ⟨v, rfl, G₃, S₃, xx.trans x₃, r₃⟩
end
end Mine
/-! PI12 -/
namespace Mine
section
variable {D : Wd} {c : Cx D} {A : Around} {ρ ρ' ρ'' ρ0 ρ1 : Ro} {G G' Ga G₁ G₂ G₃ : PO} {s s' sa s₁ s₂ s₃ : Shared} {h h' : Heap} {l : List (Str × NameKind)} {o : Out}

noncomputable def Sole (ρ : Ro) (i : Nat) : Prop := ∀ (j : Nat) (a : V), j ≠ i → ρ[j]? ≠ some (some (Slot.own a))

theorem get_set {i j : Nat} {sl sl' : Slot} (e : (ρ.set i (some sl))[j]? = some (some sl')) : (i = j ∧ sl' = sl) ∨ (i ≠ j ∧ ρ[j]? = some (some sl')) := by
  rw [List.getElem?_set] at e
  by_cases q : i = j
  · rw [if_pos q] at e
    split at e
    · exact .inl ⟨q, by cases e; rfl⟩
    · cases e
  · rw [if_neg q] at e; exact .inr ⟨q, e⟩

theorem St.own (S : St c ρ G s) {i : Nat} {x : Str} {a : V} (hx : c.names[i]? = some x) (hr : ρ[i]? = some (some (.own a))) (hso : Sole ρ i) :
    ∃ d, (∀ pos (Q : Value → Shared → Prop) E, Q (.ref d) s → wpAny D.M c.A (eval (.Name x pos) c.env) Q E s) ∧ SlotR c G s.heap (.own a) (.ref d) ∧
      (∀ s₁ G₁, Ext D.tabs G s G₁ s₁ → GOK D G₁ s₁ → ∀ h' k a', Heap.SameBut d s₁.heap h' → OwnR D G₁ h' d a' → St c (ρ.set i (some (.own a'))) G₁ { s₁ with heap := h', toks := k } ∧ Stp D G s G₁ { s₁ with heap := h', toks := k }) ∧
      ∃ G', St c (ρ.set i (some (.val a))) G' s ∧ Stp D G s G' s := by
  obtain ⟨m, hm, hl⟩ := S.loc
  obtain ⟨k, hk⟩ := S.wf.kall i x hx
  have pl := S.wf.plain i x hx
  have key : ∃ d, (∀ pos (Q : Value → Shared → Prop) E, Q (.ref d) s → wpAny D.M c.A (eval (.Name x pos) c.env) Q E s) ∧ SlotR c G s.heap (.own a) (.ref d) ∧ (k = .loc → m x = some (.ref d)) ∧
      (k ≠ .loc → ∃ ac, c.env.cells.lookup x = some ac ∧ s.heap.IsCell ac (some (.ref d))) := by
    by_cases hkl : k = .loc
    · subst hkl
      obtain ⟨v, e, r⟩ := hl i x _ hx hk hr
      obtain ⟨d, rfl, r'⟩ := id r
      exact ⟨d, fun pos Q E hQ => wpAny_Name (wpAny_loadName_local S.wf.fn (S.wf.kloc i x hx hk) hm e hQ) pl.1, r, fun _ => e, fun q => absurd rfl q⟩
    · obtain ⟨ad, v0, e1, e2, _, e5⟩ := S.cel i x k hx hk hkl
      obtain ⟨v, rfl, r⟩ := e5 _ hr
      obtain ⟨d, rfl, r'⟩ := id r
      refine ⟨d, fun pos Q E hQ => wpAny_Name ?_ pl.1, r, fun q => absurd q hkl, fun _ => ⟨ad, e1, e2⟩⟩
      cases k with
      | loc => exact absurd rfl hkl
      | own => exact wpAny_loadName_cell S.wf.fn (S.wf.kown i x hx hk) e1 e2 hQ
      | ext =>
        rcases S.wf.kext i x hx hk with q | q
        · exact wpAny_loadName_cell S.wf.fn q e1 e2 hQ
        · exact wpAny_loadName_free S.wf.fn q e1 e2 hQ pl.2
  obtain ⟨d, k1, k2, k3, k4⟩ := key
  obtain ⟨d', e, gd, nd, dL, dsm, ow⟩ := id k2
  cases e
  obtain ⟨od, ed, nf, nc⟩ := ow.data
  have hlen : i < ρ.length := (List.getElem?_eq_some_iff.mp hr).1
  refine ⟨d, k1, k2, fun s₁ G₁ x₁ g₁ h' kk a' hs ow' => ?_, ?_⟩
  · have S₁ := S.step x₁ g₁
    have dnt : d ∉ D.tabs := S.ok.notTab ed nf
    have ed₁ : s₁.heap.get? d = some od := x₁.keep d od dnt ed
    have gd₁ : G₁ d = none := by
      cases q : G₁ d with
      | none => rfl
      | some _ => rw [x₁.fresh _ gd (by rw [q]; simp)] at ed; cases ed
    have kp : ∀ b o, b ≠ d → s.heap.get? b = some o → (∀ vs, o.data ≠ .fields vs) → h'.get? b = some o := fun b o hb e hn => (hs.2 b hb).trans (x₁.keep b o (S.ok.notTab e hn) e)
    obtain ⟨oL, eL, nL, _⟩ := Heap.Ns.data hm
    have y' : SlotR c G₁ h' (.own a') (.ref d) := ⟨d, rfl, gd₁, nd, dL, dsm, ow'⟩
    obtain ⟨o', e', _, _⟩ := ow'.data
    refine ⟨⟨S.wf, S₁.ext.write (k := kk) nd hs, g₁.write (k := kk) gd₁ dnt hs, S.newL, S₁.offL, ⟨m, hm.at' fun o e => kp _ o (Ne.symm dL) e (by rw [eL] at e; cases e; exact nL), fun j y sl h1 h2 h3 => ?_⟩, fun j y kj h1 h2 h3 => ?_, S.apart⟩, ?_⟩
    · rcases get_set h3 with ⟨rfl, rfl⟩ | ⟨hij, h3⟩
      · rw [hx] at h1; cases h1
        rw [hk] at h2; cases h2
        exact ⟨_, k3 rfl, y'⟩
      · obtain ⟨v, e, r⟩ := hl j y sl h1 h2 h3
        cases sl with
        | val a => exact ⟨v, e, VR.mono x₁.le r⟩
        | own a => exact absurd h3 (hso j a (Ne.symm hij))
    · obtain ⟨ac, v0, e1, ⟨oc, ec, dc⟩, e3, e5⟩ := S.cel j y kj h1 h2 h3
      have nf' : ∀ vs, oc.data ≠ .fields vs := fun vs q => by rw [dc] at q; cases q
      have hne : ac ≠ d := fun q => by rw [q, ed] at ec; cases ec; exact nc _ dc
      refine ⟨ac, v0, e1, ⟨oc, kp _ _ hne ec nf', dc⟩, fun q => ⟨(e3 q).1, ?_⟩, fun sl h4 => ?_⟩
      · cases q' : G₁ ac with
        | none => rfl
        | some _ => rw [x₁.fresh _ (e3 q).2 (by rw [q']; simp)] at ec; cases ec
      · rcases get_set h4 with ⟨rfl, rfl⟩ | ⟨hij, h4⟩
        · rw [hx] at h1; cases h1
          rw [hk] at h2; cases h2
          obtain ⟨ac', e1', ⟨oc', ec', dc'⟩⟩ := k4 h3
          rw [e1] at e1'; cases e1'
          rw [ec] at ec'; cases ec'
          rw [dc] at dc'; cases dc'
          exact ⟨_, rfl, y'⟩
        · obtain ⟨v, h5, r⟩ := e5 sl h4
          cases sl with
          | val a => exact ⟨v, h5, VR.mono x₁.le r⟩
          | own a => exact absurd h4 (hso j a (Ne.symm hij))
    · have xx := x₁.stp g₁
      obtain ⟨h1, tk, q1⟩ := xx.same
      refine ⟨⟨h', kk, by rw [q1]⟩, xx.le, xx.fresh, fun b o vs hb e2 hd => ?_, fun b o e2 => ?_⟩
      · have e3 := xx.keep b o vs hb e2 hd
        exact (hs.2 b (fun q => by rw [q, ed₁] at e3; cases e3; exact nf _ hd)).trans e3
      · by_cases q : b = d
        · exact ⟨_, q ▸ e'⟩
        · obtain ⟨o', e3⟩ := xx.live b o e2
          exact ⟨o', (hs.2 b q).trans e3⟩
  · have dnt : d ∉ D.tabs := S.ok.notTab ed nf
    have le := PO.le_add (o := od) gd
    have y' : SlotR c (G.add d od) s.heap (.val a) (.ref d) := VR.frozen dsm ed gd ow
    have nadd : ∀ b, G b = none → b ≠ d → (G.add d od) b = none := fun b e q => by unfold PO.add; rw [if_neg q]; exact e
    refine ⟨G.add d od, ⟨S.wf, S.ext.freeze gd nd, S.ok.freeze ed gd dnt, S.newL, nadd _ S.offL (Ne.symm dL), ⟨m, hm, fun j y sl h1 h2 h3 => ?_⟩, fun j y kj h1 h2 h3 => ?_, S.apart⟩, ⟨⟨_, _, rfl⟩, le, fun b o vs n hb e hd => nadd b n (fun q => by rw [q, ed] at e; cases e; exact nf _ hd), fun _ _ _ _ e _ => e, fun _ o e => ⟨o, e⟩⟩⟩
    · rcases get_set h3 with ⟨rfl, rfl⟩ | ⟨hij, h3⟩
      · rw [hx] at h1; cases h1
        rw [hk] at h2; cases h2
        exact ⟨_, k3 rfl, y'⟩
      · obtain ⟨v, e, r⟩ := hl j y sl h1 h2 h3
        cases sl with
        | val a => exact ⟨v, e, VR.mono le r⟩
        | own a => exact absurd h3 (hso j a (Ne.symm hij))
    · obtain ⟨ac, v0, e1, ⟨oc, ec, dc⟩, e3, e5⟩ := S.cel j y kj h1 h2 h3
      have hne : ac ≠ d := fun q => by rw [q, ed] at ec; cases ec; exact nc _ dc
      refine ⟨ac, v0, e1, ⟨oc, ec, dc⟩, fun q => ⟨(e3 q).1, nadd _ (e3 q).2 hne⟩, fun sl h4 => ?_⟩
      rcases get_set h4 with ⟨rfl, rfl⟩ | ⟨hij, h4⟩
      · rw [hx] at h1; cases h1
        rw [hk] at h2; cases h2
        obtain ⟨ac', e1', ⟨oc', ec', dc'⟩⟩ := k4 h3
        rw [e1] at e1'; cases e1'
        rw [ec] at ec'; cases ec'
        rw [dc] at dc'; cases dc'
        exact ⟨_, rfl, y'⟩
      · obtain ⟨v, h5, r⟩ := e5 sl h4
        cases sl with
        | val a => exact ⟨v, h5, VR.mono le r⟩
        | own a => exact absurd h4 (hso j a (Ne.symm hij))
end
end Mine
/-! PI13 -/
namespace Mine
section
variable {D : Wd} {c : Cx D} {A : Around} {ρ ρ' ρ'' ρ0 ρ1 : Ro} {G G' Ga G₁ G₂ G₃ : PO} {s s' sa s₁ s₂ s₃ : Shared} {h h' : Heap} {o : Out}

theorem Exs.freeze {ss : List Stmt} {i : Nat} {x : Str} {a : V} (hx : c.names[i]? = some x) (hr : ρ[i]? = some (some (.own a))) (hso : Sole ρ i) (t : Exs c (ρ.set i (some (.val a))) ss o) : Exs c ρ ss o := .mk fun G s E S => by
  obtain ⟨d, _, _, _, G', S', x'⟩ := S.own hx hr hso
  exact wpAny_mono (t.run G' s E S') (fun f s' p => p.after x') fun _ _ e => e

/-! ### new lists and dicts that are kept for writing -/
noncomputable def EvO {D : Wd} (c : Cx D) (ρ : Ro) (e : Expr) (a : V) : Prop :=
  Box (∀ G s E, St c ρ G s → wpAny D.M c.A (eval e c.env) (fun v s' => ∃ G', Ext D.tabs G s G' s' ∧ GOK D G' s' ∧ SlotR c G' s'.heap (.own a) v) E s)
theorem St.pushOwn (S : St c ρ G s) (sm : D.h₀.get? cStatics ≠ none) {o : Obj} {a : V} {k : Nat} (hf : o.isFreed = false) (ho : ∀ h : Heap, h.get? s.heap.objs.size = some o → OwnR D G h s.heap.objs.size a) :
    Ext D.tabs G s G { s with heap := s.heap.push o, toks := k } ∧ GOK D G { s with heap := s.heap.push o, toks := k } ∧ SlotR c G (s.heap.push o) (.own a) (.ref s.heap.objs.size) := by
  obtain ⟨g', x, n1, n2, n3⟩ := S.ok.push_away (o := o) (k := k)
  refine ⟨x, g', _, rfl, n1, ?_, fun q => ?_, fun q => sm_ne sm S.ok q.symm, ho _ (Heap.get?_push_size _ hf)⟩
  · cases e : c.s0.heap.get? s.heap.objs.size with
    | none => rfl
    | some o' => rw [S.ext.keep _ _ n3 e] at n2; cases n2
  · obtain ⟨m, hm, _⟩ := S.loc
    obtain ⟨oL, eL, _, _⟩ := Heap.Ns.data hm
    rw [← q, n2] at eL; cases eL
theorem EvO.list {es : List Expr} {pos : Pos} {l : List V} (sm : D.h₀.get? cStatics ≠ none) (h : EvL c ρ es l) (hs : l.length ≤ sizeLine := by first | decide | size_fits) : EvO c ρ (.List es pos) (.list l) := by
  refine .mk fun G s E S => ?_
  refine wpAny_List (wpAny_mono (h.run pos G s E S) (fun vs s₁ p => ?_) fun _ _ e => e)
  obtain ⟨G₁, x₁, g₁, r₁⟩ := p
  refine ⟨r₁.length ▸ hs, ?_⟩
  obtain ⟨x, g, y⟩ := (S.step x₁ g₁).pushOwn sm (k := s₁.toks) (o := { cls := .type "list", data := .seq vs.toArray }) (a := .list l) rfl fun h e => ⟨vs, r₁, 0, e⟩
  exact ⟨G₁, x₁.then g₁ x, g, y⟩
theorem EvO.dict0 {pos : Pos} (sm : D.h₀.get? cStatics ≠ none) : EvO c ρ (.Dict [] [] pos) (.dict [] []) := by
  refine .mk fun G s E S => ?_
  refine wpAny_Dict_empty ?_
  obtain ⟨x, g, y⟩ := S.pushOwn sm (k := s.toks) (o := { cls := .type "dict", data := .dict #[] }) (a := .dict [] []) rfl fun h e => own_nilD e
  exact ⟨G, x, g, y⟩
theorem Ev.dict0 {pos : Pos} (sm : D.h₀.get? cStatics ≠ none) : Ev c ρ (.Dict [] [] pos) (.dict [] []) := by
  refine .mk fun G s E S => ?_
  refine wpAny_Dict_empty ?_
  obtain ⟨x, g, d, e, gd, nd, dL, dsm, ow⟩ := S.pushOwn sm (k := s.toks) (o := { cls := .type "dict", data := .dict #[] }) (a := .dict [] []) rfl fun h e => own_nilD e
  cases e
  obtain ⟨ob, e, nf, _⟩ := ow.data
  exact ⟨_, x.freeze gd (Heap.get?_size s.heap), g.freeze e gd (g.notTab e nf), VR.frozen dsm e gd ow⟩
theorem dict1_gen {kx vx : Expr} {pos : Pos} {k : Int} {a : V} (hk : Ev c ρ kx (.int k)) (hv : Ev c ρ vx a) (S : St c ρ G s) (sm : D.h₀.get? cStatics ≠ none) {Q : Value → Shared → Prop} {E}
    (hQ : ∀ s' G', Ext D.tabs G s G' s' → GOK D G' s' → SlotR c G' s'.heap (.own (.dict [k] [a])) (.ref s.heap.objs.size) → Q (.ref s.heap.objs.size) s') : wpAny D.M c.A (eval (.Dict [some kx] [vx] pos) c.env) Q E s := by
  refine wpAny_Dict_walk (knd := intKind D.prog D.w) rfl rfl (by simp) (by simp) ?_
  obtain ⟨x, g, d, e, gd, nd, dL, dsm, ow⟩ := S.pushOwn sm (k := s.toks) (o := { cls := .type "dict", data := .dict #[] }) (a := .dict [] []) rfl fun h e => own_nilD e
  cases e
  obtain ⟨_, _, ob, eo, nf, nc⟩ := (show True ∧ True ∧ ∃ ob, (s.heap.push { cls := .type "dict", data := .dict #[] }).get? s.heap.objs.size = some ob ∧ (∀ vs, ob.data ≠ .fields vs) ∧ (∀ v, ob.data ≠ .cell v) from ⟨trivial, trivial, ow.data⟩)
  have hdt := g.notTab eo nf
  show wpAny _ _ (do let kv ← eval kx c.env; let vv ← holding [kv] (do let x ← eval vx c.env; standAt pos; pure x); pure ((kv, vv) :: (← holding [kv, vv] (evalPairs [])))) _ _ _
  refine wpAny_bind (hk.mono (S.step x g) fun kv s₁ G₁ x₁ g₁ r₁ => wpAny_bind (wpAny_holding (wpAny_bind (hv.mono ((S.step x g).step x₁ g₁) fun v s₂ G₂ x₂ g₂ r₂ => wpAny_bind (wpAny_standAt (wpAny_pure ?_))))))
  refine wpAny_bind (wpAny_holding (wpAny_pure (wpAny_pure ?_)))
  obtain ⟨t, rfl⟩ := VR.int_iff.mp r₁
  have xx := (x.then g x₁).then g₁ x₂
  have eo₂ : s₂.heap.get? s.heap.objs.size = some ob := x₂.keep _ _ hdt (x₁.keep _ _ hdt eo)
  have hd : s₂.heap.DictOf (intKind D.prog D.w) s.heap.objs.size [] := by
    obtain ⟨us, el, rs, o', es, ep, e', r⟩ := ow
    have : us = [] := by cases us with | nil => rfl | cons _ _ => simp at el
    subst this
    rw [eo] at e'; cases e'
    exact ⟨_, es, ep, eo₂, r⟩
  refine display_done_int rfl (by simp [intKeyPairs]) hd fun h' hd' hs => ?_
  have gd₂ : G₂ s.heap.objs.size = none := by
    cases q : G₂ s.heap.objs.size with
    | none => rfl
    | some _ =>
      have := (x₁.then g₁ x₂).fresh _ gd (by rw [q]; simp)
      rw [this] at eo; cases eo
  refine hQ _ G₂ (xx.write (Heap.get?_size s.heap) hs) (g₂.write gd₂ hdt hs) ⟨_, rfl, gd₂, nd, dL, dsm, [v], rfl, VRs.cons r₂ VRs.nil, ?_⟩
  exact hd'
theorem EvO.dict1 {kx vx : Expr} {pos : Pos} {k : Int} {a : V} (sm : D.h₀.get? cStatics ≠ none) (hk : Ev c ρ kx (.int k)) (hv : Ev c ρ vx a) : EvO c ρ (.Dict [some kx] [vx] pos) (.dict [k] [a]) := .mk fun G s E S =>
  dict1_gen hk hv S sm fun s' G' x g y => ⟨G', x, g, y⟩
theorem Ev.dict1 {kx vx : Expr} {pos : Pos} {k : Int} {a : V} (sm : D.h₀.get? cStatics ≠ none) (hk : Ev c ρ kx (.int k)) (hv : Ev c ρ vx a) : Ev c ρ (.Dict [some kx] [vx] pos) (.dict [k] [a]) := .mk fun G s E S =>
  dict1_gen hk hv S sm fun s' G' x g y => by
    obtain ⟨d, e, gd, nd, dL, dsm, ow⟩ := y
    cases e
    obtain ⟨ob, e, nf, _⟩ := ow.data
    exact ⟨_, x.freeze gd (Heap.get?_size s.heap), g.freeze e gd (g.notTab e nf), VR.frozen dsm e gd ow⟩

noncomputable def BinO (D : Wd) (op : Operator) (a b r : V) : Prop := ∀ A G s (Q : Value → Shared → Prop) E u v, GOK D G s → VR D G a u → VR D G b v →
  (∀ us k n, VRs D G (match r with | .list l => l | _ => []) us → Q (.ref s.heap.objs.size) { s with heap := s.heap.push { cls := .type "list", data := .seq us.toArray n }, toks := k }) → wpAny D.M A (binaryOp op u v) Q E s
theorem BinO.addList {a b : List V} (hs : a.length + b.length ≤ sizeLine) : BinO D .Add (.list a) (.list b) (.list (a ++ b)) := fun A G s Q E u v g hu hv hQ => by
  obtain ⟨l, us, rfl, ⟨n, e⟩, ha⟩ := VR.list_iff.mp hu; obtain ⟨b, ws, rfl, ⟨n', e'⟩, hb⟩ := VR.list_iff.mp hv
  have e := g.sub _ _ e
  have e' := g.sub _ _ e'
  refine concat_meets ⟨_, e, rfl⟩ ⟨_, e', rfl⟩ noFill_list_add seq_list_add PySem.F.slot_list_add PySem.F.entry_list_add (PySem.F.args_list_add_2 _ _) (list_addW l b us.toArray ws.toArray n n' none none #[] #[] (by simp [← ha.length, ← hb.length]; exact hs)) ⟨e, e', ?_⟩
  have q := hQ (us ++ ws) s.toks 0 (ha.append hb)
  rw [← List.append_toArray] at q
  exact q
theorem BinO.mulList {a : List V} {n : Int} (hlo : 0 ≤ n) (hhi : n ≤ 10000) (hs : a.length ≤ 1) : BinO D .Mult (.list a) (.int n) (.list (List.replicate n.toNat a).flatten) := fun A G s Q E u v g hu hv hQ => by
  obtain ⟨l, us, rfl, ⟨k, e⟩, ha⟩ := VR.list_iff.mp hu; obtain ⟨t', rfl⟩ := VR.int_iff.mp hv
  have e := g.sub _ _ e
  have hz : us.toArray.size * n.toNat ≤ 10000 := by
    have h1 : us.toArray.size ≤ 1 := by simpa [← ha.length] using hs
    have h2 : n.toNat ≤ 10000 := by omega
    exact Nat.le_trans (Nat.mul_le_mul h1 h2) (by decide)
  refine wpAny_binaryOp_repeat_ref (T := "list") (U := "int") (by decide) ⟨_, e, rfl⟩ (fun s' => typeIs_int s' n t') noFill_list_mul F.fills_int_mul F.slot_int_rmul repeat_list F.slot_int_index.lookup
    (call_meets F.slot_int_rmul (typeIs_int s n t') F.entry_int_rmul (F.args_int_rmul_2 _ _) (int___rmul___int_list n t' l us.toArray k)
      ⟨e, rfl, ⟨_, e, rfl⟩, call_meets F.slot_list_mul ⟨_, e, rfl⟩ F.entry_list_mul (F.args_list_mul_2 _ _)
        (AutoListH.list___mul___list_int_3 l us.toArray k n t' (by simp [Builtin.List.listFitsIndex]; omega) (by omega) (by show ¬ decide (us.toArray.size * n.toNat > sizeLine) = true; rw [sizeLine_eq, decide_eq_true_eq]; omega))
        ⟨e, ?_⟩⟩)
  rw [replicate_flat]
  exact hQ _ s.toks _ (ha.replicate n.toNat)
theorem EvO.bin {l r : Expr} {op : Operator} {pos : Pos} {a b : V} {z : List V} (sm : D.h₀.get? cStatics ≠ none) (hl : Ev c ρ l a) (hr : Ev c ρ r b) (ho : BinO D op a b (.list z)) : EvO c ρ (.BinOp l op r pos) (.list z) := by
  refine .mk fun G s E S => ?_
  refine wpAny_BinOp (hl.mono S fun u s₁ G₁ x₁ g₁ r₁ => hr.mono (S.step x₁ g₁) fun v s₂ G₂ x₂ g₂ r₂ => ?_)
  refine ho c.A G₂ s₂ _ E u v g₂ (r₁.mono x₂.le) r₂ fun us k n rs => ?_
  obtain ⟨x, g, y⟩ := (S.step (x₁.then g₁ x₂) g₂).pushOwn sm (k := k) (o := { cls := .type "list", data := .seq us.toArray n }) (a := .list z) rfl fun h e => ⟨us, rs, n, e⟩
  exact ⟨G₂, (x₁.then g₁ x₂).then g₂ x, g, y⟩
theorem Ex.own {x : Str} {np pos : Pos} {e : Expr} {a : V} (he : EvO c ρ e a) {i : Nat} {k : VK} (hx : c.names[i]? = some x) (hk : c.kinds[i]? = some k) (hne : k ≠ .ext := by decide)
    (hs : ∀ env p l, swapsWith e (some (.Name x p)) l env = pure false := by intro _ _ _; rfl) : Ex c ρ (.Assign [.Name x np] e pos) (.next (ρ.set i (some (.own a)))) := .mk fun G s E S => by
  refine wpAny_Assign_stores (wpAny_mono (he.run G s E S) (fun v s₁ p => ?_) fun _ _ e => e) (hs c.env np pos.line) rfl
  obtain ⟨G₁, x₁, g₁, y₁⟩ := p
  show wpAny D.M c.A (PySem.assign (.Name x np) c.env v) _ E s₁
  exact wpAny_assign_Name ((S.step x₁ g₁).store hx hk hne y₁ fun s' S' x' => ⟨rfl, G₁, S', (x₁.stp g₁).trans x'.stp⟩)

/-! ### reading: own or frozen alike -/
noncomputable def EvD {D : Wd} (c : Cx D) (ρ : Ro) (e : Expr) (a : V) : Prop :=
  Box (∀ G s E, St c ρ G s → wpAny D.M c.A (eval e c.env) (fun v s' => ∃ G' d, v = .ref d ∧ Ext D.tabs G s G' s' ∧ GOK D G' s' ∧ OwnR D G' s'.heap d a ∧ (∀ ks vs, a = .dict ks vs → d ≠ sysModules)) E s)
theorem OwnR.ofVR {d : Addr} {a : V} (g : GOK D G s) (r : VR D G a (.ref d)) (ha : (∃ l, a = .list l) ∨ ∃ ks vs, a = .dict ks vs) : OwnR D G s.heap d a ∧ (∀ ks vs, a = .dict ks vs → d ≠ sysModules) := by
  rcases ha with ⟨l, rfl⟩ | ⟨ks, vs, rfl⟩
  · obtain ⟨a, us, e, ⟨n, e1⟩, rs⟩ := VR.list_iff.mp r
    cases e
    exact ⟨⟨us, rs, n, g.sub _ _ e1⟩, fun _ _ q => by cases q⟩
  · obtain ⟨a, us, e, sm, el, ⟨o, es, ep, e1, r1⟩, rs⟩ := VR.dict_iff.mp r
    cases e
    exact ⟨⟨us, el, rs, o, es, ep, g.sub _ _ e1, r1⟩, fun _ _ _ => sm⟩
theorem EvD.of {e : Expr} {a : V} (he : Ev c ρ e a) (ha : (∃ l, a = .list l) ∨ ∃ ks vs, a = .dict ks vs) : EvD c ρ e a := .mk fun G s E S => he.mono S fun v s₁ G₁ x₁ g₁ r₁ => by
  have : ∃ d, v = .ref d := by
    rcases ha with ⟨l, rfl⟩ | ⟨ks, vs, rfl⟩
    · obtain ⟨a, us, e, _⟩ := VR.list_iff.mp r₁; exact ⟨a, e⟩
    · obtain ⟨a, us, e, _⟩ := VR.dict_iff.mp r₁; exact ⟨a, e⟩
  obtain ⟨d, rfl⟩ := this
  obtain ⟨q1, q2⟩ := OwnR.ofVR g₁ r₁ ha
  exact ⟨G₁, d, rfl, x₁, g₁, q1, q2⟩
theorem EvD.list {e : Expr} {l : List V} (he : Ev c ρ e (.list l)) : EvD c ρ e (.list l) := .of he (.inl ⟨l, rfl⟩)
theorem EvD.dict {e : Expr} {ks : List Int} {vs : List V} (he : Ev c ρ e (.dict ks vs)) : EvD c ρ e (.dict ks vs) := .of he (.inr ⟨ks, vs, rfl⟩)
theorem EvD.own {i : Nat} {x : Str} {pos : Pos} {a : V} (hx : c.names[i]? = some x) (hr : ρ[i]? = some (some (.own a))) (hso : Sole ρ i) : EvD c ρ (.Name x pos) a := .mk fun G s E S => by
  obtain ⟨d, k1, ⟨d', e, gd, nd, dL, dsm, ow⟩, _, _⟩ := S.own hx hr hso
  cases e
  exact k1 pos _ E ⟨G, d, rfl, Ext.refl .., S.ok, ow, fun _ _ _ => dsm⟩
theorem OwnR.ext {d : Addr} {a : V} (x : Ext D.tabs G s G' s') (g : GOK D G s) (ow : OwnR D G s.heap d a) : OwnR D G' s'.heap d a := by
  obtain ⟨o, e, nf, _⟩ := ow.data
  exact ow.step x.le fun o' e' => x.keep d o' (g.notTab e nf) e'
theorem Ev.item {e i : Expr} {pos : Pos} {l : List V} {n : Int} {a : V} (he : EvD c ρ e (.list l)) (hi : Ev c ρ i (.int n)) (h0 : 0 ≤ n) (hn : n < 2 ^ 63) (hx : l[n.toNat]? = some a)
    (hs : ∀ d k t, subscripted i false (.ref d) (.int k t) = operate [.ref d, .int k t] (getItem (.ref d) (.int k t)) := by intro _ _ _; rfl) : Ev c ρ (.Subscript e i pos) a := by
  refine .mk fun G s E S => ?_
  refine Subscript_ (wpAny_mono (he.run G s E S) (fun v s₁ p => ?_) fun _ _ e => e)
  obtain ⟨G₁, d, rfl, x₁, g₁, ow, _⟩ := p
  refine hi.mono (S.step x₁ g₁) fun k s₂ G₂ x₂ g₂ r₂ => ?_
  obtain ⟨us, rs, m, e2⟩ := ow.ext x₂ g₁
  obtain ⟨t, rfl⟩ := VR.int_iff.mp r₂
  obtain ⟨u, hu, ru⟩ := rs.get hx
  have hL : s₂.heap.IsList d us.toArray := ⟨_, e2, rfl, m, rfl⟩
  exact tail_any hL.typeIs slot_list_getitem.lookup (wpAny_getItem_list hL h0 hn (by simpa using hu) ⟨G₂, x₁.then g₁ x₂, g₂, ru⟩) (hs _ _ _)
theorem valueAt_zip : ∀ {ks : List Int} {us : List Value} {vs : List V} {k : Int}, ks.length = us.length → VRs D G vs us →
    match (ks.zip vs).find? (fun p => decide (p.1 = k)) with
    | some p => ∃ u, valueAt (ks.zip us) k = some u ∧ VR D G p.2 u
    | none => valueAt (ks.zip us) k = none
  | [], _, _, k, _, _ => by simp [valueAt]
  | x :: ks, [], _, _, h, _ => by simp at h
  | x :: ks, u :: us, [], _, _, r => by unfold VRs at r; cases r
  | x :: ks, u :: us, v :: vs, k, h, r => by
    unfold VRs at r
    obtain ⟨u', r', e, hv, hr⟩ := r
    cases e
    have ih := valueAt_zip (k := k) (by simpa using h) hr
    unfold valueAt at ih ⊢
    simp only [List.zip_cons_cons, List.find?_cons]
    by_cases q : x = k
    · simp only [q, decide_true]; exact ⟨u, by simp, hv⟩
    · simp only [q, decide_false]; exact ih
noncomputable def lookD (ks : List Int) (vs : List V) (k : Int) : Option V := ((ks.zip vs).find? fun p => decide (p.1 = k)).map (·.2)
theorem OwnR.look {d : Addr} {ks : List Int} {vs : List V} (ow : OwnR D G h d (.dict ks vs)) (k : Int) : ∃ f, h.MapOf (intKind D.prog D.w) d f ∧ match lookD ks vs k with | some a => ∃ u, f k = some u ∧ VR D G a u | none => f k = none := by
  obtain ⟨us, el, rs, dp⟩ := ow
  refine ⟨valueAt (ks.zip us), Heap.DictOf.mapOf dp, ?_⟩
  have := valueAt_zip (D := D) (G := G) (k := k) el rs
  unfold lookD
  cases e : (ks.zip vs).find? (fun p => decide (p.1 = k)) with
  | none => rw [e] at this; exact this
  | some p => rw [e] at this; exact this
theorem intKey {k : Int} {t : Tok} : (intKind D.prog D.w).is k (.int k t) = true := by simp [intKind, Value.isInt]
theorem Ev.itemD {e i : Expr} {pos : Pos} {ks : List Int} {vs : List V} {n : Int} {a : V} (he : EvD c ρ e (.dict ks vs)) (hi : Ev c ρ i (.int n)) (hx : lookD ks vs n = some a)
    (hs : ∀ d k t, subscripted i false (.ref d) (.int k t) = operate [.ref d, .int k t] (getItem (.ref d) (.int k t)) := by intro _ _ _; rfl) : Ev c ρ (.Subscript e i pos) a := by
  refine .mk fun G s E S => ?_
  refine Subscript_ (wpAny_mono (he.run G s E S) (fun v s₁ p => ?_) fun _ _ e => e)
  obtain ⟨G₁, d, rfl, x₁, g₁, ow, _⟩ := p
  refine hi.mono (S.step x₁ g₁) fun k s₂ G₂ x₂ g₂ r₂ => ?_
  obtain ⟨t, rfl⟩ := VR.int_iff.mp r₂
  obtain ⟨f, hm, hf⟩ := (ow.ext x₂ g₁).look n
  rw [hx] at hf
  obtain ⟨u, hu, ru⟩ := hf
  exact tail_any hm.typeIs F.slot_dict_getitem.lookup (wpAny_getItem_of intKey hm hu ⟨G₂, (x₁.then g₁ x₂).then g₂ (Ext.tok ..), g₂.tok _, ru⟩) (hs _ _ _)
theorem Ev.inD {e i : Expr} {pos : Pos} {ks : List Int} {vs : List V} {n : Int} (hi : Ev c ρ i (.int n)) (he : EvD c ρ e (.dict ks vs)) (hm : behindInMarks .In e = false := by with_unfolding_all rfl) : Ev c ρ (.Compare i [.In] [e] pos) (.bool (lookD ks vs n).isSome) := by
  refine .mk fun G s E S => ?_
  refine wpAny_Compare1 (hi.mono S fun v s₁ G₁ x₁ g₁ r₁ => wpAny_mono (he.run G₁ s₁ E (S.step x₁ g₁)) (fun u s₂ p => ?_) fun _ _ e => e) hm
  obtain ⟨G₂, d, rfl, x₂, g₂, ow, sm⟩ := p
  obtain ⟨t, rfl⟩ := VR.int_iff.mp r₁
  obtain ⟨f, hmm, hf⟩ := ow.look n
  refine wpAny_in_of intKey (by simpa using sm ks vs rfl) hmm ?_
  have : (f n).isSome = (lookD ks vs n).isSome := by
    cases q : lookD ks vs n with
    | none => rw [q] at hf; rw [show f n = none from hf]; rfl
    | some a => rw [q] at hf; obtain ⟨u, hu, _⟩ := hf; rw [hu]; rfl
  rw [this]
  exact ⟨G₂, (x₁.then g₁ x₂).then g₂ (Ext.tok ..), g₂.tok _, VR.bool_iff.mpr rfl⟩
theorem Tst.inD {e i : Expr} {pos : Pos} {ks : List Int} {vs : List V} {n : Int} (hi : Ev c ρ i (.int n)) (he : EvD c ρ e (.dict ks vs)) (hm : behindInMarks .In e = false := by with_unfolding_all rfl) : Tst c ρ (.Compare i [.In] [e] pos) (lookD ks vs n).isSome := by
  refine .mk fun G s E S => ?_
  refine wpAny_isTrue_Compare1 (hi.mono S fun v s₁ G₁ x₁ g₁ r₁ => wpAny_mono (he.run G₁ s₁ E (S.step x₁ g₁)) (fun u s₂ p => ?_) fun _ _ e => e) hm
  obtain ⟨G₂, d, rfl, x₂, g₂, ow, sm⟩ := p
  obtain ⟨t, rfl⟩ := VR.int_iff.mp r₁
  obtain ⟨f, hmm, hf⟩ := ow.look n
  refine wpAny_in_of intKey (by simpa using sm ks vs rfl) hmm ?_
  have : (f n).isSome = (lookD ks vs n).isSome := by
    cases q : lookD ks vs n with
    | none => rw [q] at hf; rw [show f n = none from hf]; rfl
    | some a => rw [q] at hf; obtain ⟨u, hu, _⟩ := hf; rw [hu]; rfl
  rw [this]
  exact wpAny_truthy_bool ⟨G₂, (x₁.then g₁ x₂).then g₂ (Ext.tok ..), g₂.tok _, rfl⟩
end
end Mine
/-! PI14 -/
namespace Mine
section
variable {D : Wd} {c : Cx D} {A : Around} {ρ ρ' ρ'' ρ0 ρ1 : Ro} {G G' Ga G₁ G₂ G₃ : PO} {s s' sa s₁ s₂ s₃ : Shared} {h h' : Heap} {o : Out}

/-! ### comparisons of whole data -/
theorem readsInts (g : GOK D G s) : ∀ {ns : List Int} {us : List Value}, VRs D G (ns.map V.int) us → ∃ as, ReadsAll s.heap us (ns.map PyData.int) as
  | [], us, r => by unfold VRs at r; subst r; exact ⟨_, .nil⟩
  | n :: ns, us, r => by
    unfold VRs at r
    obtain ⟨u, r', rfl, hu, hr⟩ := r
    obtain ⟨t, rfl⟩ := VR.int_iff.mp hu
    obtain ⟨as, h⟩ := readsInts g hr
    exact ⟨_, .cons (.int n t) h⟩
theorem readsList (g : GOK D G s) {ns : List Int} {v : Value} (r : VR D G (.list (ns.map V.int)) v) : ∃ as, Reads s.heap v (.list (ns.map PyData.int)) as := by
  obtain ⟨a, us, rfl, ⟨n, e⟩, rs⟩ := VR.list_iff.mp r
  obtain ⟨as, h⟩ := readsInts g rs
  exact ⟨_, .list (g.sub _ _ e) rfl rfl (by simpa using h)⟩
theorem readsTup (g : GOK D G s) {ns : List Int} {v : Value} (r : VR D G (.tup (ns.map V.int)) v) : ∃ as, Reads s.heap v (.tuple (ns.map PyData.int)) as := by
  obtain ⟨a, us, rfl, ⟨n, e⟩, rs⟩ := VR.tup_iff.mp r
  obtain ⟨as, h⟩ := readsInts g rs
  exact ⟨_, .tuple (g.sub _ _ e) rfl rfl (by simpa using h)⟩
noncomputable def LL (nss : List (List Int)) : List V := nss.map fun ns => .list (ns.map V.int)
noncomputable def PL (nss : List (List Int)) : List PyData := nss.map fun ns => .list (ns.map PyData.int)
theorem readsLists (g : GOK D G s) : ∀ {nss : List (List Int)} {us : List Value}, VRs D G (LL nss) us → ∃ as, ReadsAll s.heap us (PL nss) as
  | [], us, r => by unfold LL VRs at r; subst r; exact ⟨_, .nil⟩
  | n :: ns, us, r => by
    unfold LL at r
    rw [List.map_cons] at r
    unfold VRs at r
    obtain ⟨u, r', rfl, hu, hr⟩ := r
    obtain ⟨as, h⟩ := readsList g hu
    obtain ⟨bs, h'⟩ := readsLists g (nss := ns) hr
    exact ⟨_, .cons h h'⟩
theorem readsLL (g : GOK D G s) {nss : List (List Int)} {v : Value} (r : VR D G (.list (LL nss)) v) : ∃ as, Reads s.heap v (.list (PL nss)) as := by
  obtain ⟨a, us, rfl, ⟨n, e⟩, rs⟩ := VR.list_iff.mp r
  obtain ⟨as, h⟩ := readsLists g rs
  exact ⟨_, .list (g.sub _ _ e) rfl rfl (by simpa using h)⟩
theorem canInts (ns : List Int) : PyData.canLayAll0 (ns.map PyData.int) = true := by
  induction ns with
  | nil => rfl
  | cons n ns ih => simp [PyData.canLayAll0, PyData.canLay0, ih]
theorem canPL (nss : List (List Int)) : PyData.canLayAll0 (PL nss) = true := by
  unfold PL
  induction nss with
  | nil => rfl
  | cons n ns ih => simp [PyData.canLayAll0, PyData.canLay0, ih, canInts]
theorem depthInts (ns : List Int) : PyData.depthAll (ns.map PyData.int) = 0 := by
  induction ns with
  | nil => rfl
  | cons n ns ih => simp [PyData.depthAll, PyData.depth, ih]
theorem depthPL (nss : List (List Int)) : PyData.depthAll (PL nss) ≤ 1 := by
  unfold PL
  induction nss with
  | nil => simp [PyData.depthAll]
  | cons n ns ih => simp only [List.map_cons, PyData.depthAll, PyData.depth, depthInts]; omega
theorem eqvInts : ∀ (ns ms : List Int), PyData.eqvAll (ns.map PyData.int) (ms.map PyData.int) = (ns == ms)
  | [], [] => rfl
  | [], _ :: _ => rfl
  | _ :: _, [] => rfl
  | n :: ns, m :: ms => by simp only [List.map_cons, PyData.eqvAll, PyData.eqv, eqvInts ns ms]; rfl
theorem eqvPL : ∀ (ns ms : List (List Int)), PyData.eqvAll (PL ns) (PL ms) = (ns == ms)
  | [], [] => rfl
  | [], _ :: _ => rfl
  | _ :: _, [] => rfl
  | n :: ns, m :: ms => by
    have ih := eqvPL ns ms
    unfold PL at ih ⊢
    simp only [List.map_cons, PyData.eqvAll, PyData.eqv, eqvInts, ih]; rfl
theorem CmpR.eqInts {ns ms : List Int} (hu : A.units + 10 < cLine) : CmpR D A .Eq (.list (ns.map V.int)) (.list (ms.map V.int)) (ns == ms) := fun G s E u v g hu1 hv1 => by
  obtain ⟨as, r1⟩ := readsList g hu1
  obtain ⟨bs, r2⟩ := readsList g hv1
  refine SeqAt.compareEq_reads r1 r2 (canInts _) (canInts _) (by simp only [PyData.depth, depthInts]; omega) ?_
  simp only [PyData.eqv, eqvInts]
  exact .bool g
theorem CmpR.neInts {ns ms : List Int} (hu : A.units + 10 < cLine) : CmpR D A .NotEq (.list (ns.map V.int)) (.list (ms.map V.int)) (!(ns == ms)) := fun G s E u v g hu1 hv1 => by
  obtain ⟨as, r1⟩ := readsList g hu1
  obtain ⟨bs, r2⟩ := readsList g hv1
  refine SeqAt.compareNe_reads r1 r2 (canInts _) (canInts _) (by simp only [PyData.depth, depthInts]; omega) ?_
  simp only [PyData.eqv, eqvInts]
  exact .bool g
theorem CmpR.neTup {ns ms : List Int} (hu : A.units + 10 < cLine) : CmpR D A .NotEq (.tup (ns.map V.int)) (.tup (ms.map V.int)) (!(ns == ms)) := fun G s E u v g hu1 hv1 => by
  obtain ⟨as, r1⟩ := readsTup g hu1
  obtain ⟨bs, r2⟩ := readsTup g hv1
  refine SeqAt.compareNe_reads r1 r2 (canInts _) (canInts _) (by simp only [PyData.depth, depthInts]; omega) ?_
  simp only [PyData.eqv, eqvInts]
  exact .bool g
theorem CmpR.neLL {ns ms : List (List Int)} (hu : A.units + 10 < cLine) : CmpR D A .NotEq (.list (LL ns)) (.list (LL ms)) (!(ns == ms)) := fun G s E u v g hu1 hv1 => by
  obtain ⟨as, r1⟩ := readsLL g hu1
  obtain ⟨bs, r2⟩ := readsLL g hv1
  have h1 := depthPL ns
  have h2 := depthPL ms
  refine SeqAt.compareNe_reads r1 r2 (canPL _) (canPL _) (by simp only [PyData.depth]; omega) ?_
  simp only [PyData.eqv, eqvPL]
  exact .bool g
theorem anyEq (ms : List Int) (n : Int) : (ms.any fun x => x == n) = ms.contains n := by
  induction ms with
  | nil => rfl
  | cons m ms ih => rw [List.any_cons, ih, List.contains_cons, Bool.beq_comm]
theorem CmpR.notIn {n : Int} {ms : List Int} : CmpR D A .NotIn (.int n) (.list (ms.map V.int)) (!ms.contains n) := fun G s E u v g hu1 hv1 => by
  obtain ⟨t, rfl⟩ := VR.int_iff.mp hu1
  obtain ⟨a, us, rfl, ⟨k, e⟩, rs⟩ := VR.list_iff.mp hv1
  refine PyProof.Rows.notin_list_ints (vs := us) ⟨_, g.sub _ _ e, rfl, k, rfl⟩ rs.ints ?_
  rw [anyEq]
  exact .bool g
theorem CmpR.in {n : Int} {ms : List Int} : CmpR D A .In (.int n) (.list (ms.map V.int)) (ms.contains n) := fun G s E u v g hu1 hv1 => by
  obtain ⟨t, rfl⟩ := VR.int_iff.mp hu1
  obtain ⟨a, us, rfl, ⟨k, e⟩, rs⟩ := VR.list_iff.mp hv1
  refine PyProof.Rows.in_list_ints (vs := us) ⟨_, g.sub _ _ e, rfl, k, rfl⟩ rs.ints ?_
  rw [anyEq]
  exact .bool g

/-! ### own lists and dicts: length, writing -/
theorem Ev.lenD {x : Str} {np pos : Pos} {e : Expr} {l : List V} (hn : Glo c ρ (.Name x np) (.builtin "len")) (he : EvD c ρ e (.list l)) (hs : l.length < 2 ^ 40)
    (hst : ∀ env, starEach [e] env = [(false, eval e env)] := by intro _; rfl) : Ev c ρ (.Call (.Name x np) [e] [] pos) (.int l.length) := by
  refine .mk fun G s E S => ?_
  refine wpAny_Call_NameR (hn G s _ E S ?_)
  refine callWith_of (P := fun h => ∀ b o, D.h₀.get? b = some o → h.get? b = some o) (by rw [hst]; rfl) Kpr.builtin ?_
  rw [hst]
  refine evalArgs_plain (Q := fun vs s' => _) ?_
  show wpAny D.M c.A (spliced [(false, eval e c.env)]) _ E s
  unfold spliced
  refine wpAny_bind (wpAny_mono (he.run G s E S) (fun v s₁ p => ?_) fun _ _ e => e)
  obtain ⟨G₁, d, rfl, x₁, g₁, ow, _⟩ := p
  refine wpAny_bind (wpAny_pure (wpAny_bind (wpAny_holding (wpAny_pure (wpAny_pure ⟨g₁.base', ?_⟩)))))
  obtain ⟨us, rs, n, e⟩ := ow
  refine call_len_list (items := us.toArray) ⟨_, e, rfl, n, rfl⟩ (by simp [← rs.length]; omega) ?_
  rw [List.size_toArray, ← rs.length]
  exact ⟨G₁, x₁.then g₁ (Ext.tok ..), g₁.tok _, VR.int_iff.mpr ⟨_, rfl⟩⟩

theorem own_mcall {i : Nat} {x : Str} {np apos pos : Pos} {name : Str} {es : List Expr} {e : Expr} {T id : String} {a : V} {l : List V} {Q : Value → Shared → Prop} {E} (S : St c ρ G s) (hx : c.names[i]? = some x) (hr : ρ[i]? = some (some (.own a))) (hso : Sole ρ i)
    (hT : ∀ G h d, OwnR D G h d a → ∃ o, h.get? d = some o ∧ o.cls = .type T ∧ o.dict = none)
    (hfew : ∀ env, ((backTo pos (starEach (e :: es) env)).all (fun x => !x.1) && (backToKw pos (keywordEach [] env)).all (fun x => x.1.isSome)
      && decide ((e :: es).length + ([] : List Keyword).length + (if ([] : List Keyword).isEmpty then 0 else 1) < 30)) = true) (hline : (apos.endLine == pos.line) = true)
    (pa : PlainAttrs T) (slot : PySem.Slot T name id) (hty : typeOf (.builtin id) = pure (.type "method_descriptor")) (hl : EvL c ρ (e :: es) l)
    (hp : ∀ env, (backTo pos (starEach (e :: es) env)).any (·.1) = false)
    (hbase : ∀ env, attributeBase (.Name x np) name env (eval (.Name x np) env) = eval (.Name x np) env)
    (hQ : ∀ d vs s₁ G₁, Ext D.tabs G s G₁ s₁ → GOK D G₁ s₁ → VRs D G₁ l vs → OwnR D G₁ s₁.heap d a → d ≠ sysModules →
      (∀ h' k a', Heap.SameBut d s₁.heap h' → OwnR D G₁ h' d a' → St c (ρ.set i (some (.own a'))) G₁ { s₁ with heap := h', toks := k } ∧ Stp D G s G₁ { s₁ with heap := h', toks := k }) → wpAny D.M c.A (call (.builtin id) (.ref d :: vs)) Q E s₁) :
    wpAny D.M c.A (eval (.Call (.Attribute (.Name x np) name apos) (e :: es) [] pos) c.env) Q E s := by
  obtain ⟨d, k1, ⟨d', e', gd, nd, dL, dsm, ow⟩, k3, _⟩ := S.own hx hr hso
  cases e'
  obtain ⟨o, eo, co, od⟩ := hT _ _ _ ow
  refine wpAny_Call_method (hbase _) (hfew _) hline pa slot hty (k1 np _ E ⟨⟨o, eo, co⟩, fun a ea => ?_, ?_⟩)
  · cases ea; exact ⟨o, eo, od⟩
  · exact callWith_gen S Kpr.builtin hl (fun vs s₁ G₁ x₁ g₁ r₁ => hQ d vs s₁ G₁ x₁ g₁ r₁ (ow.ext x₁ S.ok) dsm (k3 s₁ G₁ x₁ g₁)) hp
theorem own_list_T {l : List V} : ∀ (G : PO) (h : Heap) d, OwnR D G h d (.list l) → ∃ o, h.get? d = some o ∧ o.cls = .type "list" ∧ o.dict = none := fun G h d ⟨us, _, n, e⟩ => ⟨_, e, rfl, rfl⟩
theorem own_dict_T {ks : List Int} {vs : List V} : ∀ (G : PO) (h : Heap) d, OwnR D G h d (.dict ks vs) → ∃ o, h.get? d = some o ∧ o.cls = .type "dict" ∧ o.dict = none := fun G h d ⟨us, _, _, o, es, ep, e, ex, _⟩ => ⟨o, e, ex.1, ex.2.1⟩

theorem Ex.append {i : Nat} {x : Str} {np apos pos spos : Pos} {e : Expr} {l : List V} {a : V} (hx : c.names[i]? = some x) (hr : ρ[i]? = some (some (.own (.list l)))) (hso : Sole ρ i) (he : EvL c ρ [e] [a]) (hl : l.length ≤ 10000)
    (hline : (apos.endLine == pos.line) = true) (hi : interactive c.env = false)
    (hfew : ∀ env, ((backTo pos (starEach [e] env)).all (fun x => !x.1) && (backToKw pos (keywordEach [] env)).all (fun x => x.1.isSome)
      && decide ([e].length + ([] : List Keyword).length + (if ([] : List Keyword).isEmpty then 0 else 1) < 30)) = true := by intro _; rfl)
    (hp : ∀ env, (backTo pos (starEach [e] env)).any (·.1) = false := by intro _; rfl) :
    Ex c ρ (.Expr (.Call (.Attribute (.Name x np) "append" apos) [e] [] pos) spos) (.next (ρ.set i (some (.own (.list (l ++ [a])))))) := .mk fun G s E S => by
  refine wpAny_Expr_any (own_mcall S hx hr hso own_list_T hfew hline F.plainAttrs_list slot_list_append type_list_append he hp (fun _ => rfl) fun d vs s₁ G₁ x₁ g₁ r₁ ow dsm k => ?_) hi rfl
  obtain ⟨v, rfl, rv⟩ := r₁.one
  obtain ⟨us, rs, n, e⟩ := ow
  refine wpAny_list_append_plain (items := us.toArray) ⟨n, e⟩ (fun h' hl' hs => ?_) (by rw [List.size_toArray, ← rs.length, sizeLine_eq]; omega)
  obtain ⟨k', e'⟩ := hl'
  obtain ⟨q1, q2⟩ := k h' s₁.toks (.list (l ++ [a])) hs ⟨us ++ [v], rs.append (VRs.cons rv VRs.nil), k', by rw [e']; simp⟩
  exact ⟨rfl, G₁, q1, q2⟩
theorem insList (us : List Value) (k : Nat) (hk : k ≤ us.length) (y : Value) : ((us.toArray.extract 0 k).push y ++ us.toArray.extract k) = (us.take k ++ y :: us.drop k).toArray := by
  apply Array.ext'
  simp
  rw [List.take_of_length_le (by simp)]
theorem Ex.insert {i : Nat} {x : Str} {np apos pos spos : Pos} {e1 e2 : Expr} {l : List V} {n : Int} {a : V} (hx : c.names[i]? = some x) (hr : ρ[i]? = some (some (.own (.list l)))) (hso : Sole ρ i) (he : EvL c ρ [e1, e2] [.int n, a]) (hl : l.length ≤ 10000) (h0 : 0 ≤ n) (h1 : n ≤ l.length)
    (hline : (apos.endLine == pos.line) = true) (hi : interactive c.env = false)
    (hfew : ∀ env, ((backTo pos (starEach [e1, e2] env)).all (fun x => !x.1) && (backToKw pos (keywordEach [] env)).all (fun x => x.1.isSome)
      && decide ([e1, e2].length + ([] : List Keyword).length + (if ([] : List Keyword).isEmpty then 0 else 1) < 30)) = true := by intro _; rfl)
    (hp : ∀ env, (backTo pos (starEach [e1, e2] env)).any (·.1) = false := by intro _; rfl) :
    Ex c ρ (.Expr (.Call (.Attribute (.Name x np) "insert" apos) [e1, e2] [] pos) spos) (.next (ρ.set i (some (.own (.list (l.take n.toNat ++ a :: l.drop n.toNat)))))) := .mk fun G s E S => by
  refine wpAny_Expr_any (own_mcall S hx hr hso own_list_T hfew hline F.plainAttrs_list F.slot_list_insert F.type_list_insert he hp (fun _ => rfl) fun d vs s₁ G₁ x₁ g₁ r₁ ow dsm k => ?_) hi rfl
  obtain ⟨v, w, rfl, rv, rw'⟩ := r₁.two
  obtain ⟨t, rfl⟩ := VR.int_iff.mp rv
  obtain ⟨us, rs, m, e⟩ := ow
  have hlen := rs.length
  refine call_meets PySem.F.slot_list_insert ⟨_, e, rfl⟩ PySem.F.entry_list_insert (PySem.F.args_list_insert_3 _ _ _) (PySem.AutoSeq1.list_insert_list_int_val_1 d us.toArray m n t w (by simp [Builtin.List.listFitsIndex]; omega) (by rw [List.size_toArray, ← hlen, sizeLine_eq]; omega)) ⟨e, ?_⟩
  have hu := IsL.update (h := s₁.heap) (l := d) (items := us.toArray) (n := m) e (fun xs : Array Value => have k := if n < 0 then (n + (xs.size : Int)).toNat else min n.toNat xs.size; (xs.extract 0 k).push w ++ xs.extract k)
  have hk : (if n < 0 then (n + (us.toArray.size : Int)).toNat else min n.toNat us.toArray.size) = n.toNat := by rw [if_neg (by omega), List.size_toArray]; omega
  obtain ⟨q1, q2⟩ := k _ s₁.toks (.list (l.take n.toNat ++ a :: l.drop n.toNat)) (Heap.SameBut.update ..) ⟨us.take n.toNat ++ w :: us.drop n.toNat, (rs.take _).append (VRs.cons rw' (rs.drop _)), _, by
    have := hu
    unfold IsL at this
    rw [this]
    simp only []
    rw [hk, insList us n.toNat (by omega) w]⟩
  exact ⟨rfl, G₁, q1, q2⟩
end
end Mine
/-! PI15 -/
namespace Mine
section
variable {D : Wd} {c : Cx D} {A : Around} {ρ ρ' ρ'' ρ0 ρ1 : Ro} {G G' Ga G₁ G₂ G₃ : PO} {s s' sa s₁ s₂ s₃ : Shared} {h h' : Heap} {o : Out}

/-! ### methods of borne values -/
noncomputable def HasT (D : Wd) (a : V) (T : String) : Prop := ∀ G (s : Shared) v, GOK D G s → VR D G a v → s.TypeIs v T ∧ ∀ b, v = .ref b → ∃ ob, s.heap.get? b = some ob ∧ ob.dict = none
theorem HasT.list {l : List V} : HasT D (.list l) "list" := fun G s v g r => by
  obtain ⟨a, us, rfl, ⟨n, e⟩, _⟩ := VR.list_iff.mp r
  exact ⟨⟨_, g.sub _ _ e, rfl⟩, fun b q => by cases q; exact ⟨_, g.sub _ _ e, rfl⟩⟩
theorem HasT.str {x : Str} : HasT D (.str x) "str" := fun G s v g r => by
  obtain ⟨t, rfl⟩ := VR.str_iff.mp r
  exact ⟨typeIs_str s x t, fun b q => by cases q⟩
theorem HasT.int {x : Int} : HasT D (.int x) "int" := fun G s v g r => by
  obtain ⟨t, rfl⟩ := VR.int_iff.mp r
  exact ⟨typeIs_int s x t, fun b q => by cases q⟩
theorem HasT.dict {ks : List Int} {l : List V} : HasT D (.dict ks l) "dict" := fun G s v g r => by
  obtain ⟨a, us, rfl, _, _, ⟨ob, es, ep, e, x, _⟩, _⟩ := VR.dict_iff.mp r
  exact ⟨⟨_, g.sub _ _ e, x.1⟩, fun b q => by cases q; exact ⟨_, g.sub _ _ e, x.2.1⟩⟩
theorem mcall1 {ob : Expr} {apos pos : Pos} {name : Str} {es : List Expr} {e : Expr} {T id : String} {a : V} {l : List V} {Q : Value → Shared → Prop} {E} (S : St c ρ G s) (ho : Ev c ρ ob a) (hT : HasT D a T)
    (pa : PlainAttrs T) (slot : PySem.Slot T name id) (hty : typeOf (.builtin id) = pure (.type "method_descriptor")) (hl : EvL c ρ (e :: es) l) (hline : (apos.endLine == pos.line) = true)
    (hbase : ∀ env, attributeBase ob name env (eval ob env) = eval ob env)
    (hfew : ∀ env, ((backTo pos (starEach (e :: es) env)).all (fun x => !x.1) && (backToKw pos (keywordEach [] env)).all (fun x => x.1.isSome)
      && decide ((e :: es).length + ([] : List Keyword).length + (if ([] : List Keyword).isEmpty then 0 else 1) < 30)) = true)
    (hp : ∀ env, (backTo pos (starEach (e :: es) env)).any (·.1) = false)
    (hQ : ∀ v vs s₁ G₁, Ext D.tabs G s G₁ s₁ → GOK D G₁ s₁ → VR D G₁ a v → VRs D G₁ l vs → wpAny D.M c.A (call (.builtin id) (v :: vs)) Q E s₁) :
    wpAny D.M c.A (eval (.Call (.Attribute ob name apos) (e :: es) [] pos) c.env) Q E s := by
  refine wpAny_Call_method (hbase _) (hfew _) hline pa slot hty (ho.mono S fun v s₁ G₁ x₁ g₁ r₁ => ?_)
  obtain ⟨t1, t2⟩ := hT G₁ s₁ v g₁ r₁
  exact ⟨t1, t2, callWith_gen (S.step x₁ g₁) Kpr.builtin hl (fun vs s₂ G₂ x₂ g₂ r₂ => hQ v vs s₂ G₂ (x₁.then g₁ x₂) g₂ (r₁.mono x₂.le) r₂) hp⟩
theorem mcall0 {ob : Expr} {apos pos : Pos} {name : Str} {T id : String} {a : V} {Q : Value → Shared → Prop} {E} (S : St c ρ G s) (ho : Ev c ρ ob a) (hT : HasT D a T)
    (pa : PlainAttrs T) (slot : PySem.Slot T name id) (hty : typeOf (.builtin id) = pure (.type "method_descriptor")) (hline : (apos.endLine == pos.line) = true)
    (hbase : ∀ env, attributeBase ob name env (eval ob env) = eval ob env)
    (hQ : ∀ v s₁ G₁, Ext D.tabs G s G₁ s₁ → GOK D G₁ s₁ → VR D G₁ a v → wpAny D.M c.A (call (.builtin id) [v]) Q E s₁) :
    wpAny D.M c.A (eval (.Call (.Attribute ob name apos) [] [] pos) c.env) Q E s := by
  refine wpAny_Call_method (hbase _) rfl hline pa slot hty (ho.mono S fun v s₁ G₁ x₁ g₁ r₁ => ?_)
  obtain ⟨t1, t2⟩ := hT G₁ s₁ v g₁ r₁
  exact ⟨t1, t2, callWith_nil g₁ Kpr.builtin (hQ v s₁ G₁ x₁ g₁ r₁)⟩
theorem VRs.strs : ∀ {ns : List Str} {us : List Value}, VRs D G (ns.map V.str) us → StrsAre us ns
  | [], us, x => by unfold VRs at x; subst x; exact .nil
  | n :: ns, us, x => by
    unfold VRs at x
    obtain ⟨u, r, rfl, a, z⟩ := x
    obtain ⟨t, rfl⟩ := VR.str_iff.mp a
    exact .cons n t (VRs.strs z)
theorem Ev.join {ob e : Expr} {apos pos : Pos} {x : Str} {ys : List Str} (ho : Ev c ρ ob (.str x)) (hl : EvL c ρ [e] [.list (ys.map V.str)]) (hline : (apos.endLine == pos.line) = true) (hok : (ys.map (·.length)).sum + ys.length * x.length ≤ 16777216)
    (hbase : ∀ env, attributeBase ob "join" env (eval ob env) = eval ob env := by intro _; rfl)
    (hfew : ∀ env, ((backTo pos (starEach [e] env)).all (fun x => !x.1) && (backToKw pos (keywordEach [] env)).all (fun x => x.1.isSome)
      && decide ([e].length + ([] : List Keyword).length + (if ([] : List Keyword).isEmpty then 0 else 1) < 30)) = true := by intro _; rfl)
    (hp : ∀ env, (backTo pos (starEach [e] env)).any (·.1) = false := by intro _; rfl) : Ev c ρ (.Call (.Attribute ob "join" apos) [e] [] pos) (.str (Txt.join x ys)) := .mk fun G s E S => by
  refine mcall1 S ho HasT.str F.plainAttrs_str F.slot_str_join F.type_str_join hl hline hbase hfew hp fun v vs s₁ G₁ x₁ g₁ r₁ r₂ => ?_
  obtain ⟨t, rfl⟩ := VR.str_iff.mp r₁
  obtain ⟨w, rfl, rw'⟩ := r₂.one
  obtain ⟨a, us, rfl, ⟨n, e⟩, rs⟩ := VR.list_iff.mp rw'
  refine join_list (items := us.toArray) ⟨_, g₁.sub _ _ e, rfl, n, rfl⟩ (by simpa using rs.strs) hok fun t' k => ?_
  exact (Post.tokS g₁).after x₁ g₁
theorem Ev.count {ob e : Expr} {apos pos : Pos} {n : Int} {ns : List Int} (ho : Ev c ρ ob (.list (ns.map V.int))) (hl : EvL c ρ [e] [.int n]) (hline : (apos.endLine == pos.line) = true)
    (hbase : ∀ env, attributeBase ob "count" env (eval ob env) = eval ob env := by intro _; rfl)
    (hfew : ∀ env, ((backTo pos (starEach [e] env)).all (fun x => !x.1) && (backToKw pos (keywordEach [] env)).all (fun x => x.1.isSome)
      && decide ([e].length + ([] : List Keyword).length + (if ([] : List Keyword).isEmpty then 0 else 1) < 30)) = true := by intro _; rfl)
    (hp : ∀ env, (backTo pos (starEach [e] env)).any (·.1) = false := by intro _; rfl) : Ev c ρ (.Call (.Attribute ob "count" apos) [e] [] pos) (.int (ns.countP (· == n) : Nat)) := .mk fun G s E S => by
  refine mcall1 S ho HasT.list F.plainAttrs_list F.slot_list_count F.type_list_count hl hline hbase hfew hp fun v vs s₁ G₁ x₁ g₁ r₁ r₂ => ?_
  obtain ⟨w, rfl, rw'⟩ := r₂.one
  obtain ⟨t, rfl⟩ := VR.int_iff.mp rw'
  obtain ⟨a, us, rfl, ⟨m, e⟩, rs⟩ := VR.list_iff.mp r₁
  have hi := rs.ints
  have key : ∀ {us : List Value} {ns : List Int}, IntsAre us ns → us.countP (fun y => match y with | .int m _ => m == n | _ => false) = ns.countP (· == n) ∧ ∀ y ∈ us, ∃ m u, y = .int m u := by
    intro us ns h
    induction h with
    | nil => exact ⟨rfl, fun _ h => (by cases h)⟩
    | cons k u h ih => exact ⟨by simp only [List.countP_cons, ih.1], fun y hy => by
        rcases List.mem_cons.mp hy with rfl | hy
        · exact ⟨k, u, rfl⟩
        · exact ih.2 y hy⟩
  obtain ⟨k1, k2⟩ := key hi
  refine call_meets PySem.F.slot_list_count ⟨_, g₁.sub _ _ e, rfl⟩ PySem.F.entry_list_count (PySem.F.args_list_count_2 _ _) (SeqAt.list_countAt a us.toArray m none #[] (.int n t) fun y => match y with | .int m _ => m == n | _ => false)
    ⟨g₁.sub _ _ e, fun y hy => ?_, ?_⟩
  · obtain ⟨q, u, rfl⟩ := k2 y (by simpa using hy)
    exact SeqAt.EqAt.int_int q u n t
  · simp only [k1]
    exact (Post.tokI g₁).after x₁ g₁
theorem Ev.bitLength {ob : Expr} {apos pos : Pos} {n : Int} (ho : Ev c ρ ob (.int n)) (hline : (apos.endLine == pos.line) = true)
    (hbase : ∀ env, attributeBase ob "bit_length" env (eval ob env) = eval ob env := by intro _; rfl) : Ev c ρ (.Call (.Attribute ob "bit_length" apos) [] [] pos) (.int (Builtin.Int.intBits n)) := .mk fun G s E S => by
  refine mcall0 S ho HasT.int F.plainAttrs_int F.slot_int_bit_length F.type_int_bit_length hline hbase fun v s₁ G₁ x₁ g₁ r₁ => ?_
  obtain ⟨t, rfl⟩ := VR.int_iff.mp r₁
  exact call_int_bit_length ((Post.tokI g₁).after x₁ g₁)
theorem Ev.getOwn {i : Nat} {x : Str} {np apos pos : Pos} {e1 e2 : Expr} {ks : List Int} {vs : List V} {k : Int} {a : V} (hx : c.names[i]? = some x) (hr : ρ[i]? = some (some (.own (.dict ks vs)))) (hso : Sole ρ i) (he : EvL c ρ [e1, e2] [.int k, a])
    (hline : (apos.endLine == pos.line) = true)
    (hfew : ∀ env, ((backTo pos (starEach [e1, e2] env)).all (fun x => !x.1) && (backToKw pos (keywordEach [] env)).all (fun x => x.1.isSome)
      && decide ([e1, e2].length + ([] : List Keyword).length + (if ([] : List Keyword).isEmpty then 0 else 1) < 30)) = true := by intro _; rfl)
    (hp : ∀ env, (backTo pos (starEach [e1, e2] env)).any (·.1) = false := by intro _; rfl) :
    Ev c ρ (.Call (.Attribute (.Name x np) "get" apos) [e1, e2] [] pos) ((lookD ks vs k).getD a) := .mk fun G s E S => by
  refine own_mcall S hx hr hso own_dict_T hfew hline F.plainAttrs_dict F.slot_dict_get F.type_dict_get he hp (fun _ => rfl) fun d us s₁ G₁ x₁ g₁ r₁ ow dsm k' => ?_
  obtain ⟨v, w, rfl, rv, rw'⟩ := r₁.two
  obtain ⟨t, rfl⟩ := VR.int_iff.mp rv
  obtain ⟨f, hm, hf⟩ := ow.look k
  refine call_meetsIn F.slot_dict_get hm.typeIs F.entry_dict_get (F.args_dict_get_3 _ _ _) (meets_dict_get_default (intKind D.prog D.w) d intKey (by simpa using dsm) w) ⟨f, hm, ?_⟩
  refine ⟨G₁, x₁.then g₁ (Ext.tok ..), g₁.tok _, ?_⟩
  cases q : lookD ks vs k with
  | none => rw [q] at hf; rw [show f k = none from hf]; exact rw'
  | some b => rw [q] at hf; obtain ⟨u, hu, ru⟩ := hf; rw [hu]; exact ru

/-! ### iteration over dicts, backwards -/
theorem VRs.getI : ∀ {l : List V} {us : List Value} {i : Nat} {u : Value}, VRs D G l us → us[i]? = some u → ∃ a, l[i]? = some a ∧ VR D G a u
  | [], us, i, u, h, e => by unfold VRs at h; subst h; simp at e
  | x :: l, us, i, u, h, e => by
    unfold VRs at h
    obtain ⟨w, r, rfl, y, z⟩ := h
    cases i with
    | zero => simp at e; subst e; exact ⟨x, by simp, y⟩
    | succ i => simp at e; obtain ⟨a, e', y'⟩ := VRs.getI z e; exact ⟨a, by simpa using e', y'⟩
theorem ItE.values {ob tgt : Expr} {apos pos : Pos} {ks : List Int} {l : List V} (ho : Ev c ρ ob (.dict ks l)) (hline : (apos.endLine == pos.line) = true)
    (hbase : ∀ env, attributeBase ob "values" env (eval ob env) = eval ob env := by intro _; rfl) : ItE c ρ tgt (.Call (.Attribute ob "values" apos) [] [] pos) l := .mk fun G s E S => by
  refine mcall0 S ho HasT.dict F.plainAttrs_dict F.slot_dict_values F.type_dict_values hline hbase fun v s₁ G₁ x₁ g₁ r₁ => ?_
  obtain ⟨d, us, rfl, dsm, el, ⟨od, es, ep, ed, ex, edat, ek, epr, en⟩, rs⟩ := VR.dict_iff.mp r₁
  have hd : s₁.heap.DictAt (intKind D.prog D.w) d (ks.zip us) ep := ⟨od, es, g₁.sub _ _ ed, ex, edat, ek, epr, en⟩
  refine call_meetsIn F.slot_dict_values hd.dictOf.typeIs F.entry_dict_values (F.args_dict_values_1 _) (meets_dict_values (intKind D.prog D.w) d (by simpa using dsm)) ⟨⟨_, hd.dictOf⟩, ?_⟩
  obtain ⟨g₂, x₂, n1, n2, n3⟩ := g₁.push_away (o := { cls := .type "dict_values", data := .fields #[.ref d] }) (k := s₁.toks)
  refine wpAny_pyIter_values (knd := intKind D.prog D.w) (d := d) (kvs := ks.zip us) (ep := ep) ⟨_, Heap.get?_push_size _ rfl, rfl, rfl⟩ ⟨od, es, Heap.get?_push_of_some _ (g₁.sub _ _ ed), ex, edat, ek, epr, en⟩ ?_
  have zl : (ks.zip us).length = l.length := by rw [List.length_zip, el, Nat.min_self, rs.length]
  have p : ItAt D c.A tgt G₁ { s₁ with heap := s₁.heap.push { cls := .type "dict_values", data := .fields #[.ref d] } } l (.ref (s₁.heap.push { cls := .type "dict_values", data := .fields #[.ref d] }).objs.size)
      { s₁ with heap := (s₁.heap.push { cls := .type "dict_values", data := .fields #[.ref d] }).push { cls := .type "dict_valueiterator", data := .fields #[.ref d, .int 0 0, .int (ks.zip us).length 0, .int ep 0] } } := by
    obtain ⟨g₃, x₃, m1, m2, m3⟩ := g₂.push_away (o := { cls := .type "dict_valueiterator", data := .fields #[.ref d, .int 0 0, .int (ks.zip us).length 0, .int ep 0] }) (k := s₁.toks)
    have hne : d ≠ (s₁.heap.push { cls := .type "dict_values", data := .fields #[.ref d] }).objs.size := by rw [Heap.size_push]; exact Nat.ne_of_lt (Nat.lt_succ_of_lt (Heap.lt_size (g₁.sub _ _ ed)))
    have W := Walks.dictValues (prog := D.prog) (w := D.w) (A := c.A) (knd := intKind D.prog D.w) S.wf.hand (s₁.heap.push { cls := .type "dict_values", data := .fields #[.ref d] }).objs.size d hne (ks.zip us) ep
    have W' := W
    rw [zl] at W'
    refine ⟨G₁, _, _, rfl, x₃, g₃, m2, m1, m3, Wk.ofWalks (G := G₁) W' m3 (fun i v x hv hx => ?_) (fun b hb hbI => ?_) (fun i h st => ?_), ⟨?_, fun _ _ e => e, g₃.sub⟩⟩
    · obtain ⟨k, hk⟩ := hv
      obtain ⟨u, hu, ru⟩ := rs.get hx
      have : us[i]? = some v := by rw [List.getElem?_zip_eq_some] at hk; exact hk.2
      rw [hu] at this; cases this; exact ru
    · rcases List.mem_cons.mp hb with q | q
      · exact absurd q hbI
      · rw [List.mem_singleton.mp q, ed]; simp
    · obtain ⟨o', ho', hc', hd'⟩ := st.1
      exact ⟨o', _, _, ho', hc', by decide, hd'⟩
    · refine ⟨⟨_, Heap.get?_push_size _ rfl, rfl, by rw [zl]; rfl⟩, ⟨od, es, Heap.get?_push_of_some _ (Heap.get?_push_of_some _ (g₁.sub _ _ ed)), ex, edat, ek, epr, en⟩⟩
  exact (p.after x₂ g₂).after x₁ g₁
noncomputable def kvV (ks : List Int) (l : List V) : List V := (ks.zip l).map fun p => .tup [.int p.1, p.2]
theorem ItE.items {ob tgt : Expr} {apos pos : Pos} {ks : List Int} {l : List V} {elts : List Expr} {kk : Nat} {tp : Pos} (htgt : tgt = .Tuple elts kk tp) (ho : Ev c ρ ob (.dict ks l)) (hline : (apos.endLine == pos.line) = true)
    (hbase : ∀ env, attributeBase ob "items" env (eval ob env) = eval ob env := by intro _; rfl) : ItE c ρ tgt (.Call (.Attribute ob "items" apos) [] [] pos) (kvV ks l) := .mk fun G s E S => by
  subst htgt
  refine mcall0 S ho HasT.dict F.plainAttrs_dict F.slot_dict_items F.type_dict_items hline hbase fun v s₁ G₁ x₁ g₁ r₁ => ?_
  obtain ⟨d, us, rfl, dsm, el, ⟨od, es, ep, ed, ex, edat, ek, epr, en⟩, rs⟩ := VR.dict_iff.mp r₁
  have hd : s₁.heap.DictAt (intKind D.prog D.w) d (ks.zip us) ep := ⟨od, es, g₁.sub _ _ ed, ex, edat, ek, epr, en⟩
  refine call_meetsIn F.slot_dict_items hd.dictOf.typeIs F.entry_dict_items (F.args_dict_items_1 _) (meets_dict_items (intKind D.prog D.w) d (by simpa using dsm)) ⟨⟨_, hd.dictOf⟩, ?_⟩
  obtain ⟨g₂, x₂, n1, n2, n3⟩ := g₁.push_away (o := { cls := .type "dict_items", data := .fields #[.ref d] }) (k := s₁.toks)
  refine wpAny_pyIter_items (knd := intKind D.prog D.w) (d := d) (kvs := ks.zip us) (ep := ep) ⟨_, Heap.get?_push_size _ rfl, rfl, rfl⟩ ⟨od, es, Heap.get?_push_of_some _ (g₁.sub _ _ ed), ex, edat, ek, epr, en⟩ ?_
  have ul : us.length = l.length := rs.length.symm
  have zl : (ks.zip us).length = (kvV ks l).length := by simp [kvV, List.length_zip, el, ul]
  have p : ItAt D c.A (.Tuple elts kk tp) G₁ { s₁ with heap := s₁.heap.push { cls := .type "dict_items", data := .fields #[.ref d] } } (kvV ks l) (.ref (s₁.heap.push { cls := .type "dict_items", data := .fields #[.ref d] }).objs.size)
      { s₁ with heap := (s₁.heap.push { cls := .type "dict_items", data := .fields #[.ref d] }).push { cls := .type "dict_itemiterator", data := .fields #[.none, .bool false, .ref d, .int 0 0, .int (ks.zip us).length 0, .int ep 0, .none, .none] } } := by
    obtain ⟨g₃, x₃, m1, m2, m3⟩ := g₂.push_away (o := { cls := .type "dict_itemiterator", data := .fields #[.none, .bool false, .ref d, .int 0 0, .int (ks.zip us).length 0, .int ep 0, .none, .none] }) (k := s₁.toks)
    generalize hI : (s₁.heap.push { cls := .type "dict_items", data := .fields #[.ref d] }).objs.size = I at g₃ x₃ m1 m2 m3 ⊢
    have hDI : d ≠ I := by rw [← hI, Heap.size_push]; exact Nat.ne_of_lt (Nat.lt_succ_of_lt (Heap.lt_size (g₁.sub _ _ ed)))
    have dAt : ∀ {G' : PO} {h' : Heap}, G₁.le G' → (∀ b o, G' b = some o → h'.get? b = some o) → h'.DictAt (intKind D.prog D.w) d (ks.zip us) ep := fun le sb => ⟨od, es, sb _ _ (le _ _ ed), ex, edat, ek, epr, en⟩
    refine ⟨G₁, I, fun i G' h => (∃ ok ov, IsItemIter h I d i (ks.zip us).length ep ok ov) ∧ G₁.le G' ∧ ∀ b o, G' b = some o → h.get? b = some o, rfl, x₃, g₃, m2, m1, m3, ⟨?_, ?_, ?_, ?_, ?_⟩, ⟨?_, fun _ _ e => e, g₃.sub⟩⟩
    · rintro i G' h G'' h' ⟨⟨ok, ov, hit⟩, le, sb⟩ le' sb' kI
      exact ⟨⟨ok, ov, kI _ hit⟩, fun b o e => le' b o (le b o e), sb'⟩
    · rintro i G' h ⟨⟨ok, ov, hit⟩, le, sb⟩
      exact ⟨_, _, hit, rfl⟩
    · rintro i G' s' E' x hx ⟨⟨ok, ov, hit⟩, le, sb⟩ g' gI
      have hx' : (ks.zip us)[i]? ≠ none := fun q => by
        rw [List.getElem?_eq_none_iff, zl] at q
        rw [List.getElem?_eq_none q] at hx; cases hx
      obtain ⟨⟨k, v⟩, hkv⟩ : ∃ p, (ks.zip us)[i]? = some p := by
        cases q : (ks.zip us)[i]? with
        | none => exact absurd q hx'
        | some p => exact ⟨p, rfl⟩
      have hx2 : ∃ b, x = .tup [.int k, b] ∧ VR D G₁ b v := by
        rw [List.getElem?_zip_eq_some] at hkv
        obtain ⟨b, hb, rb⟩ := rs.getI hkv.2
        refine ⟨b, ?_, rb⟩
        unfold kvV at hx
        have hz : (ks.zip l)[i]? = some (k, b) := List.getElem?_zip_eq_some.mpr ⟨hkv.1, hb⟩
        rw [List.getElem?_map, hz] at hx
        cases hx; rfl
      obtain ⟨b, rfl, rb⟩ := hx2
      refine wpAny_pyNext_items_item (knd := intKind D.prog D.w) hit (dAt le sb) hkv fun key h' hkey hout hT hz hk => ⟨_, rfl, ?_⟩
      refine wpAny_letOwnedTupleGo_items hout fun h₂ hit₂ hs₂ => ?_
      obtain ⟨t, rfl⟩ := Value.isInt_shape hkey
      have hI' : I < s'.heap.objs.size := Heap.lt_size hit
      have kp : ∀ b o, b ≠ I → s'.heap.get? b = some o → h₂.get? b = some o := fun b o hb e => (hs₂.2 b hb).trans (hk b o hb e)
      have gn : G' s'.heap.objs.size = none := g'.none_size
      have hT₂ : h₂.get? s'.heap.objs.size = some { cls := .type "tuple", data := .seq #[.int k t, v] } := (hs₂.2 _ (Nat.ne_of_gt hI')).trans hT
      have tabne : ∀ b ∈ D.tabs, b ≠ s'.heap.objs.size ∧ b ≠ I := fun b hb => ⟨fun q => g'.alive hb (q ▸ Heap.get?_size s'.heap), fun q => m3 (q ▸ hb)⟩
      refine ⟨G'.add s'.heap.objs.size { cls := .type "tuple", data := .seq #[.int k t, v] }, ⟨⟨h₂, _, rfl⟩, PO.le_add gn, fun b n1 n2 => ?_, fun b o hb e => kp b o (fun q => hb (q ▸ .head _)) e⟩, ⟨fun b o e => PO.le_add gn b o (g'.base b o e), fun b o e => ?_, ?_⟩, ?_, ⟨⟨_, _, hit₂⟩, fun b o e => PO.le_add gn b o (le b o e), fun b o e => ?_⟩⟩
      · unfold PO.add at n2
        by_cases q : b = s'.heap.objs.size
        · rw [q]; exact Heap.get?_size _
        · rw [if_neg q] at n2; exact absurd n1 n2
      · unfold PO.add at e
        by_cases q : b = s'.heap.objs.size
        · rw [if_pos q] at e; cases e; rw [q]; exact hT₂
        · rw [if_neg q] at e; exact kp b o (fun z => by rw [z, gI] at e; cases e) (sb b o e)
      · refine g'.tabs.mono (PO.le_add gn) (fun b hb => ?_) fun b hb => ?_
        · unfold PO.add; rw [if_neg (tabne b hb).1]; exact g'.notab hb
        · cases e : s'.heap.get? b with
          | none => exact absurd e (g'.alive hb)
          | some o => exact kp b o (tabne b hb).2 e
      · exact VR.tup_iff.mpr ⟨_, [.int k t, v], rfl, ⟨0, PO.add_self ..⟩, VRs.cons (VR.int_iff.mpr ⟨t, rfl⟩) (VRs.cons ((rb.mono le).mono (PO.le_add gn)) VRs.nil)⟩
      · unfold PO.add at e
        by_cases q : b = s'.heap.objs.size
        · rw [if_pos q] at e; cases e; rw [q]; exact hT₂
        · rw [if_neg q] at e; exact kp b o (fun z => by rw [z, gI] at e; cases e) (sb b o e)
    · rintro G' s' E' ⟨⟨ok, ov, hit⟩, le, sb⟩ g' gI
      rw [← zl] at hit
      refine wpAny_pyNext_items_end (knd := intKind D.prog D.w) S.wf.hand hit (dAt le sb) (List.getElem?_eq_none (Nat.le_refl _)) fun h' hk => ⟨rfl, G', ⟨⟨h', s'.toks, rfl⟩, fun _ _ e => e, fun _ a b => absurd a b, fun b o hb e => hk b o (fun q => hb (q ▸ .head _)) e⟩, ⟨g'.base, fun b o e => hk b o (fun z => by rw [z, gI] at e; cases e) (sb b o e), ?_⟩⟩
      refine g'.tabs.mono (fun _ _ e => e) (fun b hb => g'.notab hb) fun b hb => ?_
      cases e : s'.heap.get? b with
      | none => exact absurd e (g'.alive hb)
      | some o => exact hk b o (fun q => m3 (q ▸ hb)) e
    · rintro i G' s' Q E' ⟨⟨ok, ov, hit⟩, le, sb⟩ hQ
      exact kcp_self hit hQ
    · refine ⟨.none, .none, ?_⟩
      have := Heap.get?_push_size (s₁.heap.push { cls := .type "dict_items", data := .fields #[.ref d] }) (o := { cls := .type "dict_itemiterator", data := .fields #[.none, .bool false, .ref d, .int 0 0, .int (ks.zip us).length 0, .int ep 0, .none, .none] }) rfl
      rw [hI] at this
      exact this
  exact (p.after x₂ g₂).after x₁ g₁
end
end Mine
/-! PI16 -/
namespace Mine
section
variable {D : Wd} {c : Cx D} {A : Around} {ρ ρ' ρ'' ρ0 ρ1 : Ro} {G G' Ga G₁ G₂ G₃ : PO} {s s' sa s₁ s₂ s₃ : Shared} {h h' : Heap} {o : Out}

/-! ### slices of any base: a temporary may go -/
theorem sub_slice {env : Env} {value : Expr} {lower upper : Option Expr} {p pos : Pos} {Q : Value → Shared → Prop} {E}
    (h : wpAny D.M A (eval value env) (fun o s₁ => wpAny D.M A (eval (.Slice lower upper none p) env) (fun i s₂ => s₂.TypeIs o "list" ∧ wpAny D.M A (getItem o i) Q E s₂) E s₁) E s) :
    wpAny D.M A (eval (.Subscript value (.Slice lower upper none p) pos) env) Q E s := by
  rw [eval_Subscript]
  refine wpAny_bind (wpAny_mono h (fun o s₁ h₁ => wpAny_bind (wpAny_holding (wpAny_mono h₁ (fun i s₂ h₂ => wpAny_bind (wpAny_standAt ?_)) fun _ _ x => x))) fun _ _ x => x)
  have fin : wpAny D.M A (operate [i, o] (getItem o i)) (fun r s₃ => wpAny D.M A (letTemporaryGo value o r >>= fun _ => pure r) Q E s₃) E s₂ :=
    wpAny_operating (wpAny_mono h₂.2 (fun r s₃ h₃ => wpAny_bind (wpAny_letTemporaryGo (wpAny_pure h₃))) fun _ _ x => x)
  first
    | (refine wpAny_bind ?_
       rw [getitemInPython_of_ne h₂.1.not_modules]
       refine wpAny_bind (wpAny_specialOf h₂.1 list_getitem_lookup ?_)
       first
         | exact wpAny_pure (wpAny_bind fin)
         | exact wpAny_bind (wpAny_pure (wpAny_bind fin))
         | exact wpAny_bind fin)
    | (refine wpAny_bind (wpAny_specialOf h₂.1 list_getitem_lookup ?_)
       first
         | exact wpAny_bind (wpAny_pure (wpAny_bind fin))
         | exact wpAny_bind fin)
theorem sub_slice_step {env : Env} {value st : Expr} {lower upper : Option Expr} {p pos : Pos} {Q : Value → Shared → Prop} {E}
    (h : wpAny D.M A (eval value env) (fun o s₁ => wpAny D.M A (eval (.Slice lower upper (some st) p) env) (fun i s₂ => s₂.TypeIs o "list" ∧ wpAny D.M A (getItem o i) Q E s₂) E s₁) E s) :
    wpAny D.M A (eval (.Subscript value (.Slice lower upper (some st) p) pos) env) Q E s := by
  rw [eval_Subscript]
  refine wpAny_bind (wpAny_mono h (fun o s₁ h₁ => wpAny_bind (wpAny_holding (wpAny_mono h₁ (fun i s₂ h₂ => wpAny_bind (wpAny_standAt ?_)) fun _ _ x => x))) fun _ _ x => x)
  have fin : wpAny D.M A (operate [o, i] (getItem o i)) (fun r s₃ => wpAny D.M A (letTemporaryGo value o r >>= fun _ => pure r) Q E s₃) E s₂ :=
    wpAny_operating (wpAny_mono h₂.2 (fun r s₃ h₃ => wpAny_bind (wpAny_letTemporaryGo (wpAny_pure h₃))) fun _ _ x => x)
  first
    | (refine wpAny_bind ?_
       rw [getitemInPython_of_ne h₂.1.not_modules]
       refine wpAny_bind (wpAny_specialOf h₂.1 list_getitem_lookup ?_)
       first
         | exact wpAny_pure (wpAny_bind fin)
         | exact wpAny_bind (wpAny_pure (wpAny_bind fin))
         | exact wpAny_bind fin)
    | (refine wpAny_bind (wpAny_specialOf h₂.1 list_getitem_lookup ?_)
       first
         | exact wpAny_bind (wpAny_pure (wpAny_bind fin))
         | exact wpAny_bind fin)

/-! ### slices -/
noncomputable def pickV (l : List V) (lo hi st : Option Int) : List V :=
  (sliceRange (sliceBounds lo hi st l.length).1 (sliceBounds lo hi st l.length).2.1 (sliceBounds lo hi st l.length).2.2).filterMap (l[·]?)
theorem VRs.pick {l : List V} {us : List Value} (r : VRs D G l us) : ∀ idx : List Nat, VRs D G (idx.filterMap (l[·]?)) (idx.filterMap (us[·]?))
  | [] => by simpa using VRs.nil
  | i :: idx => by
    have ih := VRs.pick r idx
    cases e : l[i]? with
    | none =>
      have : us[i]? = none := by rw [List.getElem?_eq_none_iff] at e ⊢; rw [← r.length]; exact e
      rw [List.filterMap_cons, List.filterMap_cons, e, this]; exact ih
    | some a =>
      obtain ⟨u, hu, ru⟩ := r.get e
      rw [List.filterMap_cons, List.filterMap_cons, e, hu]; exact VRs.cons ru ih
theorem VRs.slice {l : List V} {us : List Value} (r : VRs D G l us) (lo hi st : Option Int) : ∃ ws, slicePick us.toArray lo hi st = ws.toArray ∧ VRs D G (pickV l lo hi st) ws := by
  refine ⟨_, ?_, r.pick _⟩
  unfold slicePick
  rw [List.size_toArray, ← r.length]
  congr 2
  funext x
  simp
noncomputable def EvP {D : Wd} (c : Cx D) (ρ : Ro) (e : Option Expr) (n : Option Int) : Prop := match e, n with
  | none, none => True
  | some e, some n => Ev c ρ e (.int n)
  | _, _ => False
theorem EvP.mono {e : Option Expr} {n : Option Int} {Q : Value → Shared → Prop} {E} (x : EvP c ρ e n) (S : St c ρ G s) (h : ∀ v s' G', Ext D.tabs G s G' s' → GOK D G' s' → IsPart v n → Q v s') : wpAny D.M c.A (evalPart e c.env) Q E s := by
  cases e with
  | none =>
    cases n with
    | none => rw [evalPart_none]; exact wpAny_pure (h _ _ G (Ext.refl ..) S.ok .none)
    | some n => exact x.elim
  | some e =>
    cases n with
    | none => exact x.elim
    | some n =>
      rw [evalPart_some]
      exact Ev.mono (a := .int n) x S fun v s' G' y g r => by
        obtain ⟨t, rfl⟩ := VR.int_iff.mp r
        exact h _ _ G' y g (.int n t)
theorem Ev.slice {e : Expr} {lo hi : Option Expr} {p pos : Pos} {l : List V} {nl nh : Option Int} (he : Ev c ρ e (.list l)) (hlo : EvP c ρ lo nl) (hhi : EvP c ρ hi nh) (hs : l.length ≤ 10000) : Ev c ρ (.Subscript e (.Slice lo hi none p) pos) (.list (pickV l nl nh none)) := .mk fun G s E S => by
  refine sub_slice (he.mono S fun v s₁ G₁ x₁ g₁ r₁ => wpAny_Slice (hlo.mono (S.step x₁ g₁) fun vl s₂ G₂ x₂ g₂ p₂ => hhi.mono ((S.step x₁ g₁).step x₂ g₂) fun vh s₃ G₃ x₃ g₃ p₃ => ?_))
  rw [evalPart_none]
  obtain ⟨a, us, rfl, ⟨n, e1⟩, rs⟩ := VR.list_iff.mp ((r₁.mono x₂.le).mono x₃.le)
  have hL : s₃.heap.IsList a us.toArray := ⟨_, g₃.sub _ _ e1, rfl, n, rfl⟩
  refine wpAny_pure ⟨(hL.push _).typeIs, wpAny_getItem_list_slice (hL.push _) (Heap.IsSliceOf.new ..) p₂ p₃ .none (by simp) ?_ (by rw [List.size_toArray, ← rs.length, sizeLine_eq]; omega)⟩
  obtain ⟨ws, ew, rw'⟩ := rs.slice nl nh none
  rw [ew]
  obtain ⟨g₄, x₄, m1, m2, m3⟩ := g₃.push_away (o := { cls := .type "slice", data := .fields #[vl, vh, .none] }) (k := s₃.toks)
  have q := Post.newList (D := D) (k := s₃.toks) g₄ rw'
  exact (((q.after x₄ g₄).after x₃ g₃).after x₂ g₂).after x₁ g₁
theorem Ev.sliceStep {e st : Expr} {lo hi : Option Expr} {p pos : Pos} {l : List V} {nl nh : Option Int} {k : Int} (he : Ev c ρ e (.list l)) (hlo : EvP c ρ lo nl) (hhi : EvP c ρ hi nh) (hst : Ev c ρ st (.int k)) (hk : k ≠ 0) (hs : l.length ≤ 10000) : Ev c ρ (.Subscript e (.Slice lo hi (some st) p) pos) (.list (pickV l nl nh (some k))) := .mk fun G s E S => by
  refine sub_slice_step (he.mono S fun v s₁ G₁ x₁ g₁ r₁ => wpAny_Slice (hlo.mono (S.step x₁ g₁) fun vl s₂ G₂ x₂ g₂ p₂ => hhi.mono ((S.step x₁ g₁).step x₂ g₂) fun vh s₃ G₃ x₃ g₃ p₃ => ?_))
  rw [evalPart_some]
  refine hst.mono (((S.step x₁ g₁).step x₂ g₂).step x₃ g₃) fun vs s₄ G₄ x₄ g₄ r₄ => ?_
  obtain ⟨t, rfl⟩ := VR.int_iff.mp r₄
  obtain ⟨a, us, rfl, ⟨n, e1⟩, rs⟩ := VR.list_iff.mp (((r₁.mono x₂.le).mono x₃.le).mono x₄.le)
  have hL : s₄.heap.IsList a us.toArray := ⟨_, g₄.sub _ _ e1, rfl, n, rfl⟩
  refine ⟨(hL.push _).typeIs, wpAny_getItem_list_slice (hL.push _) (Heap.IsSliceOf.new ..) p₂ p₃ (.int k t) (by simpa using hk) ?_ (by rw [List.size_toArray, ← rs.length, sizeLine_eq]; omega)⟩
  obtain ⟨ws, ew, rw'⟩ := rs.slice nl nh (some k)
  rw [ew]
  obtain ⟨g₅, x₅, m1, m2, m3⟩ := g₄.push_away (o := { cls := .type "slice", data := .fields #[vl, vh, .int k t] }) (k := s₄.toks)
  have q := Post.newList (D := D) (k := s₄.toks) g₅ rw'
  exact ((((q.after x₅ g₅).after x₄ g₄).after x₃ g₃).after x₂ g₂).after x₁ g₁

/-! ### reversed -/
theorem IterR.reversed {tgt : Expr} (hh : A.handled = none) {l : List V} : IterR D A tgt (.type "reversed") [.list l] l.reverse := by
  intro G s E vs g r
  obtain ⟨v, rfl, rv⟩ := r.one
  obtain ⟨a, us, rfl, ⟨n, e⟩, rs⟩ := VR.list_iff.mp rv
  have e2 := g.sub _ _ e
  refine call_reversed_list (items := us.toArray) ⟨_, e2, rfl, n, rfl⟩ ?_
  obtain ⟨g', x, n1, n2, n3⟩ := g.push_away (o := revObj a ((us.toArray.size : Int) - 1)) (k := s.toks)
  have hne : a ≠ s.heap.objs.size := Nat.ne_of_lt (Heap.lt_size e2)
  have hlen : us.toArray.size = l.reverse.length := by simp [rs.length]
  have W := Walks.listRev (prog := D.prog) (w := D.w) hh s.heap.objs.size a hne us.toArray
  have hit : (s.heap.push (revObj a ((us.toArray.size : Int) - 1))).IsRevIter s.heap.objs.size a ((us.toArray.size : Int) - 1) := ⟨_, Heap.get?_push_size _ rfl, rfl, rfl⟩
  rw [hlen] at W
  refine wpAny_pyIter_revIter hit ⟨G, s.heap.objs.size, _, rfl, x, g', n2, n1, n3, Wk.ofWalks (G := G) W n3 (fun i v x hv hx => ?_) (fun b hb hbI => ?_) (fun i h st => ?_), ⟨⟨Nat.zero_le _, by
    rw [← hlen]; simpa using hit, ⟨_, Heap.get?_push_of_some _ e2, rfl, n, rfl⟩⟩, fun _ _ e => e, g'.sub⟩⟩
  · have rr := rs.reverse
    obtain ⟨u, hu, ru⟩ := rr.get hx
    have hi : i < l.reverse.length := (List.getElem?_eq_some_iff.mp hx).1
    have : us[l.reverse.length - 1 - i]? = some v := by simpa using hv
    rw [List.getElem?_reverse (by rw [← hlen] at hi; simpa using hi)] at hu
    rw [show us.length = l.reverse.length by simp [rs.length]] at hu
    rw [this] at hu; cases hu; exact ru
  · rcases List.mem_cons.mp hb with q | q
    · exact absurd q hbI
    · rw [List.mem_singleton.mp q, e]; simp
  · obtain ⟨o, ho, hc, hd⟩ := st.2.1
    exact ⟨o, _, _, ho, hc, by decide, hd⟩

/-! ### writing items -/
theorem setItem_plain {l : Addr} {items : Array Value} {n : Nat} {k : Int} {t : Tok} {v : Value} {Q : Unit → Shared → Prop} {E} (hl : s.heap.get? l = some { cls := .type "list", data := .seq items n })
    (h0 : 0 ≤ k) (hfit : k < 2 ^ 63) (hn : k < items.size)
    (hQ : ∀ h', h'.get? l = some { cls := .type "list", data := .seq (items.setIfInBounds k.toNat v) n } → Heap.SameBut l s.heap h' → Q () { s with heap := h' }) :
    wpAny D.M A (setItem (.ref l) (.int k t) v) Q E s := by
  have hL : s.heap.IsList l items := ⟨_, hl, rfl, n, rfl⟩
  unfold setItem
  try with_reducible refine wpAny_holding ?_
  first | refine wpAny_bind (wpAny_pure ?_) | skip
  refine wpAny_bind (wpAny_sequenceKey hL.typeIs (by decide) ?_)
  refine wpAny_bind (wpAny_callSpecial?_slot (name := PySem.Str.ofString "__setitem__") hL.typeIs slot_list_setitem
    (wpAny_call_entry slot_list_setitem hL.typeIs entry_list_setitem ?_ (args_list_setitem _ _ _)))
  show wpAny _ _ (Builtin.List.listSubscript? (.int k t) >>= _) _ _ s
  refine wpAny_bind (wpAny_listSubscript_int (fitsIndex_of h0 hfit) ?_)
  clear hfit
  obtain ⟨j, rfl⟩ := Int.eq_ofNat_of_zero_le h0
  have hj : j < items.size := by omega
  have hx' : items[j]? = some items[j] := Array.getElem?_eq_getElem hj
  show wpAny _ _ ((seqItemAt l j >>= fun r => pure (r.map (j, ·))) >>= _) _ _ s
  refine wpAny_bind (wpAny_bind (wpAny_seqItemAt hl rfl (wpAny_pure ?_)))
  rw [hx']
  show wpAny _ _ (setSeqItemAt l j v >>= _) _ _ s
  have hfin : (s.heap.update l (Obj.mapSeq (·.setIfInBounds j v))).get? l = some { cls := .type "list", data := .seq (items.setIfInBounds j v) n } := by
    have := IsL.update (h := s.heap) (l := l) (items := items) (n := n) hl (·.setIfInBounds j v)
    unfold IsL at this
    rw [this]
    simp
  refine wpAny_bind (wpAny_setSeqItemAt hl rfl ?_)
  first
    | exact wpAny_bind (wpAny_pure (wpAny_pure ⟨.none, rfl, wpAny_pure (hQ _ hfin (Heap.SameBut.update ..))⟩))
    | exact wpAny_pure ⟨.none, rfl, wpAny_pure (hQ _ hfin (Heap.SameBut.update ..))⟩
theorem Ex.setIdx {i : Nat} {x : Str} {np sp pos : Pos} {e ix : Expr} {l : List V} {n : Int} {a : V} (hx : c.names[i]? = some x) (hr : ρ[i]? = some (some (.own (.list l)))) (hso : Sole ρ i) (he : Ev c ρ e a) (hi : Ev c ρ ix (.int n)) (h0 : 0 ≤ n) (h1 : n < l.length) (hl : l.length ≤ 10000)
    (hs : ∀ env p ln, swapsWith e (some (.Subscript (.Name x np) ix p)) ln env = pure false := by intro _ _ _; rfl) :
    Ex c ρ (.Assign [.Subscript (.Name x np) ix sp] e pos) (.next (ρ.set i (some (.own (.list (l.set n.toNat a)))))) := .mk fun G s E S => by
  refine wpAny_Assign_Subscript (he.mono S fun v s₁ G₁ x₁ g₁ r₁ => ?_) (hs _ _ _)
  have S₁ := S.step x₁ g₁
  obtain ⟨d, k1, ⟨d', e', gd, nd, dL, dsm, ow⟩, k3, _⟩ := S₁.own hx hr hso
  cases e'
  refine k1 np _ E (hi.mono S₁ fun k s₂ G₂ x₂ g₂ r₂ => ?_)
  obtain ⟨t, rfl⟩ := VR.int_iff.mp r₂
  obtain ⟨us, rs, m, e2⟩ := ow.ext x₂ g₁
  have hlen := rs.length
  refine setItem_plain (items := us.toArray) (n := m) e2 h0 (by omega) (by rw [List.size_toArray]; omega) fun h' e3 hs' => ?_
  obtain ⟨q1, q2⟩ := k3 s₂ G₂ x₂ g₂ h' s₂.toks (.list (l.set n.toNat a)) hs' ⟨us.set n.toNat v, rs.set _ (r₁.mono x₂.le), m, by rw [e3]; simp⟩
  exact ⟨rfl, G₂, q1, (x₁.stp g₁).trans q2⟩
theorem Ex.setKey {i : Nat} {x : Str} {np sp pos : Pos} {e ix : Expr} {ks : List Int} {vs : List V} {n : Int} {a : V} (hx : c.names[i]? = some x) (hr : ρ[i]? = some (some (.own (.dict ks vs)))) (hso : Sole ρ i) (he : Ev c ρ e a) (hi : Ev c ρ ix (.int n)) (hl : ks.length ≤ 10000)
    (hs : ∀ env p ln, swapsWith e (some (.Subscript (.Name x np) ix p)) ln env = pure false := by intro _ _ _; rfl) :
    Ex c ρ (.Assign [.Subscript (.Name x np) ix sp] e pos) (.next (ρ.set i (some (.own (putK ks vs n a))))) := .mk fun G s E S => by
  refine wpAny_Assign_Subscript (he.mono S fun v s₁ G₁ x₁ g₁ r₁ => ?_) (hs _ _ _)
  have S₁ := S.step x₁ g₁
  obtain ⟨d, k1, ⟨d', e', gd, nd, dL, dsm, ow⟩, k3, _⟩ := S₁.own hx hr hso
  cases e'
  refine k1 np _ E (hi.mono S₁ fun k s₂ G₂ x₂ g₂ r₂ => ?_)
  obtain ⟨t, rfl⟩ := VR.int_iff.mp r₂
  obtain ⟨us, el, rs, dp⟩ := ow.ext x₂ g₁
  refine wpAny_setItem_pairs (knd := intKind D.prog D.w) (k := n) intKey dp (fun h' hd' hs' => ?_) (by rw [List.length_zip, ← el, sizeLine_eq]; omega)
  have hnd : ks.Nodup := by
    obtain ⟨o, es, ep, e, q1, q2, q3, q4, q5⟩ := dp
    rw [show (List.map (·.1) (ks.zip us)) = ks from List.map_fst_zip (by omega)] at q5; exact q5
  have ow' : OwnR D G₂ h' d (putK ks vs n a) := by
    have st : stored (ks.zip us) n v = _ := stored_zip (u := v) el hnd
    obtain ⟨o', es', ep', e', q1', q2', q3', q4', q5'⟩ := hd'
    rw [st] at q4' q5'
    unfold putK
    by_cases hm : n ∈ ks
    · rw [if_pos hm] at q4' q5' ⊢
      exact ⟨us.set (ks.idxOf n) v, by simp [el], rs.set _ (r₁.mono x₂.le), o', es', ep', e', q1', q2', q3', q4', q5'⟩
    · rw [if_neg hm] at q4' q5' ⊢
      exact ⟨us ++ [v], by simp [el], rs.append (VRs.cons (r₁.mono x₂.le) VRs.nil), o', es', ep', e', q1', q2', q3', q4', q5'⟩
  obtain ⟨q1, q2⟩ := k3 s₂ G₂ x₂ g₂ h' (s₂.toks + 1) _ hs' ow'
  exact ⟨rfl, G₂, q1, (x₁.stp g₁).trans q2⟩
theorem Ex.reverse {i : Nat} {x : Str} {np apos pos spos : Pos} {l : List V} (hx : c.names[i]? = some x) (hr : ρ[i]? = some (some (.own (.list l)))) (hso : Sole ρ i) (hl : l.length ≤ 10000) (hline : (apos.endLine == pos.line) = true) (hi : interactive c.env = false) :
    Ex c ρ (.Expr (.Call (.Attribute (.Name x np) "reverse" apos) [] [] pos) spos) (.next (ρ.set i (some (.own (.list l.reverse))))) := .mk fun G s E S => by
  obtain ⟨d, k1, ⟨d', e', gd, nd, dL, dsm, ow⟩, k3, _⟩ := S.own hx hr hso
  cases e'
  obtain ⟨us, rs, m, e⟩ := id ow
  refine wpAny_Expr_any (wpAny_Call_method rfl rfl hline F.plainAttrs_list F.slot_list_reverse F.type_list_reverse (k1 np _ E ⟨⟨_, e, rfl⟩, fun b q => by cases q; exact ⟨_, e, rfl⟩, ?_⟩)) hi rfl
  refine callWith_nil S.ok Kpr.builtin ?_
  refine call_meets PySem.F.slot_list_reverse ⟨_, e, rfl⟩ PySem.F.entry_list_reverse (PySem.F.args_list_reverse_1 _) (AutoListH.list_reverse_list_0 d us.toArray m (by rw [List.size_toArray, ← rs.length, sizeLine_eq]; omega)) ⟨e, ?_⟩
  have hu := IsL.update (h := s.heap) (l := d) (items := us.toArray) (n := m) e (fun xs : Array Value => xs.reverse)
  obtain ⟨q1, q2⟩ := k3 s G (Ext.refl ..) S.ok _ s.toks (.list l.reverse) (Heap.SameBut.update ..) ⟨us.reverse, rs.reverse, m, by
    have := hu
    unfold IsL at this
    rw [this]
    simp⟩
  exact ⟨rfl, G, q1, q2⟩
end
end Mine
/-! PI17 -/
namespace Mine
section
variable {D : Wd} {c : Cx D} {A : Around} {ρ ρ' ρ'' ρ0 ρ1 : Ro} {G G' G0 Ga G₁ G₂ G₃ : PO} {s s' s0 sa s₁ s₂ s₃ : Shared} {h h' : Heap} {o : Out}

noncomputable def fnCx (D : Wd) (A : Around) (scope : Scope) (cl : List (Str × Addr)) (L : Addr) (qual : Str) (fa : Addr) (code : Value) (G0 : PO) (s0 : Shared) : Cx D :=
  { A := A.deeper (newEnv scope L mainGlobals (cellsFrom (L + 1) scope.names cl) qual (some fa) code none builtinsNs), env := newEnv scope L mainGlobals (cellsFrom (L + 1) scope.names cl) qual (some fa) code none builtinsNs, names := nkN scope.names, kinds := nkK scope.names, G0 := G0, s0 := s0 }

theorem fn_frame (x0 : Ext D.tabs G0 s0 G s) (g : GOK D G s) (hh : A.handled = none) {scope : Scope} {cl : List (Str × Addr)} {qual : Str} {fa : Addr} {code : Value} (ho : okNames scope.names = true) (hk : scope.kind = .function) {k : Nat}
    (hlen : ρ.length = (nk scope.names).length)
    (hcl : ∀ (i : Nat) (x : Str), (nkN scope.names)[i]? = some x → (nkK scope.names)[i]? = some .ext → ∃ a v0, cl.lookup x = some a ∧ s.heap.IsCell a v0 ∧ ∀ sl, ρ[i]? = some (some sl) → ∃ v, v0 = some v ∧ SlotR (fnCx D A scope cl s.heap.objs.size qual fa code G0 s0) G s.heap sl v)
    (hρ : ∀ (i : Nat) sl, ρ[i]? = some (some sl) → (nkK scope.names)[i]? = some .ext) :
    St (fnCx D A scope cl s.heap.objs.size qual fa code G0 s0) ρ G { s with heap := pushCells (s.heap.push { cls := .type "frame", data := .dict #[] }) scope.names, toks := k } := by
  unfold okNames at ho
  simp only [Bool.and_eq_true, decide_eq_true_eq, List.all_eq_true, Bool.not_eq_true'] at ho
  obtain ⟨hn, hp⟩ := ho
  have z1 : (s.heap.push { cls := .type "frame", data := .dict #[] }).objs.size = s.heap.objs.size + 1 := Heap.size_push ..
  have kp : ∀ b o', s.heap.get? b = some o' → (pushCells (s.heap.push { cls := .type "frame", data := .dict #[] }) scope.names).get? b = some o' := fun b o' e => pushCells_keeps _ _ _ _ (Heap.get?_push_of_some _ e)
  obtain ⟨g', x'⟩ := g.keeps (k := k) kp
  have above : ∀ a, s.heap.objs.size ≤ a → s0.heap.get? a = none ∧ G a = none := fun a ha => by
    have e2 := Heap.get?_ge (h := s.heap) ha
    constructor
    · cases e : s0.heap.get? a with
      | none => rfl
      | some o' => obtain ⟨_, e'⟩ := x0.live g a o' e; rw [e2] at e'; cases e'
    · cases e : G a with
      | none => rfl
      | some o' => rw [g.sub a o' e] at e2; cases e2
  have hco : (pushCells (s.heap.push { cls := .type "frame", data := .dict #[] }) scope.names).get? s.heap.objs.size = some { cls := .type "frame", data := .dict #[] } := pushCells_keeps _ _ _ _ (Heap.get?_push_size _ rfl)
  have kOf : ∀ {x : Str} {k : NameKind}, (x, k) ∈ scope.names → (fnCx D A scope cl s.heap.objs.size qual fa code G0 s0).env.kindOf x = some k := fun {x k} hx => lookup_of_nodup hn hx
  have ext_some : ∀ (i : Nat) sl, ρ[i]? = some (some sl) → ∀ k, (nkK scope.names)[i]? = some k → k = .ext := fun i sl h k h2 => by rw [hρ i sl h] at h2; cases h2; rfl
  refine ⟨⟨hk, rfl, rfl, hh, nk_nodup hn, fun i x h1 h2 => ?_, fun i x h1 h2 => ?_, fun i x h1 h2 => ?_, fun i x h1 => nk_all h1, fun i x h1 => ?_⟩, x0.then g x', g', (above _ (Nat.le_refl _)).1, (above _ (Nat.le_refl _)).2,
    ⟨fun _ => none, ⟨_, _, 0, hco, rfl, fun e he => by simp at he, fun _ => rfl⟩, fun i x sl h1 h2 h3 => ?_⟩, fun i x k h1 h2 h3 => ?_, fun i j x y a k h1 h2 h3 h4 hkl h5 h6 => ?_⟩
  · rcases nk_mem (nk_get h1 h2) with ⟨_, q⟩ | ⟨q, _⟩ | ⟨q, _⟩
    · exact kOf q
    · cases q
    · cases q
  · rcases nk_mem (nk_get h1 h2) with ⟨q, _⟩ | ⟨_, q⟩ | ⟨q, _⟩
    · cases q
    · exact kOf q
    · cases q
  · rcases nk_mem (nk_get h1 h2) with ⟨q, _⟩ | ⟨q, _⟩ | ⟨_, q⟩
    · cases q
    · cases q
    · exact .inr (kOf q)
  · obtain ⟨k, h2⟩ := nk_all h1
    have hm := nk_get h1 h2
    have : ∃ k', (x, k') ∈ scope.names := by rcases nk_mem hm with ⟨_, q⟩ | ⟨_, q⟩ | ⟨_, q⟩ <;> exact ⟨_, q⟩
    obtain ⟨k', q⟩ := this
    exact hp _ q
  · have := ext_some i sl h3 _ h2; cases this
  · have hm := nk_get h1 h2
    rcases nk_mem hm with ⟨q, _⟩ | ⟨q, hq⟩ | ⟨q, hq⟩
    · exact absurd q h3
    · subst q
      obtain ⟨a, e1, e2, e3⟩ := cellsFrom_own scope.names (s.heap.push { cls := .type "frame", data := .dict #[] }) cl (ownCells_nodup hn) x (ownCells_mem.mpr hq)
      rw [z1] at e1 e2
      refine ⟨a, none, e1, e3, fun _ => above a (by omega), fun sl h4 => ?_⟩
      have := ext_some i sl h4 _ h2; cases this
    · subst q
      obtain ⟨a, v0, e1, ⟨oc, ec, dc⟩, e5⟩ := hcl i x h1 h2
      have hno : x ∉ ownCells scope.names := fun q => by
        have := lookup_of_nodup hn (ownCells_mem.mp q)
        rw [lookup_of_nodup hn hq] at this; cases this
      refine ⟨a, v0, ?_, ⟨oc, kp _ _ ec, dc⟩, (fun q => by cases q), fun sl h4 => ?_⟩
      · show (cellsFrom (s.heap.objs.size + 1) scope.names cl).lookup x = _
        rw [cellsFrom_other _ _ _ _ hno]; exact e1
      · obtain ⟨v, h5, r⟩ := e5 sl h4
        exact ⟨v, h5, x'.slot g r⟩
  · have m1 := nk_get h1 h3
    have m2 := nk_get h2 h4
    have c1 : x ∈ ownCells scope.names := by rcases nk_mem m1 with ⟨q, _⟩ | ⟨_, q⟩ | ⟨q, _⟩ <;> first | (cases q) | exact ownCells_mem.mpr q
    have h5' : (cellsFrom (s.heap.objs.size + 1) scope.names cl).lookup x = some a := h5
    have h6' : (cellsFrom (s.heap.objs.size + 1) scope.names cl).lookup y = some a := h6
    rcases nk_mem m2 with ⟨q, _⟩ | ⟨_, q⟩ | ⟨q, hq⟩
    · exact absurd q hkl
    · have := cellsFrom_apart scope.names (s.heap.push { cls := .type "frame", data := .dict #[] }) cl (ownCells_nodup hn) x c1 y (ownCells_mem.mpr q) a (by rw [z1]; exact h5') (by rw [z1]; exact h6')
      subst this
      exact nodup_idx (nk_nodup hn) h1 h2
    · obtain ⟨a1, e1, e2, _⟩ := cellsFrom_own scope.names (s.heap.push { cls := .type "frame", data := .dict #[] }) cl (ownCells_nodup hn) x c1
      rw [z1] at e1 e2
      rw [h5'] at e1; cases e1
      subst q
      obtain ⟨a', v0, e1, ⟨oc, ec, dc⟩, _⟩ := hcl j y h2 h4
      have hno : y ∉ ownCells scope.names := fun q => by
        have := lookup_of_nodup hn (ownCells_mem.mp q)
        rw [lookup_of_nodup hn hq] at this; cases this
      rw [cellsFrom_other _ _ _ _ hno, e1] at h6'
      cases h6'
      have := Heap.lt_size ec
      exact absurd this (Nat.not_lt.mpr (Nat.le_trans (Nat.le_add_right _ 1) e2))

/-! ### parameters -/
noncomputable def bindRo (l : List (Str × NameKind)) (ρ : Ro) : List (Str × V) → Ro
  | [] => ρ
  | (x, a) :: r => bindRo l (ρ.set ((nkN l).idxOf x) (some (.val a))) r
noncomputable def okBinds (l : List (Str × NameKind)) (xs : List Str) : Bool := xs.all fun x => match (nkN l)[(nkN l).idxOf x]?, (nkK l)[(nkN l).idxOf x]? with
  | some y, some k => y == x && k != .ext
  | _, _ => false
theorem okBinds_get {l : List (Str × NameKind)} {xs : List Str} (h : okBinds l xs = true) {x : Str} (hx : x ∈ xs) : (nkN l)[(nkN l).idxOf x]? = some x ∧ ∃ k, (nkK l)[(nkN l).idxOf x]? = some k ∧ k ≠ .ext := by
  have := List.all_eq_true.mp h x hx
  split at this
  · rename_i y k e1 e2
    simp only [Bool.and_eq_true] at this
    refine ⟨by rw [e1]; congr 1; simpa using this.1, k, e2, ?_⟩
    intro q; subst q; simp at this
  · cases this
theorem bind_params {l : List (Str × NameKind)} (hN : c.names = nkN l) (hK : c.kinds = nkK l) (f : Str × Value → PUnit → Sem (ForInStep PUnit)) (hf : ∀ n v u, f (n, v) u = (do storeName c.env n v; pure (.yield ⟨⟩))) {Q : PUnit → Shared → Prop} {E} {B : Around} :
    ∀ (xs : List Str) (as : List V) (vs : List Value) (ρ : Ro) (s : Shared), okBinds l xs = true → xs.length = as.length → VRs D G as vs → St c ρ G s → (∀ s', St c (bindRo l ρ (xs.zip as)) G s' → Q ⟨⟩ s') → wpAny D.M B (forIn (xs.zip vs) ⟨⟩ f) Q E s
  | [], as, vs, ρ, s, _, _, _, S, hQ => by rw [List.zip_nil_left, List.forIn_nil]; exact wpAny_pure (hQ s S)
  | x :: xs, [], _, _, _, _, h, _, _, _ => by simp at h
  | x :: xs, a :: as, vs, ρ, s, hb, hl, r, S, hQ => by
    unfold VRs at r
    obtain ⟨u, r', rfl, hu, hr⟩ := r
    obtain ⟨h1, k, h2, h3⟩ := okBinds_get hb (List.mem_cons_self ..)
    rw [List.zip_cons_cons, List.forIn_cons, hf]
    refine wpAny_bind (wpAny_bind (S.store (sl := .val a) (by rw [hN]; exact h1) (by rw [hK]; exact h2) h3 hu fun s' S' x' => wpAny_pure ?_))
    exact bind_params hN hK f hf xs as r' _ s' (by unfold okBinds at hb ⊢; simp only [List.all_cons, Bool.and_eq_true] at hb; exact hb.2) (by simpa using hl) hr S' hQ
theorem newEnv_fn {scope : Scope} {cl : List (Str × Addr)} {qual : Str} {fa : Addr} {code : Value} {xs : List Str} {as : List V} {vs : List Value} {Q : Env → Shared → Prop} {E} {B : Around} (hb : okBinds scope.names xs = true) (hl : xs.length = as.length) (r : VRs D G as vs)
    (S : ∀ k, St (fnCx D A scope cl s.heap.objs.size qual fa code G0 s0) ρ G { s with heap := pushCells (s.heap.push { cls := .type "frame", data := .dict #[] }) scope.names, toks := k })
    (hQ : ∀ s', St (fnCx D A scope cl s.heap.objs.size qual fa code G0 s0) (bindRo scope.names ρ (xs.zip as)) G s' → Q (fnCx D A scope cl s.heap.objs.size qual fa code G0 s0).env s') :
    wpAny D.M B (newFunctionEnv scope mainGlobals cl (xs.zip vs) qual (some fa) code none builtinsNs) Q E s := by
  simp only [newFunctionEnv, Option.isSome_none, Bool.false_eq_true, if_false]
  refine wpAny_bind (wpAny_alloc ?_)
  refine wpAny_bind (wpAny_layCells _ (fun name kind cells => by cases hkc : kind == NameKind.cell <;> simp [hkc]) _ _ _ _ ?_)
  rw [show ({ s with heap := s.heap.push { cls := .type "frame", data := .dict #[] } } : Shared).heap.objs.size = s.heap.objs.size + 1 from Heap.size_push ..]
  refine wpAny_bind (bind_params (c := fnCx D A scope cl s.heap.objs.size qual fa code G0 s0) rfl rfl _ (fun _ _ _ => rfl) xs as vs ρ _ hb hl r (S s.toks) fun s' S' => wpAny_pure (hQ s' S'))
end
end Mine
/-! PI18 -/
namespace Mine

structure FnAt (D : Wd) (fa : Addr) (xs : List Str) (body : List Stmt) (scope : Scope) : Prop where
  obj : ∃ o fd, D.h₀.get? fa = some o ∧ o.data = .func fd ∧ fd.scope = scope ∧ fd.body = .stmts body ∧ fd.globals = mainGlobals ∧ fd.builtins = builtinsNs ∧ fd.closure = [] ∧ D.h₀.CodeRec fd.code fd.qualname ∧
    ∀ vs, vs.length = xs.length → bindArgs fd ⟨vs, []⟩ = pure (xs.zip vs)

section
variable {D : Wd} {c : Cx D} {A : Around} {ρ ρ' ρ'' ρ0 ρ1 : Ro} {G G' G0 Ga G₁ G₂ G₃ : PO} {s s' s0 sa s₁ s₂ s₃ : Shared} {h h' : Heap} {o : Out}

structure Fn {D : Wd} (c : Cx D) (A : Around) (l : List (Str × NameKind)) : Prop where
  fr : Fr c l
  around : ∃ env, c.A = A.deeper env
  notI : interactive c.env = false
  hand : c.A.handled = none
  depth : c.A.depth = A.depth + 1
  units : c.A.units = A.units + 3

theorem fnCx_fn {scope : Scope} {cl : List (Str × Addr)} {L : Addr} {qual : Str} {fa : Addr} {code : Value} (hh : A.handled = none) (hk : scope.kind = .function) : Fn (fnCx D A scope cl L qual fa code G0 s0) A scope.names :=
  ⟨⟨rfl, rfl, fun x hx => hx⟩, ⟨_, rfl⟩, by unfold interactive; show (_ : Bool) = false; simp [fnCx, newEnv, hk], hh, rfl, rfl⟩

noncomputable def outV : Out → Option V
  | .next _ => some .none
  | .ret a => some a
  | .brk _ => none
  | .done _ a => some a

theorem CallR.fn {fa : Addr} {xs : List Str} {body : List Stmt} {scope : Scope} {l : List V} {a : V} (F : FnAt D fa xs body scope) (lim : D.h₀.NoLimit) (hh : A.handled = none) (hroom : A.depth < recursionLimit) (hl : xs.length = l.length)
    (hb : ∀ c : Cx D, Fn c A scope.names → ∃ o, outV o = some a ∧ Exs c (bindRo scope.names (List.replicate (nk scope.names).length none) (xs.zip l)) body o)
    (ho : okNames scope.names = true := by decide +kernel) (hp : okBinds scope.names xs = true := by decide +kernel) (hk : scope.kind = .function := by rfl) (hfree : (nkK scope.names).all (· != .ext) = true := by decide +kernel)
    (hco : scope.isCoroutine = false := by rfl) (hgen : scope.isGenerator = false := by rfl) : CallR D A (.ref fa) l a := by
  intro G s E vs g r
  obtain ⟨ob, fd, e, ed, es, eb, eg, eu, ec, ecd, ebind⟩ := F.obj
  refine wpAny_call ?_
  refine codeAny_call_function (fd := fd) hroom (g.base' _ _ e) ed (by rw [es]; exact hco) (by rw [es]; exact hgen) eb (ecd.keeps g.base') ?_
  rw [ebind vs (by rw [← r.length, hl]), es, eg, eu, ec]
  refine wpAny_pure (newEnv_fn (D := D) (A := A) (G0 := G) (s0 := s) (ρ := List.replicate (nk scope.names).length none) hp hl r (fun k => fn_frame (Ext.refl ..) g hh ho hk (by simp) (fun i x h1 h2 => ?_) (fun i sl h => ?_)) fun s' S' => ?_)
  · have := List.all_eq_true.mp hfree .ext (List.mem_of_getElem? h2)
    simp at this
  · rw [List.getElem?_replicate] at h; split at h <;> cases h
  · refine ⟨lim.keeps S'.ok.base', codeAny_func ?_⟩
    obtain ⟨o, ov, hx⟩ := hb _ (fnCx_fn (D := D) (A := A) (scope := scope) (cl := []) (L := s.heap.objs.size) (qual := fd.qualname ++ ".<locals>.") (fa := fa) (code := fd.code) (G0 := G) (s0 := s) hh hk)
    refine wpAny_mono (hx.run G s' _ S') (fun f s₂ p => ?_) fun _ _ e => e
    cases o with
    | next ρ₂ =>
      obtain ⟨rfl, G₂, S₂, _⟩ := p
      cases ov
      exact ⟨G₂, S₂.ext, S₂.ok, VR.none_iff.mpr rfl⟩
    | brk ρ₂ => cases ov
    | ret b =>
      obtain ⟨v, rfl, G₂, ρ₂, S₂, _, rv⟩ := p
      cases ov
      exact ⟨G₂, S₂.ext, S₂.ok, rv⟩
    | done ρ₂ b =>
      obtain ⟨v, rfl, G₂, S₂, _, rv⟩ := p
      cases ov
      exact ⟨G₂, S₂.ext, S₂.ok, rv⟩
end
end Mine
/-! PI19 -/
namespace Mine
section
variable {D : Wd} {c : Cx D} {A : Around} {ρ ρ' ρ'' ρ0 ρ1 : Ro} {G G' G0 Ga G₁ G₂ G₃ : PO} {s s' s0 sa s₁ s₂ s₃ : Shared} {h h' : Heap} {o : Out}

theorem comp_use_end {i : Nat} {y : Str} {py : Pos} {k : VK} {Q : Flow → Shared → Prop} {E : Value → Shared → Prop} {a' : V} (S : St c ρ G s) (hx : c.names[i]? = some y) (hk : c.kinds[i]? = some k) (hne : k ≠ .ext) (hno : NoOwn (ρ.set i (some (.val a'))))
    (hQ : ∀ s', OutP c G s (.next (ρ.set i (some (.val a')))) .next s' → Q .next s') :
    ∀ C d G' s' o', Ext D.tabs G s G' s' → GOK D G' s' → s.heap.get? d = none → G' d = none → d ≠ sysModules → s'.heap.get? d = some o' → OwnR D G' s'.heap d a' → s.heap.get? C = none → G' C = none → d ≠ C → (∃ m, s'.heap.Ns C m) →
      compPost D.M c.A E (some (assign (.Name y py) c.env)) (fun _ s' => Q .next s') (.ref d) C (.ok .next) s' := by
  intro C d G' s' o' x g n1 n2 sm e od c1 c2 dC ⟨m, hm⟩
  show wpAny D.M c.A (assign (.Name y py) c.env (.ref d)) _ E s'
  obtain ⟨o2, e2, nf, _⟩ := od.data
  rw [e] at e2; cases e2
  have ht := g.notTab e nf
  have g2 := g.freeze e n2 ht
  have x2 := x.freeze n2 n1 (o := o')
  have S2 := S.step x2 g2
  obtain ⟨oC, eC, nC, nC2⟩ := Heap.Ns.data hm
  have cL : C ≠ c.env.locals := fun q => by
    obtain ⟨mL, hL, _⟩ := S.loc
    obtain ⟨oL, eL, _⟩ := Heap.Ns.data hL
    rw [← q, c1] at eL; cases eL
  have tC := g.notTab eC nC
  refine AsgR.name (ρ := ρ) hx hk hne (G'.add d o') s' (.ref d) _ E S2 (VR.frozen sm e n2 od) fun s₃ S₃ x₃ => ?_
  have eC3 := x₃.keepL C oC tC cL eC nC2
  refine ⟨m, hm.at' fun o e' => by rw [eC] at e'; cases e'; exact eC3, fun h' hs => hQ _ ⟨rfl, G'.add d o', ?_, ?_⟩⟩
  · have gC : (G'.add d o') C = none := by unfold PO.add; rw [if_neg (fun q => dC q.symm)]; exact c2
    have s0C : c.s0.heap.get? C = none := by
      cases q : c.s0.heap.get? C with
      | none => rfl
      | some o => rw [S.ext.keep C o tC q] at c1; cases c1
    exact S₃.writeAt (k := s₃.toks) hno eC3 s0C gC cL nC nC2 hs
  · exact ((x2.stp g2).trans x₃.stp).write (k := s₃.toks) eC3 c1 hs

theorem chain_list1 {α : Type} {φ : α → V} {zs : List α} {elt tgt : Expr} {ifs : List Expr} {scope : Scope} {f : α → Option V}
    (ht : ∀ c' : Cx D, Fr c' scope.names → c'.A = c.A → Wf c' → ∀ z ∈ zs, Turn1 c' (compRo c.names ρ scope.names) tgt ifs elt (φ z) (f z)) (hl : (zs.filterMap f).length ≤ 10000) :
    ∀ c' : Cx D, Fr c' scope.names → (∃ cl C G s, c' = compCx c scope cl C G s) → Chain c' (compRo c.names ρ scope.names) tgt ifs (emitL D c.A elt c'.env) (zs.map φ) (.list []) (.list (zs.filterMap f)) := by
  have fm : zs.filterMap f = zs.flatMap fun x => (f x).toList := by
    clear ht hl
    induction zs with
    | nil => rfl
    | cons x xs ih => rw [List.flatMap_cons, ← ih]; cases e : f x <;> simp [List.filterMap_cons, e]
  rintro c' F' ⟨cl, C, G1, s1, rfl⟩
  rw [fm] at hl ⊢
  have := Chain.listF (φ := φ) (c := compCx c scope cl C G1 s1) (ρ0 := compRo c.names ρ scope.names) (tgt := tgt) (ifs := ifs) (body := emitL D c.A elt (compCx c scope cl C G1 s1).env) (F := fun x => (f x).toList) zs [] (fun x hx => ?_) (by simpa using hl)
  · simpa using this
  · by_cases hw : Wf (compCx c scope cl C G1 s1)
    · exact (ht _ F' rfl hw x hx).tail (x := elt)
    · refine ⟨compRo c.names ρ scope.names, fun G s v Q E S => absurd S.wf hw, fun _ _ e => e, fun l hl G s E acc Q S => absurd S.wf hw⟩
theorem chain_list2 {α β : Type} {φ : α → V} {ψ : β → V} {zs : List α} {elt tgt itx tgt' itx' : Expr} {ifs ifs' : List Expr} {scope : Scope} {pos : Pos} {K : α → List β} {F : α → β → Option V}
    (ht : ∀ c' : Cx D, Fr c' scope.names → c'.A = c.A → Wf c' → ∀ x ∈ zs, ∃ ρ', AsgR c' (compRo c.names ρ scope.names) tgt' (φ x) ρ' ∧ Sub (compRo c.names ρ scope.names) ρ' ∧ TestsR c' ρ' ifs' true ∧ ItE c' ρ' tgt itx ((K x).map ψ) ∧ ∀ y ∈ K x, Turn1 c' ρ' tgt ifs elt (ψ y) (F x y))
    (hl : (zs.flatMap fun x => (K x).filterMap (F x)).length ≤ 5000) :
    ∀ c' : Cx D, Fr c' scope.names → (∃ cl C G s, c' = compCx c scope cl C G s) → Chain c' (compRo c.names ρ scope.names) tgt' ifs' (inner D c.A (.ListComp elt [⟨tgt', itx', ifs', 0⟩, ⟨tgt, itx, ifs, 0⟩] scope pos) itx c'.env) (zs.map φ) (.list []) (.list (zs.flatMap fun x => (K x).filterMap (F x))) := by
  rintro c' F' ⟨cl, C, G1, s1, rfl⟩
  by_cases hw : Wf (compCx c scope cl C G1 s1)
  · have key : ∀ (zs : List α) (l0 : List V), (∀ x ∈ zs, ∃ ρ', AsgR (compCx c scope cl C G1 s1) (compRo c.names ρ scope.names) tgt' (φ x) ρ' ∧ Sub (compRo c.names ρ scope.names) ρ' ∧ TestsR (compCx c scope cl C G1 s1) ρ' ifs' true ∧ ItE (compCx c scope cl C G1 s1) ρ' tgt itx ((K x).map ψ) ∧ ∀ y ∈ K x, Turn1 (compCx c scope cl C G1 s1) ρ' tgt ifs elt (ψ y) (F x y)) →
        l0.length + (zs.flatMap fun x => (K x).filterMap (F x)).length ≤ 5000 →
        Chain (compCx c scope cl C G1 s1) (compRo c.names ρ scope.names) tgt' ifs' (inner D c.A (.ListComp elt [⟨tgt', itx', ifs', 0⟩, ⟨tgt, itx, ifs, 0⟩] scope pos) itx (compCx c scope cl C G1 s1).env) (zs.map φ) (.list l0) (.list (l0 ++ zs.flatMap fun x => (K x).filterMap (F x))) := by
      intro zs
      induction zs with
      | nil => intro l0 _ _; simp [Chain]
      | cons x xs ih =>
        intro l0 h hl
        obtain ⟨ρ', h1, h2, h3, h4, h5⟩ := h x (.head _)
        rw [List.flatMap_cons, List.length_append] at hl
        refine ⟨ρ', .list (l0 ++ (K x).filterMap (F x)), h1, h2, TailR.emit h3 (BodyR.inner h4 ?_), ?_⟩
        · have fm : (K x).filterMap (F x) = (K x).flatMap fun y => (F x y).toList := by
            clear h4 h5 hl
            generalize K x = ys
            induction ys with
            | nil => rfl
            | cons y ys ih => rw [List.flatMap_cons, ← ih]; cases e : F x y <;> simp [List.filterMap_cons, e]
          rw [fm]
          exact Chain.listF (φ := ψ) (F := fun y => (F x y).toList) (K x) l0 (fun y hy => (h5 y hy).tail (x := elt)) (by rw [← fm]; omega)
        · have := ih (l0 ++ (K x).filterMap (F x)) (fun y hy => h y (.tail _ hy)) (by rw [List.length_append]; omega)
          rwa [List.append_assoc, ← List.flatMap_cons (f := fun x => (K x).filterMap (F x))] at this
    simpa using key zs [] (ht _ F' rfl hw) (by simpa using hl)
  · have key : ∀ (xs : List V) (a b : V), Chain (compCx c scope cl C G1 s1) (compRo c.names ρ scope.names) tgt' ifs' (inner D c.A (.ListComp elt [⟨tgt', itx', ifs', 0⟩, ⟨tgt, itx, ifs, 0⟩] scope pos) itx (compCx c scope cl C G1 s1).env) xs a b ∨ xs = [] := by
      intro xs
      induction xs with
      | nil => intro _ _; exact .inr rfl
      | cons x xs ih =>
        intro a b
        left
        rcases ih b b with h | h
        · exact ⟨compRo c.names ρ scope.names, b, fun G s v Q E S => absurd S.wf hw, fun _ _ e => e, fun G s E acc Q S => absurd S.wf hw, h⟩
        · subst h; exact ⟨compRo c.names ρ scope.names, b, fun G s v Q E S => absurd S.wf hw, fun _ _ e => e, fun G s E acc Q S => absurd S.wf hw, rfl⟩
    rcases key (zs.map φ) (.list []) (.list (zs.flatMap fun x => (K x).filterMap (F x))) with h | h
    · exact h
    · have : zs = [] := by simpa using h
      subst this; exact rfl

theorem Ex.listUse {α : Type} {φ : α → V} {zs : List α} {elt tgt itx : Expr} {ifs : List Expr} {scope : Scope} {pos spos py : Pos} {y : Str} {f : α → Option V} {i : Nat} {k : VK} (sm : D.h₀.get? cStatics ≠ none)
    (hsw : swapsWith (.ListComp elt [⟨tgt, itx, ifs, 0⟩] scope pos) (some (.Name y py)) spos.line c.env = pure true)
    (hx : c.names[i]? = some y) (hk : c.kinds[i]? = some k) (hne : k ≠ .ext) (hno : NoOwn (ρ.set i (some (.val (.list (zs.filterMap f))))))
    (hit : ItE c ρ tgt itx (zs.map φ)) (ht : ∀ c' : Cx D, Fr c' scope.names → c'.A = c.A → Wf c' → ∀ z ∈ zs, Turn1 c' (compRo c.names ρ scope.names) tgt ifs elt (φ z) (f z))
    (ho : okNames scope.names = true) (hk' : scope.kind = .function) (hf : okFree c.names c.kinds scope.names = true) (hl : (zs.filterMap f).length ≤ 10000) (hs : ∀ x env, foldedSetIterable itx env x = pure x) :
    Ex c ρ (.Assign [.Name y py] (.ListComp elt [⟨tgt, itx, ifs, 0⟩] scope pos) spos) (.next (ρ.set i (some (.val (.list (zs.filterMap f)))))) := by
  refine .mk fun G s E S => ?_
  rw [exec_Assign_Name_used _ _ _ _ hsw]
  refine wpAny_bind (wpAny_standAt (wpAny_bind ?_))
  show wpAny _ _ (do let _ ← comprehension (.ListComp elt [⟨tgt, itx, ifs, 0⟩] scope pos) scope c.env _ (newList []) false (eval itx c.env) (some (PySem.assign (.Name y py) c.env))) _ _ s
  refine wpAny_bind (wpAny_mono (comp_run (gs := []) (a0 := .list []) (a' := .list (zs.filterMap f)) (body := emitL D c.A elt) (Q := fun _ s' => OutP c G s (.next (ρ.set i (some (.val (.list (zs.filterMap f)))))) .next s') rfl (fun x => hs x _) newAcc_list rfl (fun G h d e => own_nil (o := default) e) ho hk' hf (fun cl C G s => Unf.list1) (fun cl C G s => Sta.list) hit (chain_list1 ht hl) S ⟨sm_ne sm S.ok, alive_sm sm S.ok⟩
    (comp_use_end S hx hk hne hno (Q := fun f s' => OutP c G s (.next (ρ.set i (some (.val (.list (zs.filterMap _)))))) f s') fun _ p => p)) (fun _ s' hq => wpAny_pure (wpAny_pure hq)) fun _ _ e => e)
theorem Ex.listUse2 {α β : Type} {φ : α → V} {ψ : β → V} {zs : List α} {elt tgt itx tgt' itx' : Expr} {ifs ifs' : List Expr} {scope : Scope} {pos spos py : Pos} {y : Str} {K : α → List β} {F : α → β → Option V} {i : Nat} {k : VK} (sm : D.h₀.get? cStatics ≠ none)
    (hsw : swapsWith (.ListComp elt [⟨tgt', itx', ifs', 0⟩, ⟨tgt, itx, ifs, 0⟩] scope pos) (some (.Name y py)) spos.line c.env = pure true)
    (hx : c.names[i]? = some y) (hk : c.kinds[i]? = some k) (hne : k ≠ .ext) (hno : NoOwn (ρ.set i (some (.val (.list (zs.flatMap fun x => (K x).filterMap (F x)))))))
    (hit : ItE c ρ tgt' itx' (zs.map φ)) (ht : ∀ c' : Cx D, Fr c' scope.names → c'.A = c.A → Wf c' → ∀ x ∈ zs, ∃ ρ', AsgR c' (compRo c.names ρ scope.names) tgt' (φ x) ρ' ∧ Sub (compRo c.names ρ scope.names) ρ' ∧ TestsR c' ρ' ifs' true ∧ ItE c' ρ' tgt itx ((K x).map ψ) ∧ ∀ y ∈ K x, Turn1 c' ρ' tgt ifs elt (ψ y) (F x y))
    (ho : okNames scope.names = true) (hk' : scope.kind = .function) (hf : okFree c.names c.kinds scope.names = true) (hl : (zs.flatMap fun x => (K x).filterMap (F x)).length ≤ 5000) (hs' : ∀ x env, foldedSetIterable itx' env x = pure x) (hs : ∀ x env, foldedSetIterable itx env x = pure x) :
    Ex c ρ (.Assign [.Name y py] (.ListComp elt [⟨tgt', itx', ifs', 0⟩, ⟨tgt, itx, ifs, 0⟩] scope pos) spos) (.next (ρ.set i (some (.val (.list (zs.flatMap fun x => (K x).filterMap (F x))))))) := by
  refine .mk fun G s E S => ?_
  rw [exec_Assign_Name_used _ _ _ _ hsw]
  refine wpAny_bind (wpAny_standAt (wpAny_bind ?_))
  show wpAny _ _ (do let _ ← comprehension (.ListComp elt [⟨tgt', itx', ifs', 0⟩, ⟨tgt, itx, ifs, 0⟩] scope pos) scope c.env _ (newList []) false (eval itx' c.env) (some (PySem.assign (.Name y py) c.env))) _ _ s
  refine wpAny_bind (wpAny_mono (comp_run (gs := [⟨tgt, itx, ifs, 0⟩]) (a0 := .list []) (a' := .list (zs.flatMap fun x => (K x).filterMap (F x))) (body := inner D c.A (.ListComp elt [⟨tgt', itx', ifs', 0⟩, ⟨tgt, itx, ifs, 0⟩] scope pos) itx) (Q := fun _ s' => OutP c G s (.next (ρ.set i (some (.val (.list (zs.flatMap fun x => (K x).filterMap (F x))))))) .next s') rfl (fun x => hs' x _) newAcc_list rfl (fun G h d e => own_nil (o := default) e) ho hk' hf (fun cl C G s => Unf.outer fun x => hs x _) (fun cl C G s => Sta.list) hit (chain_list2 ht hl) S ⟨sm_ne sm S.ok, alive_sm sm S.ok⟩
    (comp_use_end S hx hk hne hno (Q := fun f s' => OutP c G s (.next (ρ.set i (some (.val (.list (zs.flatMap fun x => (K x).filterMap (F x))))))) f s') fun _ p => p)) (fun _ s' hq => wpAny_pure (wpAny_pure hq)) fun _ _ e => e)
end
end Mine
/-! PI20 -/
namespace Mine
section
variable {D : Wd} {c : Cx D} {A : Around} {ρ ρ' ρ'' ρ0 ρ1 : Ro} {G G' G0 Ga G₁ G₂ G₃ : PO} {s s' s0 sa s₁ s₂ s₃ : Shared} {h h' : Heap} {o : Out}

theorem tab_one {pos : Pos} {c' : Addr} : codeAmong pos (#[rawInt pos.line, rawInt pos.col, .ref c'] : Array Value).toList = some (.ref c') := by simp [codeAmong, rawInt]
theorem trip_one {pos : Pos} {c' : Addr} : TriplesOk (#[rawInt pos.line, rawInt pos.col, .ref c'] : Array Value).toList := trivial

theorem made_two {P : Addr} {pos : Pos} {qual : Str} {hs : Heap} {tk : Nat} {c' f : Addr} {oc fo : Obj} {vs : Array Value} {t : Tok} (g : GOK D G s) (hq : (P, pos, qual) ∈ D.ti) (hnd : (D.ti.map (·.1)).Nodup)
    (hx : Heap.ExtBut P s.heap hs) (hc : s.heap.objs.size ≤ c') (hf : s.heap.objs.size ≤ f) (hne : c' ≠ f) (eoc : hs.get? c' = some oc) (efo : hs.get? f = some fo) (doc : oc.data = .fields vs) (hv : vs[1]? = some (.str qual t))
    (htab : hs.get? P = some (tabObj #[rawInt pos.line, rawInt pos.col, .ref c'])) :
    GOK D ((G.add c' oc).add f fo) { s with heap := hs, toks := tk } ∧ Ext D.tabs G s ((G.add c' oc).add f fo) { s with heap := hs, toks := tk } ∧ ((G.add c' oc).add f fo) f = some fo ∧ ((G.add c' oc).add f fo) c' = some oc := by
  have hP : P ∈ D.tabs := List.mem_map.mpr ⟨_, hq, rfl⟩
  have gP := g.notab hP
  have none_of : ∀ b, s.heap.objs.size ≤ b → s.heap.get? b = none ∧ G b = none := fun b hb => by
    have e := Heap.get?_ge (h := s.heap) hb
    refine ⟨e, ?_⟩
    cases q : G b with
    | none => rfl
    | some o => rw [g.sub b o q] at e; cases e
  have gc := none_of c' hc
  have gf := none_of f hf
  have gf' : (G.add c' oc) f = none := by unfold PO.add; rw [if_neg (Ne.symm hne)]; exact gf.2
  have le : G.le ((G.add c' oc).add f fo) := fun b o e => PO.le_add gf' b o (PO.le_add gc.2 b o e)
  have val : ∀ b o, ((G.add c' oc).add f fo) b = some o → (b = f ∧ o = fo) ∨ (b = c' ∧ o = oc) ∨ G b = some o := fun b o e => by
    unfold PO.add at e
    by_cases q : b = f
    · rw [if_pos q] at e; cases e; exact .inl ⟨q, rfl⟩
    · rw [if_neg q] at e
      by_cases q2 : b = c'
      · rw [if_pos q2] at e; cases e; exact .inr (.inl ⟨q2, rfl⟩)
      · rw [if_neg q2] at e; exact .inr (.inr e)
  have nb : ∀ b, b ≠ f → b ≠ c' → ((G.add c' oc).add f fo) b = G b := fun b h1 h2 => by unfold PO.add; rw [if_neg h1, if_neg h2]
  have cc : ((G.add c' oc).add f fo) c' = some oc := by unfold PO.add; rw [if_neg hne, if_pos rfl]
  refine ⟨⟨fun b o e => le b o (g.base b o e), fun b o e => ?_, fun q hq' => ?_⟩, ⟨⟨hs, tk, rfl⟩, le, fun b n n' => ?_, fun b o hb e => hx b o (fun q => hb (q ▸ hP)) e⟩, PO.add_self .., cc⟩
  · rcases val b o e with ⟨rfl, rfl⟩ | ⟨rfl, rfl⟩ | e
    · exact efo
    · exact eoc
    · exact hx b o (fun q => by rw [q, gP] at e; cases e) (g.sub b o e)
  · have hq'' : q.1 ∈ D.tabs := List.mem_map_of_mem hq'
    have al := g.alive hq''
    have ne1 : q.1 ≠ f := fun z => al (z ▸ gf.1)
    have ne2 : q.1 ≠ c' := fun z => al (z ▸ gc.1)
    refine ⟨(nb _ ne1 ne2).trans (g.notab hq''), ?_⟩
    by_cases z : q.1 = P
    · have : q = (P, pos, qual) := by
        obtain ⟨i, hi⟩ := List.mem_iff_getElem?.mp hq'
        obtain ⟨j, hj⟩ := List.mem_iff_getElem?.mp hq
        have hij : i = j := nodup_idx (x := P) hnd (by rw [List.getElem?_map, hi]; simp [z]) (by rw [List.getElem?_map, hj]; rfl)
        subst hij
        rw [hi] at hj; exact Option.some.inj hj
      subst this
      exact ⟨_, htab, .inr ⟨c', oc, vs, t, rfl, cc, doc, hv⟩⟩
    · obtain ⟨_, ps, e, r⟩ := g.tabs q hq'
      refine ⟨ps, hx _ _ z e, ?_⟩
      rcases r with r | ⟨c2, oc2, vs2, t2, r1, r2, r3⟩
      · exact .inl r
      · exact .inr ⟨c2, oc2, vs2, t2, r1, le _ _ r2, r3⟩
  · cases q : ((G.add c' oc).add f fo) b with
    | none => exact absurd q n'
    | some o =>
      rcases val b o q with ⟨rfl, _⟩ | ⟨rfl, _⟩ | e
      · exact gf.1
      · exact gc.1
      · rw [n] at e; cases e

theorem make_fn {cA P : Addr} {pos : Pos} {qual name : Str} {params : Arguments} {body : List Stmt} {scope : Scope} {clos : List (Str × Addr)} {firstLine : Nat} {Q : Value → Shared → Prop} {E} (gd : GD D) (S : St c ρ G s) (hq : (P, pos, qual) ∈ D.ti) (hnd : (D.ti.map (·.1)).Nodup)
    (hcd : c.env.code = .ref cA) (C : CodeHd D.h₀ cA P) (hB : D.h₀.BuiltinsAt D.mg P) (hcl : closureFor scope c.env = pure clos)
    (hQ : ∀ v s' G', Ext D.tabs G s G' s' → GOK D G' s' → VR D G' (.fn params (.stmts body) scope clos qual) v → Q v s') :
    wpAny D.M A (makeFunction name qual params (.stmts body) scope c.env [] [] [] pos firstLine) Q E s := by
  have g := S.ok
  have hg : s.heap.Ns mainGlobals D.mg := gd.g.keeps g.base'
  have hb : s.heap.BuiltinsAt D.mg P := by
    obtain ⟨bm, o, h1, h2, h3, h4, h5, h6⟩ := hB
    exact ⟨bm, o, h1, h2, h3, h4, g.base' _ _ h5, h6⟩
  obtain ⟨gP, ps, eP, r⟩ := g.tabs _ hq
  simp only at gP eP r
  have hgP : mainGlobals ≠ P := fun q => by
    obtain ⟨o, es, ep, e, hd, _⟩ := hg
    rw [q, eP] at e; cases e; cases hd
  rcases r with rfl | ⟨c', oc, vs, t, rfl, r1, r2, r3⟩
  · refine makeFunction_K (mg := D.mg) hcl S.wf.glob hg hcd (C.keeps g.base') eP trivial rfl hgP hb fun c' ctv doc h' tk hx hge hlt hrec htb => ?_
    obtain ⟨c₂, oc, vs, t, e2, hoc, hd, hv⟩ := hrec
    cases e2
    have htb' : h'.get? P = some (tabObj #[rawInt pos.line, rawInt pos.col, .ref c']) := by simpa using htb
    obtain ⟨m1, m2, m3, m4⟩ := made_two (tk := tk) (f := h'.objs.size) (fo := fnMade name qual params body scope clos doc ((D.mg "__name__").getD .none) c' ctv) (hs := h'.push (fnMade name qual params body scope clos doc ((D.mg "__name__").getD .none) c' ctv)) g hq hnd (hx.push _) hge (Nat.le_of_lt (Nat.lt_of_le_of_lt hge hlt)) (Nat.ne_of_lt hlt) (Heap.get?_push_of_some _ hoc) (Heap.get?_push_size _ rfl) hd hv (Heap.get?_push_of_some _ htb')
    exact hQ _ _ _ m2 m1 (VR.fn_iff.mpr ⟨_, rfl, _, _, m3, rfl, rfl, rfl, rfl, rfl, rfl, rfl, rfl, rfl, rfl, c', oc, vs, t, rfl, m4, hd, hv⟩)
  · refine makeFunction_hit (mg := D.mg) hcl S.wf.glob hg hcd (C.keeps g.base') eP trip_one tab_one hb fun ctv doc h' tk hk hsz => ?_
    have hne : c' ≠ h'.objs.size := Nat.ne_of_lt (Nat.lt_of_lt_of_le (Heap.lt_size (g.sub _ _ r1)) hsz)
    have kp : ∀ b o, s.heap.get? b = some o → (h'.push { cls := .type "function", data := .func (fnX name qual params body scope clos .none .none doc ((D.mg "__name__").getD .none) none (.ref c') ctv) }).get? b = some o := fun b o e => Heap.get?_push_of_some _ (hk b o e)
    obtain ⟨g', x'⟩ := g.keeps (k := tk) kp
    have gn : G h'.objs.size = none := by
      cases q : G h'.objs.size with
      | none => rfl
      | some o => exact absurd (Heap.lt_size (g.sub _ _ q)) (Nat.not_lt.mpr hsz)
    have ef := Heap.get?_push_size h' (o := { cls := .type "function", data := .func (fnX name qual params body scope clos .none .none doc ((D.mg "__name__").getD .none) none (.ref c') ctv) }) rfl
    have hs0 : s.heap.get? h'.objs.size = none := Heap.get?_ge hsz
    have g2 := g'.freeze ef gn (g'.notTab ef (fun _ q => by cases q))
    have x2 := x'.freeze (d := h'.objs.size) (o := { cls := .type "function", data := .func (fnX name qual params body scope clos .none .none doc ((D.mg "__name__").getD .none) none (.ref c') ctv) }) gn hs0
    refine hQ _ _ _ x2 g2 (VR.fn_iff.mpr ⟨_, rfl, _, _, PO.add_self .., rfl, rfl, rfl, rfl, rfl, rfl, rfl, rfl, rfl, rfl, c', oc, vs, t, rfl, PO.le_add gn _ _ r1, r2, r3⟩)

theorem Exs.defn {ss : List Stmt} {cA P : Addr} {pos : Pos} {name : Str} {params : Arguments} {body : List Stmt} {scope : Scope} {i : Nat} {k : VK} {qual : Str} (gd : GD D) (hq : (P, pos, qual) ∈ D.ti) (hnd : (D.ti.map (·.1)).Nodup)
    (hcd : c.env.code = .ref cA) (C : CodeHd D.h₀ cA P) (hB : D.h₀.BuiltinsAt D.mg P) (hf : okFree c.names c.kinds scope.names = true) (hqn0 : c.env.qual ++ name = qual)
    (hx : c.names[i]? = some name) (hk : c.kinds[i]? = some k) (hne : k ≠ .ext)
    (hd0 : params.defaults = []) (hk0 : params.kw_defaults = []) (ha : annTrees params none c.env = [])
    (t : ∀ clos : List (Str × Addr), (∀ x ∈ freeNames scope.names, clos.lookup x = c.env.cells.lookup x) → Exs c (ρ.set i (some (.val (.fn params (.stmts body) scope clos qual)))) ss o) :
    Exs c ρ (.FunctionDef name params body [] none [] scope none name pos :: ss) o := .mk fun G s E S => by
  obtain ⟨cl, e1, e2⟩ := closureFor_of (env := c.env) (scope := scope) fun x hx => by
    obtain ⟨f1, k', f2, f3⟩ := okFree_get hf (freeNames_mem.mp hx)
    obtain ⟨a, _, e1, _⟩ := S.cel _ x k' f1 f2 f3
    exact ⟨a, e1⟩
  have hqn : qualnameIn c.env name name = qual := by
    unfold qualnameIn
    have : c.env.kindOf name = some .local ∨ c.env.kindOf name = some .cell := by
      cases k with
      | loc => exact .inl (S.wf.kloc i name hx hk)
      | own => exact .inr (S.wf.kown i name hx hk)
      | ext => exact absurd rfl hne
    rcases this with q | q <;> rw [q] <;> exact hqn0
  refine wpAny_execs_cons (nestDef_K hd0 hk0 ha ?_)
  rw [hqn]
  refine make_fn gd S hq hnd hcd C hB e1 fun v s₁ G₁ x₁ g₁ r₁ => ?_
  refine (S.step x₁ g₁).store (sl := .val (.fn params (.stmts body) scope cl qual)) hx hk hne r₁ fun s' S' x' => ?_
  exact wpAny_mono ((t cl e2).run G₁ s' E S') (fun f s'' p => p.after ((x₁.stp g₁).trans x'.stp)) fun _ _ e => e
end
end Mine
/-! PI21 -/
namespace Mine
section
variable {D : Wd} {c : Cx D} {A : Around} {ρ ρ' ρ'' ρ0 ρ1 : Ro} {G G' G0 Ga G₁ G₂ G₃ : PO} {s s' s0 sa s₁ s₂ s₃ : Shared} {h h' : Heap} {o : Out}

/-! ### calls of functions that have a closure -/
noncomputable def CellsAt (D : Wd) (clos : List (Str × Addr)) (xs : List (Str × V)) (G : PO) (s : Shared) : Prop := ∀ p ∈ xs, ∃ a v, clos.lookup p.1 = some a ∧ s.heap.IsCell a (some v) ∧ VR D G p.2 v
theorem CellsAt.step {clos : List (Str × Addr)} {xs : List (Str × V)} (h : CellsAt D clos xs G s) (g : GOK D G s) (x : Ext D.tabs G s G' s') : CellsAt D clos xs G' s' := fun p hp => by
  obtain ⟨a, v, e1, ⟨oc, ec, dc⟩, r⟩ := h p hp
  exact ⟨a, v, e1, ⟨oc, x.keep a oc (g.notTab ec fun vs q => by rw [dc] at q; cases q) ec, dc⟩, r.mono x.le⟩
noncomputable def CallV (D : Wd) (A : Around) (fv : V) (clos : List (Str × Addr)) (xs : List (Str × V)) (l : List V) (a : V) : Prop :=
  ∀ G s E v vs, GOK D G s → VR D G fv v → VRs D G l vs → CellsAt D clos xs G s → wpAny D.M A (call v vs) (Post D G s a) E s
noncomputable def ClosOk {D : Wd} (c : Cx D) (ρ : Ro) (clos : List (Str × Addr)) (xs : List (Str × V)) : Prop := ∀ p ∈ xs, ∃ (i : Nat) (k : VK), c.names[i]? = some p.1 ∧ c.kinds[i]? = some k ∧ k ≠ .loc ∧ ρ[i]? = some (some (.val p.2)) ∧ clos.lookup p.1 = c.env.cells.lookup p.1
theorem ClosOk.at {clos : List (Str × Addr)} {xs : List (Str × V)} (h : ClosOk c ρ clos xs) (S : St c ρ G s) : CellsAt D clos xs G s := fun p hp => by
  obtain ⟨i, k, h1, h2, h3, h4, h5⟩ := h p hp
  obtain ⟨a, v0, e1, e2, _, e5⟩ := S.cel i p.1 k h1 h2 h3
  obtain ⟨v, rfl, r⟩ := e5 _ h4
  exact ⟨a, v, h5.trans e1, e2, r⟩
theorem FnP.kpr {f : Addr} {ps : Arguments} {b : FuncBody} {sc : Scope} {cl : List (Str × Addr)} {q : Str} (g : GOK D G s) (x : FnP G f ps b sc cl q) : Looks D.M s.heap (keeperOf (.ref f)) .frame := by
  obtain ⟨o, fd, e, d, _⟩ := x
  exact (Looks.ld (part := none) (g.sub _ _ e)).andThen (by rw [d]; exact .now)
theorem Ev.callV {x : Str} {np pos : Pos} {e : Expr} {es : List Expr} {ps : Arguments} {b : FuncBody} {sc : Scope} {cl clos : List (Str × Addr)} {q : Str} {xs : List (Str × V)} {l : List V} {a : V} (hn : Ev c ρ (.Name x np) (.fn ps b sc cl q)) (hl : EvL c ρ (e :: es) l) (hcx : ClosOk c ρ clos xs) (hc : CallV D c.A (.fn ps b sc cl q) clos xs l a)
    (hp : ∀ pos env, (backTo pos (starEach (e :: es) env)).any (·.1) = false := by intro _ _; rfl) : Ev c ρ (.Call (.Name x np) (e :: es) [] pos) a := .mk fun G s E S => by
  refine wpAny_Call_NameR (hn.mono S fun v s₁ G₁ x₁ g₁ r₁ => ?_)
  have S₁ := S.step x₁ g₁
  obtain ⟨f, rfl, F⟩ := VR.fn_iff.mp r₁
  refine callWith_of (P := fun h => ∃ o fd, h.get? f = some o ∧ o.data = .func fd) (by rw [hp]; rfl) (fun h ⟨o, fd, e, d⟩ => ⟨.frame, .inl rfl, (Looks.ld (part := none) e).andThen (by rw [d]; exact .now)⟩) ?_
  have key : wpAny D.M c.A (spliced (backTo pos (starEach (e :: es) c.env))) (fun vs s' => (∃ o fd, s'.heap.get? f = some o ∧ o.data = .func fd) ∧ wpAny D.M c.A (PySem.call (.ref f) ([] ++ vs)) (Post D G s a) E s') E s₁ :=
    wpAny_mono (hl.run pos G₁ s₁ E S₁) (fun vs s₂ ⟨G₂, x₂, g₂, r₂⟩ => by
      have F2 := F.mono x₂.le
      obtain ⟨o, fd, e, d, _⟩ := id F2
      exact ⟨⟨o, fd, g₂.sub _ _ e, d⟩, wpAny_mono (hc G₂ s₂ E (.ref f) vs g₂ (VR.fn_iff.mpr ⟨f, rfl, F2⟩) r₂ ((hcx.at S₁).step g₁ x₂)) (fun v s' p => (p.after x₂ g₂).after x₁ g₁) fun _ _ e => e⟩) fun _ _ e => e
  have hs : ∃ t, backTo pos (starEach (e :: es) c.env) = (false, t) :: backTo pos (starEach es c.env) := by
    have := hp pos c.env
    cases e <;> first
      | exact ⟨_, rfl⟩
      | (exfalso; simp [starEach, backTo] at this)
  obtain ⟨t, ht⟩ := hs
  rw [ht] at key ⊢
  exact evalArgs_plain key

structure FnC {D : Wd} (c : Cx D) (A : Around) (l : List (Str × NameKind)) (clos : List (Str × Addr)) : Prop where
  fn : Fn c A l
  cells : ∀ x, x ∉ ownCells l → c.env.cells.lookup x = clos.lookup x

noncomputable def extRo (l : List (Str × NameKind)) (xs : List (Str × V)) : Ro := (nk l).map fun p => if p.2 = .ext then (xs.lookup p.1).map Slot.val else none
theorem CallV.of {ps : Arguments} {body : List Stmt} {sc : Scope} {clos : List (Str × Addr)} {q : Str} {xs : List (Str × V)} {pn : List Str} {l : List V} {a : V} (gd : GD D) (hh : A.handled = none) (hroom : A.depth < recursionLimit) (hl : pn.length = l.length)
    (hbind : ∀ fd : FuncData, fd.params = ps → fd.defaults = .none → fd.kwdefaults = .none → ∀ vs : List Value, vs.length = pn.length → bindArgs fd ⟨vs, []⟩ = pure (pn.zip vs))
    (hb : ∀ c : Cx D, FnC c A sc.names clos → Exs c (bindRo sc.names (extRo sc.names xs) (pn.zip l)) body (.ret a))
    (ho : okNames sc.names = true) (hp : okBinds sc.names pn = true) (hk : sc.kind = .function) (hxs : ∀ x, (x, NameKind.free) ∈ sc.names → ∃ a, xs.lookup x = some a)
    (hco : sc.isCoroutine = false) (hgen : sc.isGenerator = false) : CallV D A (.fn ps (.stmts body) sc clos q) clos xs l a := by
  intro G s E v vs g rf r hcl
  obtain ⟨f, rfl, ob, fd, e, ed, a1, a2, a3, a4, a5, a6, a7, a8, a9, c', oc, vc, t, b1, b2, b3, b4⟩ := VR.fn_iff.mp rf
  refine wpAny_call ?_
  refine codeAny_call_function (fd := fd) hroom (g.sub _ _ e) ed (by rw [a3]; exact hco) (by rw [a3]; exact hgen) a2 ⟨c', oc, vc, t, b1, g.sub _ _ b2, b3, by rw [a5]; exact b4⟩ ?_
  rw [hbind fd a1 a8 a9 vs (by rw [← r.length, hl]), a3, a6, a7, a4]
  have lk : ∀ {x : Str} {b : V}, xs.lookup x = some b → (x, b) ∈ xs := fun {x b} h => by
    clear hcl hb hxs
    induction xs with
    | nil => cases h
    | cons y ys ih =>
      obtain ⟨y1, y2⟩ := y
      rw [List.lookup_cons] at h
      by_cases z : (x == y1) = true
      · rw [z] at h; cases h
        rw [show x = y1 by simpa using z]; exact .head _
      · rw [show (x == y1) = false by simpa using z] at h; exact .tail _ (ih h)
  have hn : (sc.names.map (·.1)).Nodup := by unfold okNames at ho; simp only [Bool.and_eq_true, decide_eq_true_eq] at ho; exact ho.1
  have exg : ∀ (i : Nat) sl, (extRo sc.names xs)[i]? = some (some sl) → ∃ x b, (nk sc.names)[i]? = some (x, .ext) ∧ xs.lookup x = some b ∧ sl = .val b := fun i sl h => by
    unfold extRo at h
    rw [List.getElem?_map] at h
    cases e : (nk sc.names)[i]? with
    | none => rw [e] at h; cases h
    | some p =>
      rw [e] at h
      obtain ⟨x, k⟩ := p
      simp only [Option.map_some] at h
      by_cases hk : k = .ext
      · subst hk
        simp only [if_true] at h
        cases q : xs.lookup x with
        | none => rw [q] at h; cases h
        | some b => rw [q] at h; cases h; exact ⟨x, b, rfl, q, rfl⟩
      · rw [if_neg hk] at h; cases h
  refine wpAny_pure (newEnv_fn (D := D) (A := A) (G0 := G) (s0 := s) (ρ := extRo sc.names xs) hp hl r (fun k => fn_frame (Ext.refl ..) g hh ho hk (by simp [extRo]) (fun i x h1 h2 => ?_) (fun i sl h => ?_)) fun s' S' => ?_)
  · have hm := nk_get h1 h2
    have hm2 : (x, NameKind.free) ∈ sc.names := by rcases nk_mem hm with ⟨q, _⟩ | ⟨q, _⟩ | ⟨_, q⟩ <;> first | (cases q; done) | exact q
    obtain ⟨b, hb2⟩ := hxs x hm2
    obtain ⟨ad, v, e1, e2, e3⟩ := hcl _ (lk hb2)
    refine ⟨ad, some v, e1, e2, fun sl h3 => ⟨v, rfl, ?_⟩⟩
    obtain ⟨x', b', q1, q2, rfl⟩ := exg i sl h3
    have : x' = x := by
      have := h1
      unfold nkN at this
      rw [List.getElem?_map, q1] at this
      exact Option.some.inj this
    subst this
    rw [hb2] at q2; cases q2
    exact e3
  · obtain ⟨x', b', q1, _, _⟩ := exg i sl h
    unfold nkK
    rw [List.getElem?_map, q1]; rfl
  · refine ⟨gd.lim.keeps S'.ok.base', codeAny_func ?_⟩
    have hx := hb _ ⟨fnCx_fn (D := D) (A := A) (scope := sc) (cl := clos) (L := s.heap.objs.size) (qual := fd.qualname ++ ".<locals>.") (fa := f) (code := fd.code) (G0 := G) (s0 := s) hh hk, fun x hx => cellsFrom_other _ _ _ _ hx⟩
    refine wpAny_mono (hx.run G s' _ S') (fun fl s₂ p => ?_) fun _ _ e => e
    obtain ⟨v, rfl, G₂, ρ₂, S₂, _, rv⟩ := p
    exact ⟨G₂, S₂.ext, S₂.ok, rv⟩
end
end Mine
/-! PI22 -/
namespace Mine
section
variable {D : Wd} {c : Cx D} {A : Around} {ρ ρ' ρ'' ρ0 ρ1 : Ro} {G G' G0 Ga G₁ G₂ G₃ : PO} {s s' s0 sa s₁ s₂ s₃ : Shared} {h h' : Heap} {o : Out}

/-! ### a closure that writes the own list of the frame around it -/
theorem St.ownExt (S : St c ρ G s) {i : Nat} {x : Str} {k : VK} {a a' : V} {ad d : Addr} (hx : c.names[i]? = some x) (hk : c.kinds[i]? = some k) (hkl : k ≠ .loc) (hr : ρ[i]? = some (some (.own a))) (hso : Sole ρ i)
    (hc : c.env.cells.lookup x = some ad) (hcell : s.heap.IsCell ad (some (.ref d))) (y : Ext (d :: D.tabs) G s G' s') (g : GOK D G' s') (gd : G' d = none) (od : OwnR D G' s'.heap d a') :
    St c (ρ.set i (some (.own a'))) G' s' ∧ Stp D G s G' s' := by
  obtain ⟨ad', v0, e1, e2, e3, e5⟩ := S.cel i x k hx hk hkl
  rw [hc] at e1; cases e1
  obtain ⟨v, rfl, d', rfl, gd0, nd, dL, dsm, ow⟩ := e5 _ hr
  obtain ⟨oc, ec, dc⟩ := id hcell
  obtain ⟨oc', ec', dc'⟩ := e2
  rw [ec] at ec'; cases ec'
  rw [dc] at dc'; cases dc'
  obtain ⟨ob, eb, nf, nc⟩ := ow.data
  have kp : ∀ b o, b ≠ d → s.heap.get? b = some o → (∀ vs, o.data ≠ .fields vs) → s'.heap.get? b = some o := fun b o hb e hn => y.keep b o (fun q => by
    rcases List.mem_cons.mp q with q | q
    · exact hb q
    · exact S.ok.notTab e hn q) e
  have hs : SlotR c G' s'.heap (.own a') (.ref d) := ⟨d, rfl, gd, nd, dL, dsm, od⟩
  obtain ⟨m, hm, hl⟩ := S.loc
  obtain ⟨oL, eL, nL, _⟩ := Heap.Ns.data hm
  have offL : G' c.env.locals = none := by
    cases q : G' c.env.locals with
    | none => rfl
    | some _ => rw [y.fresh _ S.offL (by rw [q]; simp)] at eL; cases eL
  have ext : Ext D.tabs c.G0 c.s0 G' s' := by
    obtain ⟨h1, tk, q1⟩ := S.ext.same
    obtain ⟨h2, tk2, q2⟩ := y.same
    refine ⟨⟨h2, tk2, by rw [q2, q1]⟩, fun b o e => y.le b o (S.ext.le b o e), fresh_trans (S.ext.live S.ok) S.ext.fresh y.fresh, fun b o hb e => y.keep b o (fun q => ?_) (S.ext.keep b o hb e)⟩
    rcases List.mem_cons.mp q with rfl | q
    · rw [nd] at e; cases e
    · exact hb q
  refine ⟨⟨S.wf, ext, g, S.newL, offL, ⟨m, hm.at' fun o e => kp _ o (Ne.symm dL) e (by rw [eL] at e; cases e; exact nL), fun j z sl h1 h2 h3 => ?_⟩, fun j z kj h1 h2 h3 => ?_, S.apart⟩, ?_⟩
  · rcases get_set h3 with ⟨rfl, rfl⟩ | ⟨hij, h3⟩
    · rw [hk] at h2; cases h2; exact absurd rfl hkl
    · obtain ⟨v, e, r⟩ := hl j z sl h1 h2 h3
      cases sl with
      | val a => exact ⟨v, e, VR.mono y.le r⟩
      | own a => exact absurd h3 (hso j a (Ne.symm hij))
  · obtain ⟨ac, v0, f1, ⟨o2, f2, f3⟩, f4, f5⟩ := S.cel j z kj h1 h2 h3
    have nf' : ∀ vs, o2.data ≠ .fields vs := fun vs q => by rw [f3] at q; cases q
    have hne : ac ≠ d := fun q => by rw [q, eb] at f2; cases f2; exact nc _ f3
    refine ⟨ac, v0, f1, ⟨o2, kp _ _ hne f2 nf', f3⟩, fun q => ⟨(f4 q).1, ?_⟩, fun sl h4 => ?_⟩
    · cases q' : G' ac with
      | none => rfl
      | some _ => rw [y.fresh _ (f4 q).2 (by rw [q']; simp)] at f2; cases f2
    · rcases get_set h4 with ⟨rfl, rfl⟩ | ⟨hij, h4⟩
      · rw [hx] at h1; cases h1
        rw [hc] at f1; cases f1
        rw [ec] at f2; cases f2
        rw [dc] at f3; cases f3
        exact ⟨_, rfl, hs⟩
      · obtain ⟨v, h5, r⟩ := f5 sl h4
        cases sl with
        | val a => exact ⟨v, h5, VR.mono y.le r⟩
        | own a => exact absurd h4 (hso j a (Ne.symm hij))
  · obtain ⟨h2, tk2, q2⟩ := y.same
    obtain ⟨o', e', _, _⟩ := od.data
    refine ⟨⟨h2, tk2, q2⟩, y.le, fun b o vs n hb e hd => ?_, fun b o vs hb e hd => y.keep b o (fun q => ?_) e, fun b o e => ?_⟩
    · cases q : G' b with
      | none => rfl
      | some _ => rw [y.fresh b n (by rw [q]; simp)] at e; cases e
    · rcases List.mem_cons.mp q with rfl | q
      · rw [eb] at e; cases e; exact nf _ hd
      · exact hb q
    · by_cases q : b = d
      · exact ⟨o', q ▸ e'⟩
      · by_cases hb : b ∈ D.tabs
        · cases z : s'.heap.get? b with
          | some o2 => exact ⟨o2, rfl⟩
          | none => exact absurd z (g.alive hb)
        · exact ⟨o, y.keep b o (fun z => by
            rcases List.mem_cons.mp z with z | z
            · exact q z
            · exact hb z) e⟩

noncomputable def CallW (D : Wd) (A : Around) (fv : V) (clos : List (Str × Addr)) (xs : List (Str × V)) (dn : Str) (l : List V) (a a' : V) : Prop :=
  ∀ G s E v vs ad d, GOK D G s → VR D G fv v → VRs D G l vs → CellsAt D clos xs G s → clos.lookup dn = some ad → s.heap.IsCell ad (some (.ref d)) → G d = none → d ≠ sysModules → OwnR D G s.heap d a →
    wpAny D.M A (call v vs) (fun r s' => ∃ G', Ext (d :: D.tabs) G s G' s' ∧ GOK D G' s' ∧ G' d = none ∧ OwnR D G' s'.heap d a') E s
theorem Ex.callW {x dn : Str} {np pos sp : Pos} {e : Expr} {es : List Expr} {ps : Arguments} {b : FuncBody} {sc : Scope} {cl clos : List (Str × Addr)} {q : Str} {xs : List (Str × V)} {l : List V} {a a' : V} {i : Nat} {k : VK}
    (hn : Ev c ρ (.Name x np) (.fn ps b sc cl q)) (hl : EvL c ρ (e :: es) l) (hcx : ClosOk c ρ clos xs)
    (hx : c.names[i]? = some dn) (hk : c.kinds[i]? = some k) (hkl : k ≠ .loc) (hr : ρ[i]? = some (some (.own a))) (hso : Sole ρ i) (hdl : clos.lookup dn = c.env.cells.lookup dn) (hi : interactive c.env = false)
    (hc : CallW D c.A (.fn ps b sc cl q) clos xs dn l a a')
    (hp : ∀ pos env, (backTo pos (starEach (e :: es) env)).any (·.1) = false := by intro _ _; rfl) : Ex c ρ (.Expr (.Call (.Name x np) (e :: es) [] pos) sp) (.next (ρ.set i (some (.own a')))) := .mk fun G s E S => by
  refine wpAny_Expr_any ?_ hi rfl
  refine wpAny_Call_NameR (hn.mono S fun v s₁ G₁ x₁ g₁ r₁ => ?_)
  have S₁ := S.step x₁ g₁
  obtain ⟨f, rfl, F⟩ := VR.fn_iff.mp r₁
  refine callWith_of (P := fun h => ∃ o fd, h.get? f = some o ∧ o.data = .func fd) (by rw [hp]; rfl) (fun h ⟨o, fd, e, d⟩ => ⟨.frame, .inl rfl, (Looks.ld (part := none) e).andThen (by rw [d]; exact .now)⟩) ?_
  have key : wpAny D.M c.A (spliced (backTo pos (starEach (e :: es) c.env))) (fun vs s' => (∃ o fd, s'.heap.get? f = some o ∧ o.data = .func fd) ∧ wpAny D.M c.A (PySem.call (.ref f) ([] ++ vs)) (fun _ s' => OutP c G s (.next (ρ.set i (some (.own a')))) .next s') E s') E s₁ :=
    wpAny_mono (hl.run pos G₁ s₁ E S₁) (fun vs s₂ ⟨G₂, x₂, g₂, r₂⟩ => by
      have F2 := F.mono x₂.le
      obtain ⟨o, fd, e, d, _⟩ := id F2
      have S₂ := S₁.step x₂ g₂
      obtain ⟨ad, v0, e1, e2, e3, e5⟩ := S₂.cel i dn k hx hk hkl
      obtain ⟨v, rfl, dd, rfl, gd0, nd, dL, dsm, ow⟩ := e5 _ hr
      refine ⟨⟨o, fd, g₂.sub _ _ e, d⟩, wpAny_mono (hc G₂ s₂ E (.ref f) vs ad dd g₂ (VR.fn_iff.mpr ⟨f, rfl, F2⟩) r₂ ((hcx.at S₁).step g₁ x₂) (hdl.trans e1) e2 gd0 dsm ow) (fun r s' p => ?_) fun _ _ e => e⟩
      obtain ⟨G', y, g', gd', od'⟩ := p
      obtain ⟨S', z⟩ := S₂.ownExt hx hk hkl hr hso e1 e2 y g' gd' od'
      exact ⟨rfl, G', S', ((x₁.stp g₁).trans (x₂.stp g₂)).trans z⟩) fun _ _ e => e
  have hs : ∃ t, backTo pos (starEach (e :: es) c.env) = (false, t) :: backTo pos (starEach es c.env) := by
    have := hp pos c.env
    cases e <;> first
      | exact ⟨_, rfl⟩
      | (exfalso; simp [starEach, backTo] at this)
  obtain ⟨t, ht⟩ := hs
  rw [ht] at key ⊢
  exact evalArgs_plain key
theorem Ex.retN {pos : Pos} : Ex c ρ (.Return none pos) (.done ρ .none) := .mk fun G s E S => wpAny_Return_none ⟨.none, rfl, G, S, Stp.refl .., VR.none_iff.mpr rfl⟩

theorem CallW.of {ps : Arguments} {body : List Stmt} {sc : Scope} {clos : List (Str × Addr)} {q dn : Str} {xs : List (Str × V)} {pn : List Str} {l : List V} {a a' : V} {i : Nat} (gd : GD D) (hh : A.handled = none) (hroom : A.depth < recursionLimit) (hl : pn.length = l.length)
    (hbind : ∀ fd : FuncData, fd.params = ps → fd.defaults = .none → fd.kwdefaults = .none → ∀ vs : List Value, vs.length = pn.length → bindArgs fd ⟨vs, []⟩ = pure (pn.zip vs))
    (hi : (nkN sc.names)[i]? = some dn) (hik : (nkK sc.names)[i]? = some .ext)
    (hb : ∀ c : Cx D, FnC c A sc.names clos → ∃ o, (∃ ρ', ρ'[i]? = some (some (.own a')) ∧ (o = .next ρ' ∨ ∃ b, o = .done ρ' b)) ∧ Exs c (bindRo sc.names ((extRo sc.names xs).set i (some (.own a))) (pn.zip l)) body o)
    (ho : okNames sc.names = true) (hp : okBinds sc.names pn = true) (hk : sc.kind = .function) (hxs : ∀ x, (x, NameKind.free) ∈ sc.names → x ≠ dn → ∃ a, xs.lookup x = some a)
    (hco : sc.isCoroutine = false) (hgen : sc.isGenerator = false) : CallW D A (.fn ps (.stmts body) sc clos q) clos xs dn l a a' := by
  intro G s E v vs ad d g rf r hcl hdn hcell gd0 dsm ow
  obtain ⟨f, rfl, ob, fd, e, ed, a1, a2, a3, a4, a5, a6, a7, a8, a9, c', oc, vc, t, b1, b2, b3, b4⟩ := VR.fn_iff.mp rf
  obtain ⟨od, eod, nfd, ncd⟩ := ow.data
  refine wpAny_call ?_
  refine codeAny_call_function (fd := fd) hroom (g.sub _ _ e) ed (by rw [a3]; exact hco) (by rw [a3]; exact hgen) a2 ⟨c', oc, vc, t, b1, g.sub _ _ b2, b3, by rw [a5]; exact b4⟩ ?_
  rw [hbind fd a1 a8 a9 vs (by rw [← r.length, hl]), a3, a6, a7, a4]
  have dnt := g.notTab eod nfd
  -- the frame starts from the state without the list
  have h0 : ∀ b o, b ≠ d → s.heap.get? b = some o → (hideAll s.heap [d]).get? b = some o := fun b o hb e => hideAll_get [d] e (by simpa using hb)
  have hd0 : (hideAll s.heap [d]).get? d = none := hideAll_none [d] (.head _)
  have x0 : Ext D.tabs G { s with heap := hideAll s.heap [d] } G s := ⟨⟨s.heap, s.toks, rfl⟩, fun _ _ e => e, fun _ n n' => absurd n n', fun b o _ e => of_hideAll [d] e⟩
  have lk : ∀ {x : Str} {b : V}, xs.lookup x = some b → (x, b) ∈ xs := fun {x b} h => by
    clear hcl hb hxs
    induction xs with
    | nil => cases h
    | cons y ys ih =>
      obtain ⟨y1, y2⟩ := y
      rw [List.lookup_cons] at h
      by_cases z : (x == y1) = true
      · rw [z] at h; cases h
        rw [show x = y1 by simpa using z]; exact .head _
      · rw [show (x == y1) = false by simpa using z] at h; exact .tail _ (ih h)
  have hn : (sc.names.map (·.1)).Nodup := by unfold okNames at ho; simp only [Bool.and_eq_true, decide_eq_true_eq] at ho; exact ho.1
  have exg : ∀ (i : Nat) sl, (extRo sc.names xs)[i]? = some (some sl) → ∃ x b, (nk sc.names)[i]? = some (x, .ext) ∧ xs.lookup x = some b ∧ sl = .val b := fun i sl h => by
    unfold extRo at h
    rw [List.getElem?_map] at h
    cases e : (nk sc.names)[i]? with
    | none => rw [e] at h; cases h
    | some p =>
      rw [e] at h
      obtain ⟨x, k⟩ := p
      simp only [Option.map_some] at h
      by_cases hk : k = .ext
      · subst hk
        simp only [if_true] at h
        cases q : xs.lookup x with
        | none => rw [q] at h; cases h
        | some b => rw [q] at h; cases h; exact ⟨x, b, rfl, q, rfl⟩
      · rw [if_neg hk] at h; cases h
  have dsz : d ≠ s.heap.objs.size := Nat.ne_of_lt (Heap.lt_size eod)
  have exs : ∀ (j : Nat) sl, ((extRo sc.names xs).set i (some (.own a)))[j]? = some (some sl) → (i = j ∧ sl = .own a) ∨ (i ≠ j ∧ (extRo sc.names xs)[j]? = some (some sl)) := fun j sl h => get_set h
  refine wpAny_pure (newEnv_fn (D := D) (A := A) (G0 := G) (s0 := { s with heap := hideAll s.heap [d] }) (ρ := (extRo sc.names xs).set i (some (.own a))) hp hl r (fun k => fn_frame x0 g hh ho hk (by simp [extRo]) (fun j x h1 h2 => ?_) (fun j sl h => ?_)) fun s' S' => ?_)
  · have hm := nk_get h1 h2
    have hm2 : (x, NameKind.free) ∈ sc.names := by rcases nk_mem hm with ⟨q, _⟩ | ⟨q, _⟩ | ⟨_, q⟩ <;> first | (cases q; done) | exact q
    by_cases hij : j = i
    · subst hij
      rw [hi] at h1; cases h1
      refine ⟨ad, _, hdn, hcell, fun sl h3 => ?_⟩
      rcases exs j sl h3 with ⟨_, rfl⟩ | ⟨q, _⟩
      · exact ⟨_, rfl, d, rfl, gd0, hd0, dsz, dsm, ow⟩
      · exact absurd rfl q
    · have hxd : x ≠ dn := fun q => hij (nodup_idx (nk_nodup hn) (q ▸ h1) hi)
      obtain ⟨b, hb2⟩ := hxs x hm2 hxd
      obtain ⟨ad', v, e1, e2, e3⟩ := hcl _ (lk hb2)
      refine ⟨ad', some v, e1, e2, fun sl h3 => ⟨v, rfl, ?_⟩⟩
      rcases exs j sl h3 with ⟨q, _⟩ | ⟨_, h3⟩
      · exact absurd q.symm hij
      · obtain ⟨x', b', q1, q2, rfl⟩ := exg j sl h3
        have : x' = x := by
          have := h1
          unfold nkN at this
          rw [List.getElem?_map, q1] at this
          exact Option.some.inj this
        subst this
        rw [hb2] at q2; cases q2
        exact e3
  · rcases exs j sl h with ⟨rfl, _⟩ | ⟨_, h⟩
    · exact hik
    · obtain ⟨x', b', q1, _, _⟩ := exg j sl h
      unfold nkK
      rw [List.getElem?_map, q1]; rfl
  · refine ⟨gd.lim.keeps S'.ok.base', codeAny_func ?_⟩
    obtain ⟨o, ⟨ρ', hρ, hoo⟩, hx⟩ := hb _ ⟨fnCx_fn (D := D) (A := A) (scope := sc) (cl := clos) (L := s.heap.objs.size) (qual := fd.qualname ++ ".<locals>.") (fa := f) (code := fd.code) (G0 := G) (s0 := { s with heap := hideAll s.heap [d] }) hh hk, fun x hx => cellsFrom_other _ _ _ _ hx⟩
    have fin : ∀ G₂ s₂, St (fnCx D A sc clos s.heap.objs.size (fd.qualname ++ ".<locals>.") f fd.code G { s with heap := hideAll s.heap [d] }) ρ' G₂ s₂ → ∃ G', Ext (d :: D.tabs) G s G' s₂ ∧ GOK D G' s₂ ∧ G' d = none ∧ OwnR D G' s₂.heap d a' := fun G₂ s₂ S₂ => by
      obtain ⟨ac, v0, f1, ⟨o2, f2, f3⟩, f4, f5⟩ := S₂.cel i dn .ext hi hik (by decide)
      have hno : dn ∉ ownCells sc.names := fun z => by
        have h1 := lookup_of_nodup hn (ownCells_mem.mp z)
        have hm := nk_get hi hik
        rcases nk_mem hm with ⟨z2, _⟩ | ⟨z2, _⟩ | ⟨_, z2⟩
        · cases z2
        · cases z2
        · rw [lookup_of_nodup hn z2] at h1; cases h1
      have hac : ac = ad := by
        have h1 : (cellsFrom (s.heap.objs.size + 1) sc.names clos).lookup dn = some ac := f1
        rw [cellsFrom_other _ _ _ _ hno, hdn] at h1
        exact (Option.some.inj h1).symm
      subst hac
      obtain ⟨v, rfl, d', rfl, gd', nd', _, _, ow'⟩ := f5 _ hρ
      obtain ⟨oc1, ec1, dc1⟩ := hcell
      have hacd : ac ≠ d := fun z => by rw [z, eod] at ec1; cases ec1; exact ncd _ dc1
      have : s₂.heap.get? ac = some oc1 := S₂.ext.keep ac oc1 (g.notTab ec1 fun vs z => by rw [dc1] at z; cases z) (h0 ac oc1 hacd ec1)
      rw [f2] at this; cases this
      rw [f3] at dc1; cases dc1
      obtain ⟨h2, tk2, z2⟩ := S₂.ext.same
      refine ⟨G₂, ⟨⟨h2, tk2, z2⟩, S₂.ext.le, fun b n n' => ?_, fun b o hb e => S₂.ext.keep b o (fun z => hb (.tail _ z)) (h0 b o (fun z => hb (z ▸ .head _)) e)⟩, S₂.ok, gd', ow'⟩
      have h3 : (hideAll s.heap [d]).get? b = none := S₂.ext.fresh b n n'
      cases z : s.heap.get? b with
      | none => rfl
      | some o => rw [h0 b o (fun z2 => n' (z2 ▸ gd')) z] at h3; cases h3
    refine wpAny_mono (hx.run G s' _ S') (fun fl s₂ p => ?_) fun _ _ e => e
    rcases hoo with rfl | ⟨b, rfl⟩
    · obtain ⟨rfl, G₂, S₂, _⟩ := p
      exact fin G₂ s₂ S₂
    · obtain ⟨v, rfl, G₂, S₂, _, rv⟩ := p
      exact fin G₂ s₂ S₂
end
end Mine
/-! PI23 -/
namespace Mine
structure ClsF (K : Frag) (C : Addr) : Prop where
  ga : findIn K (.ref C) "__getattribute__" = some (some (.builtin "object.__getattribute__"))
  gt : findIn K (.ref C) "__getattr__" = some none
  hd : hasDictIn K C = true
  sa : findIn K (.ref C) "__setattr__" = some (some (.builtin "object.__setattr__"))
  po : plainOver K C = true
  mkd : makesIn K C = true
section
variable {D : Wd} {c : Cx D} {A : Around} {ρ ρ' ρ'' ρ0 ρ1 : Ro} {G G' G0 Ga G₁ G₂ G₃ : PO} {s s' s0 sa s₁ s₂ s₃ : Shared} {h h' : Heap} {o : Out} {K : Frag}

theorem InstP.at {x C : Addr} {fs : List Str} {us : List Value} (g : GOK D G s) (y : InstP G x C fs us) : ∃ dx es n, InstAt s.heap x (instObj C dx) C (some (dictOf es n)) ∧ (∀ f, f ∉ fs → getL f es = some none) ∧ ∀ (i : Nat) (f : Str) (u : Value), fs[i]? = some f → us[i]? = some u → getL f es = some (some u) := by
  obtain ⟨dx, es, n, e1, e2, _, e4, e5⟩ := y
  exact ⟨dx, es, n, ⟨g.sub _ _ e1, rfl, rfl, g.sub _ _ e2⟩, e4, e5⟩
noncomputable def HandV (D : Wd) (a : V) : Prop := ∀ G v, VR D G a v → handedIn v = true
theorem HandV.int {n : Int} : HandV D (.int n) := fun G v r => by obtain ⟨t, rfl⟩ := VR.int_iff.mp r; rfl
theorem HandV.bool {n : Bool} : HandV D (.bool n) := fun G v r => by cases VR.bool_iff.mp r; rfl
theorem HandV.str {n : Str} : HandV D (.str n) := fun G v r => by obtain ⟨t, rfl⟩ := VR.str_iff.mp r; rfl
theorem HandV.tup {l : List V} : HandV D (.tup l) := fun G v r => by obtain ⟨a, us, rfl, _⟩ := VR.tup_iff.mp r; rfl
theorem HandV.list {l : List V} : HandV D (.list l) := fun G v r => by obtain ⟨a, us, rfl, _⟩ := VR.list_iff.mp r; rfl

theorem Ev.attr {e : Expr} {name : Str} {pos : Pos} {C : Addr} {fs : List Str} {l : List V} {i : Nat} {a : V} {at' : Option Value} (X : K.In D.h₀) (CF : ClsF K C) (he : Ev c ρ e (.inst C fs l)) (hf : fs[i]? = some name) (ha : l[i]? = some a) (hv : HandV D a)
    (hk : findIn K (.ref C) name = some at') (hg : noGet K at' = true) (hbase : ∀ env, attributeBase e name env (eval e env) = eval e env) : Ev c ρ (.Attribute e name pos) a := .mk fun G s E S => by
  rw [arm_eval_Attribute, hbase]
  refine wpAny_bind (he.mono S fun v s₁ G₁ x₁ g₁ r₁ => wpAny_bind (wpAny_standAt (wpAny_bind (wpAny_holding ?_))))
  obtain ⟨x, us, rfl, hl, y, rs⟩ := VR.inst_iff.mp r₁
  obtain ⟨u, hu, ru⟩ := rs.get ha
  obtain ⟨dx, es, n, I, _, own⟩ := y.at g₁
  refine get_value (X.keeps g₁.base') I CF.ga (findObj_own CF.hd hk hg (own i name u hf hu)) (hv _ _ ru) (wpAny_bind (wpAny_letTemporaryGo (wpAny_pure ?_)))
  exact ⟨G₁, x₁.then g₁ (Ext.tok ..), g₁.tok _, ru⟩

theorem Ev.meth {ob e : Expr} {es : List Expr} {name : Str} {apos pos : Pos} {C f : Addr} {fs : List Str} {l la : List V} {a : V} (X : K.In D.h₀) (CF : ClsF K C) (he : Ev c ρ ob (.inst C fs l)) (hf : name ∉ fs)
    (hk : findIn K (.ref C) name = some (some (.ref f))) (ht : typeIn K (.ref f) = some (.type "function")) (hkp : Kpr D (.ref f)) (hl : EvL c ρ (e :: es) la) (hc : CallR D c.A (.ref f) (.inst C fs l :: la) a)
    (hp : ∀ pos env, (backTo pos (starEach (e :: es) env)).any (·.1) = false)
    (hcall : ∀ env, ∃ pl : Sem Bool, eval (.Call (.Attribute ob name apos) (e :: es) [] pos) env = (do
      let ov ← eval ob env
      standAt apos.atName
      let (f, first) ← holding [ov] (getMethod ov name pl)
      callWith pos f first (backTo pos (starEach (e :: es) env)) (backToKw pos (keywordEach [] env)))) : Ev c ρ (.Call (.Attribute ob name apos) (e :: es) [] pos) a := .mk fun G s E S => by
  obtain ⟨pl, hcall⟩ := hcall c.env
  refine methodCall_KW (name := name) (pl := pl) (he.mono S fun v s₁ G₁ x₁ g₁ r₁ => ?_) hcall
  obtain ⟨x, us, rfl, hl', y, rs⟩ := VR.inst_iff.mp r₁
  obtain ⟨dx, es', n, I, no, own⟩ := y.at g₁
  refine method_fn (X.keeps g₁.base') I CF.ga CF.gt hk ht (by show (lookIn name (dictOf es' n)).map _ = _; rw [lookIn_dict, no name hf]; rfl) ?_
  refine callWith_gen (S.step x₁ g₁) hkp hl (fun vs s₂ G₂ x₂ g₂ r₂ => ?_) (hp _)
  exact wpAny_mono (hc G₂ s₂ E _ g₂ (VRs.cons (r₁.mono x₂.le) r₂)) (fun v s' p => (p.after x₂ g₂).after x₁ g₁) fun _ _ e => e
theorem Ev.meth0 {ob : Expr} {name : Str} {apos pos : Pos} {C f : Addr} {fs : List Str} {l : List V} {a : V} (X : K.In D.h₀) (CF : ClsF K C) (he : Ev c ρ ob (.inst C fs l)) (hf : name ∉ fs)
    (hk : findIn K (.ref C) name = some (some (.ref f))) (ht : typeIn K (.ref f) = some (.type "function")) (hkp : Kpr D (.ref f)) (hc : CallR D c.A (.ref f) [.inst C fs l] a)
    (hcall : ∀ env, ∃ pl : Sem Bool, eval (.Call (.Attribute ob name apos) [] [] pos) env = (do
      let ov ← eval ob env
      standAt apos.atName
      let (f, first) ← holding [ov] (getMethod ov name pl)
      callWith pos f first (backTo pos (starEach [] env)) (backToKw pos (keywordEach [] env)))) : Ev c ρ (.Call (.Attribute ob name apos) [] [] pos) a := .mk fun G s E S => by
  obtain ⟨pl, hcall⟩ := hcall c.env
  refine methodCall_KW (name := name) (pl := pl) (he.mono S fun v s₁ G₁ x₁ g₁ r₁ => ?_) hcall
  obtain ⟨x, us, rfl, hl', y, rs⟩ := VR.inst_iff.mp r₁
  obtain ⟨dx, es', n, I, no, own⟩ := y.at g₁
  refine method_fn (X.keeps g₁.base') I CF.ga CF.gt hk ht (by show (lookIn name (dictOf es' n)).map _ = _; rw [lookIn_dict, no name hf]; rfl) ?_
  refine callWith_nil g₁ hkp ?_
  exact wpAny_mono (hc G₁ s₁ E _ g₁ (VRs.cons r₁ VRs.nil)) (fun v s' p => p.after x₁ g₁) fun _ _ e => e

/-! ### storing an attribute -/
theorem putL_length (name : Str) (hsh : Int) (key v : Value) : ∀ es : List DictEntry, (putL name hsh key v es).length ≤ es.length + 1
  | [] => by simp [putL]
  | a :: es => by
    have ih := putL_length name hsh key v es
    unfold putL
    split
    · simp
    · simp only [List.length_cons]; omega
theorem getL_ne {f : Str} {a : DictEntry} {l : List DictEntry} (h : a.key.isStr f = false) (r : a.refKey = false) : getL f (a :: l) = getL f l := by
  unfold getL
  rw [List.find?_cons, h, List.any_cons, r]; rfl
theorem getL_eq {f : Str} {a : DictEntry} {l : List DictEntry} (h : a.key.isStr f = true) : getL f (a :: l) = some (some a.val) := by
  unfold getL
  rw [List.find?_cons, h]
theorem getL_putL (name f : Str) (hsh : Int) (t : Tok) (v : Value) : ∀ es : List DictEntry, es.any (·.refKey) = false → getL f (putL name hsh (.str name t) v es) = (if f = name then some (some v) else getL f es) ∧ (putL name hsh (.str name t) v es).any (·.refKey) = false
  | [], _ => by
    unfold putL getL
    by_cases q : f = name
    · subst q; simp [Value.isStr, DictEntry.refKey]
    · simp [Value.isStr, DictEntry.refKey, q, Ne.symm q]
  | a :: es, h => by
    simp only [List.any_cons, Bool.or_eq_false_iff] at h
    obtain ⟨ih1, ih2⟩ := getL_putL name f hsh t v es h.2
    unfold putL
    by_cases hk : a.key.isStr name = true
    · rw [if_pos hk]
      have hr : (⟨a.hash, a.key, v⟩ : DictEntry).refKey = false := h.1
      refine ⟨?_, by rw [List.any_cons, hr, h.2]; rfl⟩
      by_cases q : f = name
      · subst q; rw [if_pos rfl]; exact getL_eq (a := ⟨a.hash, a.key, v⟩) hk
      · rw [if_neg q]
        have hf : a.key.isStr f = false := by
          obtain ⟨ah, ak, av⟩ := a
          cases ak <;> simp [Value.isStr] at hk ⊢
          rw [hk]; exact fun z => q z.symm
        rw [getL_ne (a := ⟨a.hash, a.key, v⟩) hf hr, getL_ne hf h.1]
    · rw [if_neg hk]
      rw [Bool.not_eq_true] at hk
      refine ⟨?_, by rw [List.any_cons, h.1, ih2]; rfl⟩
      by_cases hf : a.key.isStr f = true
      · have q : f ≠ name := fun z => by rw [z, hk] at hf; cases hf
        rw [getL_eq hf, if_neg q, getL_eq hf]
      · rw [Bool.not_eq_true] at hf
        rw [getL_ne hf h.1, ih1, getL_ne hf h.1]
theorem osa_raw {R : Result → Shared → Prop} {x C dx : Addr} {name : Str} {tk : Tok} {v : Value} {es : List DictEntry} {n : Nat} (X : K.In s.heap) (CF : ClsF K C) (hx : s.heap.get? x = some (instObj C dx)) (hdx : s.heap.get? dx = some (dictOf es n))
    (ht : takerIn K C name = some none) (hl : (getL name es).isSome = true) (hz : es.length ≤ 900)
    (h : ∀ h' key hash n', h'.get? dx = some (dictOf (putL name hash (.str name key) v es) n') → Heap.SameBut dx s.heap h' → R (.ok (.ret .none)) { s with heap := h', toks := s.toks + 1 }) :
    codeAny (model D.prog D.w) A (.call (.builtin "object.__setattr__") ⟨[.ref x, .str name tk, v], []⟩) R s := by
  have I : InstAt s.heap x (instObj C dx) C (some (dictOf es n)) := ⟨hx, rfl, rfl, hdx⟩
  refine osa_open X I CF.po ht fun b => ?_
  obtain ⟨cd, hc, hd'⟩ := any_some CF.hd
  refine wpAny_bind (wpAny_pure (wpAny_bind (wpAny_bind (wpAny_loadPart hx (wpAny_bind ((looks_clsIn X hc).here ?_))))))
  rw [hd']
  refine wpAny_pure (a := some dx) (wpAny_bind (wpAny_pure (wpAny_bind ?_)))
  unfold nsSet
  refine wpAny_bind (wpAny_bind (wpAny_askSetting (wpAny_pure (wpAny_bind (wpAny_mkText (wpAny_bind (wpAny_loadPart hdx ?_)))))))
  have hl' : (lookIn name (dictOf es n)).isSome = true := hl
  unfold lookIn at hl'
  dsimp only at hl' ⊢
  have cc : (!es.toArray.any (·.key.isStr name) && es.toArray.any (·.refKey)) = false := by
    rw [← Array.any_toList, ← Array.any_toList]
    split at hl'
    · rename_i en he
      rw [List.any_eq_true.mpr ⟨en, List.mem_of_find?_eq_some he, List.find?_some he⟩]; rfl
    · split at hl'
      · cases hl'
      · rename_i z; rw [Bool.not_eq_true] at z; rw [z, Bool.and_false]
  rw [aRefKeyMayBeTheName_at, cc]
  refine wpAny_updatePart hdx ?_
  have up := Heap.get?_update_self (h := s.heap) (a := dx) (Obj.putName name (PyData.keyHash D.w.params name) (.str name s.toks) v) hdx (by rw [putName_dict]; rfl)
  rw [putName_dict] at up
  have hlen := putL_length name (PyData.keyHash D.w.params name) (.str name s.toks) v es
  refine wpAny_bind (wpAny_lookBehind up (pastItsLine_dict (by rw [List.size_toArray, sizeLine_eq]; omega)) ?_)
  exact wpAny_pure (h _ _ _ _ up (Heap.SameBut.update ..))
end
end Mine
/-! PI24 -/
namespace Mine
section
variable {D : Wd} {c : Cx D} {A : Around} {ρ ρ' ρ'' ρ0 ρ1 : Ro} {G G' G0 Ga G₁ G₂ G₃ : PO} {s s' s0 sa s₁ s₂ s₃ : Shared} {h h' : Heap} {o : Out} {K : Frag}

/-! ### an instance in the making: what its dict holds -/
structure AttR (D : Wd) (G : PO) (es : List DictEntry) (att : List (Str × V)) : Prop where
  ref : es.any (·.refKey) = false
  len : es.length ≤ att.length
  get : ∀ f, match att.lookup f with | some a => ∃ u, getL f es = some (some u) ∧ VR D G a u | none => getL f es = some none
theorem AttR.nil : AttR D G [] [] := ⟨rfl, Nat.le_refl _, fun f => by simp [getL]⟩
theorem AttR.mono {es : List DictEntry} {att : List (Str × V)} (x : AttR D G es att) (le : G.le G') : AttR D G' es att := ⟨x.ref, x.len, fun f => by
  have := x.get f
  cases e : att.lookup f with
  | none => rw [e] at this; exact this
  | some a => rw [e] at this; obtain ⟨u, h1, h2⟩ := this; exact ⟨u, h1, h2.mono le⟩⟩
theorem AttR.put {es : List DictEntry} {att : List (Str × V)} (x : AttR D G es att) {name : Str} {a : V} {v : Value} {hash : Int} {t : Tok} (r : VR D G a v) : AttR D G (putL name hash (.str name t) v es) ((name, a) :: att) := by
  refine ⟨(getL_putL name name hash t v es x.ref).2, Nat.le_trans (putL_length ..) (by simp [x.len]), fun f => ?_⟩
  rw [(getL_putL name f hash t v es x.ref).1, List.lookup_cons]
  by_cases q : f = name
  · subst q; simp only [beq_self_eq_true, if_true]; exact ⟨v, rfl, r⟩
  · have : (f == name) = false := by simpa using q
    rw [this, if_neg q]; exact x.get f

structure Slf (c : Cx D) (x dx C : Addr) (es : List DictEntry) : Prop where
  hx : c.s0.heap.get? x = some (instObj C dx)
  hd : ∃ n, c.s0.heap.get? dx = some (dictOf es n)
  gx : c.G0 x = none
  gd : c.G0 dx = none
  tx : x ∉ D.tabs
  td : dx ∉ D.tabs
  ne : x ≠ dx
theorem Slf.at {x dx C : Addr} {es : List DictEntry} (H : Slf c x dx C es) (S : St c ρ G s) : s.heap.get? x = some (instObj C dx) ∧ (∃ n, s.heap.get? dx = some (dictOf es n)) ∧ G x = none ∧ G dx = none := by
  obtain ⟨n, hn⟩ := H.hd
  refine ⟨S.ext.keep _ _ H.tx H.hx, ⟨n, S.ext.keep _ _ H.td hn⟩, ?_, ?_⟩
  · cases q : G x with
    | none => rfl
    | some _ => have := S.ext.fresh x H.gx (by rw [q]; simp); rw [H.hx] at this; cases this
  · cases q : G dx with
    | none => rfl
    | some _ => have := S.ext.fresh dx H.gd (by rw [q]; simp); rw [hn] at this; cases this

noncomputable def Cx.upd {D : Wd} (c : Cx D) (dx : Addr) (o : Obj) : Cx D := { c with s0 := { c.s0 with heap := c.s0.heap.update dx fun _ => o } }
theorem St.upd {x dx C : Addr} {es es' : List DictEntry} {n' k : Nat} (S : St c ρ G s) (H : Slf c x dx C es) (hs : Heap.SameBut dx s.heap h') (hd : h'.get? dx = some (dictOf es' n')) :
    St (c.upd dx (dictOf es' n')) ρ G { s with heap := h', toks := k } ∧ Slf (c.upd dx (dictOf es' n')) x dx C es' := by
  obtain ⟨n, hn⟩ := H.hd
  obtain ⟨a1, ⟨n2, a2⟩, a3, a4⟩ := H.at S
  have us := Heap.get?_update_self (h := c.s0.heap) (a := dx) (fun _ => dictOf es' n') hn rfl
  have un : Heap.SameBut dx c.s0.heap (c.s0.heap.update dx fun _ => dictOf es' n') := Heap.SameBut.update ..
  have lne : c.env.locals ≠ dx := fun q => by have := S.newL; rw [q, hn] at this; cases this
  obtain ⟨m, hm, hl⟩ := S.loc
  have mv : ∀ {sl v}, SlotR c G s.heap sl v → SlotR (c.upd dx (dictOf es' n')) G h' sl v := fun {sl v} y => by
    cases sl with
    | val a => exact y
    | own a =>
      obtain ⟨d, rfl, gd, nd, dL, dsm, ow⟩ := y
      have ne : d ≠ dx := fun q => by rw [q, hn] at nd; cases nd
      exact ⟨d, rfl, gd, (un.2 d ne).trans nd, dL, dsm, ow.step (fun _ _ e => e) fun o e => (hs.2 d ne).trans e⟩
  refine ⟨⟨⟨S.wf.fn, S.wf.glob, S.wf.bui, S.wf.hand, S.wf.nodup, S.wf.kloc, S.wf.kown, S.wf.kext, S.wf.kall, S.wf.plain⟩, ⟨?_, S.ext.le, fun b n1 n2 => ?_, fun b o hb e => ?_⟩, S.ok.write a4 H.td hs, (un.2 _ lne).trans S.newL, S.offL, ⟨m, hm.sameBut hs lne, fun i y sl h1 h2 h3 => ?_⟩, fun i y kk h1 h2 h3 => ?_, S.apart⟩, ⟨?_, ⟨n', us⟩, H.gx, H.gd, H.tx, H.td, H.ne⟩⟩
  · obtain ⟨h1, tk, q⟩ := S.ext.same
    exact ⟨h', k, by rw [q]; rfl⟩
  · have e := S.ext.fresh b n1 n2
    have ne : b ≠ dx := fun q => by rw [q, hn] at e; cases e
    exact (un.2 b ne).trans e
  · by_cases q : b = dx
    · subst q
      have : some (dictOf es' n') = some o := us.symm.trans e
      cases this; exact hd
    · exact (hs.2 b q).trans (S.ext.keep b o hb ((un.2 b q).symm.trans e))
  · obtain ⟨v, e, r⟩ := hl i y sl h1 h2 h3
    exact ⟨v, e, mv r⟩
  · obtain ⟨a, v0, e1, ⟨oc, ec, dc⟩, e3, e5⟩ := S.cel i y kk h1 h2 h3
    have ne : a ≠ dx := fun q => by rw [q, a2] at ec; cases ec; cases dc
    refine ⟨a, v0, e1, ⟨oc, (hs.2 a ne).trans ec, dc⟩, fun q => ⟨(un.2 a ne).trans (e3 q).1, (e3 q).2⟩, fun sl h4 => ?_⟩
    obtain ⟨v, h5, r⟩ := e5 sl h4
    exact ⟨v, h5, mv r⟩
  · exact (un.2 x H.ne).trans H.hx

noncomputable def IniR {D : Wd} (c : Cx D) (x dx C : Addr) (ρ : Ro) (att : List (Str × V)) (ss : List Stmt) (att' : List (Str × V)) : Prop :=
  Box (∀ G s E es, St c ρ G s → Slf c x dx C es → AttR D G es att → wpAny D.M c.A (execs ss c.env) (fun f s' => f = .next ∧ ∃ (c' : Cx D) (ρ' : Ro) (G' : PO) (es' : List DictEntry), St c' ρ' G' s' ∧ Slf c' x dx C es' ∧ AttR D G' es' att' ∧ c'.G0 = c.G0 ∧ Heap.SameBut dx c.s0.heap c'.s0.heap ∧ ∃ hh, c'.s0 = { c.s0 with heap := hh }) E s)
theorem IniR.nil {x dx C : Addr} {att : List (Str × V)} : IniR c x dx C ρ att [] att := .mk fun G s E es S H T => wpAny_execs_nil ⟨rfl, c, ρ, G, es, S, H, T, rfl, .refl .., c.s0.heap, rfl⟩
theorem IniR.cons {x dx C : Addr} {att att' : List (Str × V)} {st : Stmt} {ss : List Stmt} (h : Ex c ρ st (.next ρ')) (t : IniR c x dx C ρ' att ss att') : IniR c x dx C ρ att (st :: ss) att' := .mk fun G s E es S H T =>
  wpAny_execs_cons (wpAny_mono (h.run G s E S) (fun f s₁ p => by
    obtain ⟨rfl, G₁, S₁, y⟩ := p
    exact t.run G₁ s₁ E es S₁ H (T.mono y.le)) fun _ _ e => e)
theorem IniR.store {x dx C : Addr} {att att' : List (Str × V)} {e : Expr} {sn name : Str} {p1 p2 sp : Pos} {ss : List Stmt} {a : V} (X : K.In D.h₀) (CF : ClsF K C) (he : Ev c ρ e a)
    (hself : ∀ c2 : Cx D, c2.env = c.env → c2.A = c.A → c2.names = c.names → c2.kinds = c.kinds → Ev c2 ρ (.Name sn p1) (.raw (.ref x))) (ht : takerIn K C name = some none) (hlen : att.length ≤ 800)
    (hs : swapsWithSole [.Attribute (.Name sn p1) name p2] e sp.line c.env = pure false) (hw : swappedStores [.Attribute (.Name sn p1) name p2] e c.env = pure none)
    (t : ∀ c2 : Cx D, c2.env = c.env → c2.A = c.A → c2.names = c.names → c2.kinds = c.kinds → IniR c2 x dx C ρ ((name, a) :: att) ss att') : IniR c x dx C ρ att (.Assign [.Attribute (.Name sn p1) name p2] e sp :: ss) att' := .mk fun G s E es S H T => by
  refine wpAny_execs_cons (wpAny_Assign_stores (he.mono S fun v s₁ G₁ x₁ g₁ r₁ => ?_) hs hw)
  show wpAny D.M c.A (assign (.Attribute (.Name sn p1) name p2) c.env v) _ E s₁
  rw [arm_assign_Attribute]
  have S₁ := S.step x₁ g₁
  refine wpAny_bind (wpAny_holding ((hself c rfl rfl rfl rfl).mono S₁ fun ov s₂ G₂ x₂ g₂ r₂ => wpAny_bind (wpAny_standAt (wpAny_bind (wpAny_holding ?_)))))
  cases VR.raw_iff.mp r₂
  have S₂ := S₁.step x₂ g₂
  have T₂ := T.mono fun b o e => x₂.le b o (x₁.le b o e)
  obtain ⟨a1, ⟨n2, a2⟩, a3, a4⟩ := H.at S₂
  have I : W.InstAt s₂.heap x (instObj C dx) C (some (dictOf es n2)) := ⟨a1, rfl, rfl, a2⟩
  refine set_plain (X.keeps g₂.base') I CF.sa (osa_raw (D := D) (s := { s₂ with toks := s₂.toks + 1 }) (X.keeps g₂.base') CF a1 a2 ht ?_ (by have := T.len; omega) fun h' key hash n' hd hs' => ?_)
  · have := T₂.get name
    cases q : att.lookup name with
    | none => rw [q] at this; rw [show getL name es = some none from this]; rfl
    | some b => rw [q] at this; obtain ⟨u, h1, _⟩ := this; rw [h1]; rfl
  · obtain ⟨S₃, H₃⟩ := S₂.upd (k := s₂.toks + 1 + 1) H hs' hd
    refine wpAny_release ?_
    refine wpAny_mono ((t (c.upd dx (dictOf (putL name hash (.str name key) v es) n')) rfl rfl rfl rfl).run G₂ _ E _ S₃ H₃ (T₂.put (r₁.mono x₂.le))) (fun f s' p => ?_) fun _ _ e => e
    obtain ⟨rfl, c', ρ', G', es', q1, q2, q3, q4, q5, hh, q6⟩ := p
    exact ⟨rfl, c', ρ', G', es', q1, q2, q3, q4, (Heap.SameBut.update ..).trans q5, hh, q6⟩
theorem lookup_at : ∀ {att : List (Str × V)} {i : Nat} {f : Str} {a : V}, (att.map (·.1)).Nodup → (att.map (·.1))[i]? = some f → (att.map (·.2))[i]? = some a → att.lookup f = some a
  | [], i, f, a, _, h, _ => by simp at h
  | (g, b) :: r, 0, f, a, _, h1, h2 => by simp at h1 h2; subst h1 h2; simp
  | (g, b) :: r, i + 1, f, a, hn, h1, h2 => by
    obtain ⟨n1, n2⟩ := List.nodup_cons.mp hn
    simp only [List.map_cons, List.getElem?_cons_succ] at h1 h2
    have ne : (f == g) = false := by simpa using fun q : f = g => n1 (q ▸ List.mem_of_getElem? h1)
    rw [List.lookup_cons, ne]; exact lookup_at n2 h1 h2
theorem lookup_no : ∀ {att : List (Str × V)} {f : Str}, f ∉ att.map (·.1) → att.lookup f = none
  | [], f, _ => rfl
  | (g, b) :: r, f, h => by
    simp only [List.map_cons, List.mem_cons, not_or] at h
    have ne : (f == g) = false := by simpa using h.1
    rw [List.lookup_cons, ne]; exact lookup_no h.2

theorem CallR.make {C fI : Addr} {xs : List Str} {body : List Stmt} {scope : Scope} {as : List V} {att : List (Str × V)} (X : K.In D.h₀) (CF : ClsF K C) (F : FnAt D fI xs body scope) (gd : GD D) (hi : findIn K (.ref C) "__init__" = some (some (.ref fI))) (hf : typeIn K (.ref fI) = some (.type "function"))
    (hh : A.handled = none) (hroom : A.depth + 10 < recursionLimit) (hl : xs.length = as.length + 1) (hnd : (att.map (·.1)).Nodup) (hlen : att.length ≤ 500)
    (hA : ∀ rest : List Value, ∃ k u, (A.under (.builtin "type.__call__" ⟨.ref C :: rest, []⟩)).depth = A.depth + k ∧ k ≤ 5 ∧ (A.under (.builtin "type.__call__" ⟨.ref C :: rest, []⟩)).units = A.units + u ∧ u ≤ 20)
    (hb : ∀ (B : Around) (c : Cx D) (x dx : Addr), B.handled = none → B.depth ≤ A.depth + 5 → B.units ≤ A.units + 20 → Fn c B scope.names → IniR c x dx C (bindRo scope.names (List.replicate (nk scope.names).length none) (xs.zip (.raw (.ref x) :: as))) [] body att)
    (ho : okNames scope.names = true) (hp : okBinds scope.names xs = true) (hk : scope.kind = .function) (hfree : (nkK scope.names).all (· != .ext) = true)
    (hco : scope.isCoroutine = false) (hgen : scope.isGenerator = false) : CallR D A (.ref C) as (.inst C (att.map (·.1)) (att.map (·.2))) := by
  intro G s E vs g r
  obtain ⟨ob, fd, e, ed, es, eb, eg, eu, ec, ecd, ebind⟩ := F.obj
  refine wpAny_call ?_
  obtain ⟨hp0, gg, dd, tk, os⟩ := s
  have XK : K.In hp0 := X.keeps g.base'
  obtain ⟨k, u, k1, k2, k3, k4⟩ := hA vs
  obtain ⟨g1, x1, n1, n2, n3⟩ := g.push_away (o := emptyDict) (k := tk)
  obtain ⟨g2, x2, m1, m2, m3⟩ := g1.push_away (o := instObj C hp0.objs.size) (k := tk)
  have z1 : (hp0.push emptyDict).objs.size = hp0.objs.size + 1 := Heap.size_push ..
  have hhU : (A.under (.builtin "type.__call__" ⟨.ref C :: vs, []⟩)).handled = none := hh
  have g2' : GOK D G ⟨(hp0.push emptyDict).push (instObj C hp0.objs.size), gg, dd, tk, os⟩ := g2
  have ex : ((hp0.push emptyDict).push (instObj C hp0.objs.size)).get? (hp0.objs.size + 1) = some (instObj C hp0.objs.size) := by have := Heap.get?_push_size (hp0.push emptyDict) (o := instObj C hp0.objs.size) rfl; rwa [z1] at this
  have edx : ((hp0.push emptyDict).push (instObj C hp0.objs.size)).get? hp0.objs.size = some (dictOf [] 0) := Heap.get?_push_of_some _ (Heap.get?_push_size _ rfl)
  refine make_core (makes_of XK CF.mkd) (looks_findIn XK hi) (fun self => ?_) (.inl (by rfl)) ?_
  · exact bind_fn XK self hf
  refine codeAny_call_function (fd := fd) (by rw [k1]; omega) (g2.base' _ _ e) ed (by rw [es]; exact hco) (by rw [es]; exact hgen) eb (ecd.keeps g2.base') ?_
  rw [ebind _ (by rw [List.length_cons, ← r.length, hl]), es, eg, eu, ec]
  have rr : VRs D G (.raw (.ref (hp0.objs.size + 1)) :: as) (.ref (hp0.objs.size + 1) :: vs) := VRs.cons (VR.raw_iff.mpr rfl) r
  refine wpAny_pure (newEnv_fn (D := D) (A := A.under (.builtin "type.__call__" ⟨.ref C :: vs, []⟩)) (G0 := G) (s0 := ⟨(hp0.push emptyDict).push (instObj C hp0.objs.size), gg, dd, tk, os⟩) (ρ := List.replicate (nk scope.names).length none) hp (by rw [hl]; rfl) rr (fun k => fn_frame (Ext.refl ..) g2' hhU ho hk (by simp) (fun i x h1 h2 => ?_) (fun i sl h => ?_)) fun s' S' => ?_)
  · have := List.all_eq_true.mp hfree .ext (List.mem_of_getElem? h2)
    simp at this
  · rw [List.getElem?_replicate] at h; split at h <;> cases h
  · refine ⟨gd.lim.keeps S'.ok.base', codeAny_func ?_⟩
    have hx := hb (A.under (.builtin "type.__call__" ⟨.ref C :: vs, []⟩)) _ (hp0.objs.size + 1) hp0.objs.size hh (by rw [k1]; omega) (by rw [k3]; omega) (fnCx_fn (D := D) (A := A.under (.builtin "type.__call__" ⟨.ref C :: vs, []⟩)) (scope := scope) (cl := []) (L := ((hp0.push emptyDict).push (instObj C hp0.objs.size)).objs.size) (qual := fd.qualname ++ ".<locals>.") (fa := fI) (code := fd.code) (G0 := G) (s0 := ⟨(hp0.push emptyDict).push (instObj C hp0.objs.size), gg, dd, tk, os⟩) hh hk)
    have hm1 : G (hp0.objs.size + 1) = none := by have := m1; rwa [show (({ heap := hp0.push emptyDict, gens := gg, drawn := dd, toks := tk, os := os } : Shared).heap.objs.size) = hp0.objs.size + 1 from z1] at this
    have hm3 : hp0.objs.size + 1 ∉ D.tabs := by have := m3; rwa [show (({ heap := hp0.push emptyDict, gens := gg, drawn := dd, toks := tk, os := os } : Shared).heap.objs.size) = hp0.objs.size + 1 from z1] at this
    refine wpAny_mono (hx.run G s' _ [] S' ⟨ex, ⟨0, edx⟩, hm1, n1, hm3, n3, Nat.succ_ne_self _⟩ AttR.nil) (fun f s₂ p => ?_) fun _ _ e => e
    obtain ⟨rfl, c', ρ', G', es', S₂, H₂, T₂, q4, q5, hh', q6⟩ := p
    refine ⟨rfl, ?_⟩
    obtain ⟨a1, ⟨n2, a2⟩, a3, a4⟩ := H₂.at S₂
    have q4 : c'.G0 = G := q4
    have q5 : Heap.SameBut hp0.objs.size ((hp0.push emptyDict).push (instObj C hp0.objs.size)) c'.s0.heap := q5
    have fz1 := S₂.ok.freeze a2 a4 H₂.td
    have hne : hp0.objs.size + 1 ≠ hp0.objs.size := Nat.succ_ne_self _
    have a3' : (G'.add hp0.objs.size (dictOf es' n2)) (hp0.objs.size + 1) = none := by unfold PO.add; rw [if_neg hne]; exact a3
    have fz2 := fz1.freeze a1 a3' H₂.tx
    have le1 := PO.le_add (o := dictOf es' n2) a4
    have le2 := PO.le_add (o := instObj C hp0.objs.size) a3'
    have old : ∀ b, b ≠ hp0.objs.size → b ≠ hp0.objs.size + 1 → c'.s0.heap.get? b = none → hp0.get? b = none := fun b b1 b2 e => by
      cases q : hp0.get? b with
      | none => rfl
      | some o =>
        have h1 := Heap.get?_push_of_some (instObj C hp0.objs.size) (Heap.get?_push_of_some emptyDict q)
        rw [q5.2 b b1, h1] at e; cases e
    refine ⟨(G'.add hp0.objs.size (dictOf es' n2)).add (hp0.objs.size + 1) (instObj C hp0.objs.size), ⟨?_, fun b o e => le2 b o (le1 b o (by have := S₂.ext.le; rw [q4] at this; exact this b o e)), fun b b1 b2 => ?_, fun b o hb e => ?_⟩, fz2, ?_⟩
    · obtain ⟨h1, tk1, z⟩ := S₂.ext.same
      exact ⟨h1, tk1, by rw [z, q6]; rfl⟩
    · by_cases c1 : b = hp0.objs.size
      · rw [c1]; exact Heap.get?_size hp0
      · by_cases c2 : b = hp0.objs.size + 1
        · rw [c2]; exact Heap.get?_ge (Nat.le_succ _)
        · unfold PO.add at b2
          rw [if_neg c2, if_neg c1] at b2
          exact old b c1 c2 (S₂.ext.fresh b (by rw [q4]; exact b1) b2)
    · have hlt := Heap.lt_size (show hp0.get? b = some o from e)
      have c1 : b ≠ hp0.objs.size := Nat.ne_of_lt hlt
      exact S₂.ext.keep b o hb ((q5.2 b c1).trans (Heap.get?_push_of_some _ (Heap.get?_push_of_some _ e)))
    · have hvals : ∃ us, (att.map (·.1)).length = us.length ∧ VRs D G' (att.map (·.2)) us ∧ ∀ (i : Nat) (f : Str) (u : Value), (att.map (·.1))[i]? = some f → us[i]? = some u → getL f es' = some (some u) := by
        have gen : ∀ (l : List (Str × V)), (∀ p ∈ l, att.lookup p.1 = some p.2) → ∃ us, (l.map (·.1)).length = us.length ∧ VRs D G' (l.map (·.2)) us ∧ ∀ (i : Nat) (f : Str) (u : Value), (l.map (·.1))[i]? = some f → us[i]? = some u → getL f es' = some (some u) := by
          intro l
          induction l with
          | nil => intro _; exact ⟨[], rfl, VRs.nil, fun i f u h => by simp at h⟩
          | cons p l ih =>
            intro hp
            obtain ⟨us, u1, u2, u3⟩ := ih fun q hq => hp q (.tail _ hq)
            have := T₂.get p.1
            rw [hp p (.head _)] at this
            obtain ⟨u, w1, w2⟩ := this
            refine ⟨u :: us, by simpa using u1, VRs.cons w2 u2, fun i f v h1 h2 => ?_⟩
            cases i with
            | zero => simp at h1 h2; subst h1 h2; exact w1
            | succ i => simp at h1 h2; exact u3 i f v (by simpa using h1) h2
        refine gen att fun p hp => ?_
        obtain ⟨i, hi2⟩ := List.mem_iff_getElem?.mp hp
        exact lookup_at hnd (by rw [List.getElem?_map, hi2]; rfl) (by rw [List.getElem?_map, hi2]; rfl)
      obtain ⟨us, u1, u2, u3⟩ := hvals
      refine VR.inst_iff.mpr ⟨_, us, rfl, u1, ⟨hp0.objs.size, es', n2, PO.add_self .., ?_, by have := T₂.len; omega, fun f hf => ?_, u3⟩, (u2.mono le1).mono le2⟩
      · exact le2 _ _ (PO.add_self ..)
      · have := T₂.get f
        rw [lookup_no hf] at this; exact this
end
end Mine
/-! PI25 -/
namespace Mine
section
variable {D : Wd} {c : Cx D} {A : Around} {ρ ρ' ρ'' ρ0 ρ1 : Ro} {G G' G0 Ga G₁ G₂ G₃ : PO} {s s' s0 sa s₁ s₂ s₃ : Shared} {h h' : Heap} {o : Out} {K : Frag}

/-! reading what the instance in the making already holds -/
noncomputable def HasAttr (c : Cx D) (x dx C : Addr) (f : Str) (w : Str) : Prop := ∃ es, Slf c x dx C es ∧ ∃ t, getL f es = some (some (.str w t))
theorem IniR.look {x dx C : Addr} {att att' : List (Str × V)} {ss : List Stmt} {f w : Str} (hl : att.lookup f = some (.str w)) (t : HasAttr c x dx C f w → IniR c x dx C ρ att ss att') : IniR c x dx C ρ att ss att' := .mk fun G s E es S H T => by
  refine (t ⟨es, H, ?_⟩).run G s E es S H T
  have := T.get f
  rw [hl] at this
  obtain ⟨u, h1, h2⟩ := this
  obtain ⟨t, rfl⟩ := VR.str_iff.mp h2
  exact ⟨t, h1⟩
theorem Ev.attrRaw {x dx C : Addr} {f w sn : Str} {p1 p2 : Pos} {at' : Option Value} (X : K.In D.h₀) (CF : ClsF K C) (HA : HasAttr c x dx C f w) (hself : Ev c ρ (.Name sn p1) (.raw (.ref x))) (hk : findIn K (.ref C) f = some at') (hg : noGet K at' = true) : Ev c ρ (.Attribute (.Name sn p1) f p2) (.str w) := .mk fun G s E S => by
  rw [arm_eval_Attribute]
  refine wpAny_bind (hself.mono S fun v s₁ G₁ x₁ g₁ r₁ => wpAny_bind (wpAny_standAt (wpAny_bind (wpAny_holding ?_))))
  cases VR.raw_iff.mp r₁
  obtain ⟨es, H, t, ht⟩ := HA
  obtain ⟨a1, ⟨n2, a2⟩, _, _⟩ := H.at (S.step x₁ g₁)
  have I : W.InstAt s₁.heap x (instObj C dx) C (some (dictOf es n2)) := ⟨a1, rfl, rfl, a2⟩
  refine get_value (X.keeps g₁.base') I CF.ga (findObj_own CF.hd hk hg ht) rfl (wpAny_bind (wpAny_letTemporaryGo (wpAny_pure ?_)))
  exact ⟨G₁, x₁.then g₁ (Ext.tok ..), g₁.tok _, VR.str_iff.mpr ⟨_, rfl⟩⟩
theorem Ev.clsAttr {C : Addr} {x f w : Str} {p1 p2 : Pos} {t : Tok} (X : K.In D.h₀) (hn : Glo c ρ (.Name x p1) (.ref C)) (hr : readsIn K C (.type "type") = true) (e : findCls K (.ref C) (.type "type") f = some (.val (.str w t))) : Ev c ρ (.Attribute (.Name x p1) f p2) (.str w) := .mk fun G s E S => by
  rw [arm_eval_Attribute]
  refine wpAny_bind (hn G s _ E S (wpAny_bind (wpAny_standAt (wpAny_bind (wpAny_holding ?_)))))
  refine cls_value (X.keeps S.ok.base') hr e rfl (wpAny_bind (wpAny_letTemporaryGo (wpAny_pure ?_)))
  exact ⟨G, Ext.tok .., S.ok.tok _, VR.str_iff.mpr ⟨_, rfl⟩⟩
theorem Ex.swap2 {x y : Str} {e1 e2 : Expr} {p1 p2 tp vp sp : Pos} {k k' : Nat} {a b : V} {i j : Nat} (he : EvL c ρ [e1, e2] [a, b]) (hx : c.names[i]? = some x) (hxk : c.kinds[i]? = some .loc) (hy : c.names[j]? = some y) (hyk : c.kinds[j]? = some .loc)
    (hw : ∀ env : Env, env.blockKind = .function → env.kindOf x = some .local → env.kindOf y = some .local → swappedStores [.Tuple [.Name x p1, .Name y p2] k tp] (.Tuple [e1, e2] k' vp) env = pure (some [x, y])) :
    Ex c ρ (.Assign [.Tuple [.Name x p1, .Name y p2] k tp] (.Tuple [e1, e2] k' vp) sp) (.next ((ρ.set j (some (.val b))).set i (some (.val a)))) := .mk fun G s E S => by
  have bk : c.env.blockKind = .function := by unfold Env.blockKind; rw [S.wf.fn]; rfl
  refine Assign_Tuple_swapped ((Ev.tup he (by simp [sizeLine_eq])).mono S fun v s₁ G₁ x₁ g₁ r₁ => ?_) rfl (hw c.env bk (S.wf.kloc i x hx hxk) (S.wf.kloc j y hy hyk))
  obtain ⟨t, us, rfl, ⟨n, e⟩, rs⟩ := VR.tup_iff.mp r₁
  obtain ⟨u, w, rfl, ru, rw'⟩ := rs.two
  have e2 := g₁.sub _ _ e
  refine unpackItems_tuple (items := #[u, w]) S.wf.hand ⟨_, e2, rfl, n, rfl⟩ fun h' he' => ?_
  have hk : ∀ b o, s₁.heap.get? b = some o → h'.get? b = some o := fun b o e => he' b o (Nat.ne_of_lt (Heap.lt_size e)) e
  obtain ⟨g', x'⟩ := g₁.keeps (k := s₁.toks) hk
  have S' := (S.step x₁ g₁).step x' g'
  show wpAny D.M c.A (assignInOrder [bindName c.env y, bindName c.env x] [w, u]) _ E _
  refine wpAny_assignInOrder_more (wpAny_bindName (S'.store (sl := .val b) hy hyk (by decide) rw' fun s₂ S₂ y₂ => ?_))
  refine wpAny_assignInOrder_more (wpAny_bindName (S₂.store (sl := .val a) hx hxk (by decide) ru fun s₃ S₃ y₃ => ?_))
  refine wpAny_assignInOrder_none ⟨rfl, G₁, S₃, ((x₁.stp g₁).trans (x'.stp g')).trans (y₂.stp.trans y₃.stp)⟩
end
end Mine
/-! PI26 -/
namespace Mine
section
variable {D : Wd} {c : Cx D} {A : Around} {ρ ρ' ρ'' ρ0 ρ1 : Ro} {G G' G0 Ga G₁ G₂ G₃ : PO} {s s' s0 sa s₁ s₂ s₃ : Shared} {h h' : Heap} {o : Out} {K : Frag}

theorem CallR.lenT {l : List V} (hs : l.length < 2 ^ 40) : CallR D A (.builtin "len") [.tup l] (.int l.length) := by
  intro G s E vs g r
  obtain ⟨v, rfl, hv⟩ := r.one
  obtain ⟨a, us, rfl, ⟨n, e⟩, rs⟩ := VR.tup_iff.mp hv
  refine P.len_tuple (items := us.toArray) (g.sub _ _ e) (by simp [← rs.length]; omega) ?_
  rw [List.size_toArray, ← rs.length]
  exact ⟨G, Ext.tok .., g.tok _, VR.int_iff.mpr ⟨_, rfl⟩⟩
theorem Ev.tupD {x : Str} {np pos : Pos} {e : Expr} {l : List V} (hn : Glo c ρ (.Name x np) (.type "tuple")) (he : EvD c ρ e (.list l)) (hs : l.length ≤ sizeLine)
    (hst : ∀ env, starEach [e] env = [(false, eval e env)] := by intro _; rfl) : Ev c ρ (.Call (.Name x np) [e] [] pos) (.tup l) := by
  refine .mk fun G s E S => ?_
  refine wpAny_Call_NameR (hn G s _ E S ?_)
  refine callWith_of (P := fun h => ∀ b o, D.h₀.get? b = some o → h.get? b = some o) (by rw [hst]; rfl) Kpr.type ?_
  rw [hst]
  refine evalArgs_plain (Q := fun vs s' => _) ?_
  show wpAny D.M c.A (spliced [(false, eval e c.env)]) _ E s
  unfold spliced
  refine wpAny_bind (wpAny_mono (he.run G s E S) (fun v s₁ p => ?_) fun _ _ e => e)
  obtain ⟨G₁, d, rfl, x₁, g₁, ow, _⟩ := p
  refine wpAny_bind (wpAny_pure (wpAny_bind (wpAny_holding (wpAny_pure (wpAny_pure ⟨g₁.base', ?_⟩)))))
  obtain ⟨us, rs, n, e⟩ := ow
  refine call_tuple_list (items := us.toArray) ⟨_, e, rfl, n, rfl⟩ (fun h' hk => ?_) (by simpa [← rs.length] using hs)
  obtain ⟨g', x'⟩ := g₁.keeps (k := s₁.toks) hk
  exact ((Post.newTup (k := s₁.toks) g' rs).after x' g').after x₁ g₁
theorem EvO.addD {l r : Expr} {pos : Pos} {a b : List V} (sm : D.h₀.get? cStatics ≠ none) (hl : EvD c ρ l (.list a)) (hr : Ev c ρ r (.list b)) (hs : a.length + b.length ≤ sizeLine) : EvO c ρ (.BinOp l .Add r pos) (.list (a ++ b)) := by
  refine .mk fun G s E S => ?_
  refine wpAny_BinOp (wpAny_mono (hl.run G s E S) (fun u s₁ p => ?_) fun _ _ e => e)
  obtain ⟨G₁, d, rfl, x₁, g₁, ow, _⟩ := p
  refine hr.mono (S.step x₁ g₁) fun v s₂ G₂ x₂ g₂ r₂ => ?_
  obtain ⟨us, ha, n, e⟩ := ow.ext x₂ g₁
  obtain ⟨b', ws, rfl, ⟨n', e'⟩, hb⟩ := VR.list_iff.mp r₂
  have e' := g₂.sub _ _ e'
  refine concat_meets ⟨_, e, rfl⟩ ⟨_, e', rfl⟩ noFill_list_add seq_list_add PySem.F.slot_list_add PySem.F.entry_list_add (PySem.F.args_list_add_2 _ _) (list_addW d b' us.toArray ws.toArray n n' none none #[] #[] (by simp [← ha.length, ← hb.length]; exact hs)) ⟨e, e', ?_⟩
  have hh := ha.append hb
  obtain ⟨x, g, y⟩ := (S.step (x₁.then g₁ x₂) g₂).pushOwn sm (k := s₂.toks) (o := { cls := .type "list", data := .seq (us ++ ws).toArray 0 }) (a := .list (a ++ b)) rfl fun h e => ⟨us ++ ws, hh, 0, e⟩
  rw [← List.append_toArray] at x g y
  exact ⟨G₂, (x₁.then g₁ x₂).then g₂ x, g, y⟩
end
end Mine
/-! PI27 -/
namespace Mine
section
variable {D : Wd} {c : Cx D} {A : Around} {G : PO} {s : Shared}
noncomputable def allIn (ms ys : List Int) : List (Int × Int) → Bool
  | [] => true
  | (k, x) :: r => match lookD ms (ys.map V.int) k with | some (.int y) => (x == y) && allIn ms ys r | _ => false
theorem hits_of {ms ys : List Int} {ws : List Value} (el : ms.length = ws.length) (rs : VRs D G (ys.map V.int) ws) : ∀ (ks xs : List Int) (us : List Value), VRs D G (xs.map V.int) us →
    KeqHits (K := Int) A s (ms.zip ws) (ks.zip us) (allIn ms ys (ks.zip xs))
  | [], xs, us, _ => by simpa [allIn] using KeqHits.nil
  | k :: ks, [], us, r => by
    have := r.length
    cases us with
    | nil => simpa [allIn] using KeqHits.nil
    | cons _ _ => simp at this
  | k :: ks, x :: xs, us, r => by
    unfold VRs at r
    obtain ⟨u, r', rfl, hu, hr⟩ := r
    obtain ⟨t, rfl⟩ := VR.int_iff.mp hu
    have ih := hits_of el rs ks xs r' hr
    have hv := valueAt_zip (D := D) (G := G) (k := k) el rs
    simp only [List.zip_cons_cons, allIn]
    unfold lookD
    cases e : (ms.zip (ys.map V.int)).find? (fun p => decide (p.1 = k)) with
    | none => rw [e] at hv; exact KeqHits.miss hv
    | some p =>
      rw [e] at hv
      obtain ⟨w, h1, h2⟩ := hv
      have hm := List.mem_of_find?_eq_some e
      obtain ⟨y, _, hy⟩ := List.mem_map.mp (List.of_mem_zip hm).2
      rw [← hy] at h2
      obtain ⟨t2, rfl⟩ := VR.int_iff.mp h2
      simp only [Option.map_some, ← hy]
      exact KeqHits.hit h1 (SeqAt.EqAt.int_int _ _ _ _) ih
theorem CmpR.neDict {ks xs ms ys : List Int} (hu : A.units < cLine) (h1 : ks.length = xs.length) (h2 : ms.length = ys.length) : CmpR D A .NotEq (.dict ks (xs.map V.int)) (.dict ms (ys.map V.int)) (!(ks.length == ms.length && allIn ms ys (ks.zip xs))) := fun G s E u v g hu1 hv1 => by
  obtain ⟨a, _, rfl, _⟩ := VR.dict_iff.mp hu1
  obtain ⟨b, _, rfl, _⟩ := VR.dict_iff.mp hv1
  obtain ⟨⟨us, el, rs, dp⟩, sm⟩ := OwnR.ofVR g hu1 (.inr ⟨_, _, rfl⟩)
  obtain ⟨⟨ws, el', rs', dp'⟩, sm'⟩ := OwnR.ofVR g hv1 (.inr ⟨_, _, rfl⟩)
  have z1 : (ks.zip us).length = ks.length := by rw [List.length_zip, ← el]; simp
  have z2 : (ms.zip ws).length = ms.length := by rw [List.length_zip, ← el']; simp
  refine keq_ne (by simpa using sm _ _ rfl) (by simpa using sm' _ _ rfl) dp dp' hu (fun _ => hits_of el' rs' ks xs us rs) ?_
  rw [z1, z2]
  exact .bool g
end
end Mine
/-! PI28 -/
namespace Mine
section
variable {D : Wd} {c : Cx D} {A : Around} {ρ ρ' ρ'' ρ0 ρ1 : Ro} {G G' G0 Ga G₁ G₂ G₃ : PO} {s s' s0 sa s₁ s₂ s₃ : Shared} {h h' : Heap} {o : Out}

theorem make_fnE {cA P : Addr} {pos : Pos} {qual name : Str} {params : Arguments} {body : Expr} {scope : Scope} {clos : List (Str × Addr)} {firstLine : Nat} {Q : Value → Shared → Prop} {E} (gd : GD D) (S : St c ρ G s) (hq : (P, pos, qual) ∈ D.ti) (hnd : (D.ti.map (·.1)).Nodup)
    (hcd : c.env.code = .ref cA) (C : CodeHd D.h₀ cA P) (hB : D.h₀.BuiltinsAt D.mg P) (hcl : closureFor scope c.env = pure clos)
    (hQ : ∀ v s' G', Ext D.tabs G s G' s' → GOK D G' s' → VR D G' (.fn params (.expr body) scope clos qual) v → Q v s') :
    wpAny D.M A (makeFunction name qual params (.expr body) scope c.env [] [] [] pos firstLine) Q E s := by
  have g := S.ok
  have hg : s.heap.Ns mainGlobals D.mg := gd.g.keeps g.base'
  have hb : s.heap.BuiltinsAt D.mg P := by
    obtain ⟨bm, o, h1, h2, h3, h4, h5, h6⟩ := hB
    exact ⟨bm, o, h1, h2, h3, h4, g.base' _ _ h5, h6⟩
  obtain ⟨gP, ps, eP, r⟩ := g.tabs _ hq
  simp only at gP eP r
  have hgP : mainGlobals ≠ P := fun q => by
    obtain ⟨o, es, ep, e, hd, _⟩ := hg
    rw [q, eP] at e; cases e; cases hd
  rcases r with rfl | ⟨c', oc, vs, t, rfl, r1, r2, r3⟩
  · refine kla_makeFunction (mg := D.mg) hcl S.wf.glob hg hcd (C.keeps g.base') eP trivial rfl hgP hb fun c' ctv h' tk hx hge hlt hrec htb => ?_
    obtain ⟨c₂, oc, vs, t, e2, hoc, hd, hv⟩ := hrec
    cases e2
    have htb' : h'.get? P = some (tabObj #[rawInt pos.line, rawInt pos.col, .ref c']) := by simpa using htb
    obtain ⟨m1, m2, m3, m4⟩ := made_two (tk := tk) (f := h'.objs.size) (fo := kla_obj name qual params body scope clos ((D.mg "__name__").getD .none) c' ctv) (hs := h'.push (kla_obj name qual params body scope clos ((D.mg "__name__").getD .none) c' ctv)) g hq hnd (hx.push _) hge (Nat.le_of_lt (Nat.lt_of_le_of_lt hge hlt)) (Nat.ne_of_lt hlt) (Heap.get?_push_of_some _ hoc) (Heap.get?_push_size _ rfl) hd hv (Heap.get?_push_of_some _ htb')
    exact hQ _ _ _ m2 m1 (VR.fn_iff.mpr ⟨_, rfl, _, _, m3, rfl, rfl, rfl, rfl, rfl, rfl, rfl, rfl, rfl, rfl, c', oc, vs, t, rfl, m4, hd, hv⟩)
  · refine kla_makeFunctionHit (mg := D.mg) hcl S.wf.glob hg hcd (C.keeps g.base') eP trip_one tab_one hb fun ctv h' tk hk hsz => ?_
    have kp : ∀ b o, s.heap.get? b = some o → (h'.push { cls := .type "function", data := .func (kla_fn name qual params body scope clos ((D.mg "__name__").getD .none) (.ref c') ctv) }).get? b = some o := fun b o e => Heap.get?_push_of_some _ (hk b o e)
    obtain ⟨g', x'⟩ := g.keeps (k := tk) kp
    have gn : G h'.objs.size = none := by
      cases q : G h'.objs.size with
      | none => rfl
      | some o => exact absurd (Heap.lt_size (g.sub _ _ q)) (Nat.not_lt.mpr hsz)
    have ef := Heap.get?_push_size h' (o := { cls := .type "function", data := .func (kla_fn name qual params body scope clos ((D.mg "__name__").getD .none) (.ref c') ctv) }) rfl
    have hs0 : s.heap.get? h'.objs.size = none := Heap.get?_ge hsz
    have g2 := g'.freeze ef gn (g'.notTab ef (fun _ q => by cases q))
    have x2 := x'.freeze (d := h'.objs.size) (o := { cls := .type "function", data := .func (kla_fn name qual params body scope clos ((D.mg "__name__").getD .none) (.ref c') ctv) }) gn hs0
    refine hQ _ _ _ x2 g2 (VR.fn_iff.mpr ⟨_, rfl, _, _, PO.add_self .., rfl, rfl, rfl, rfl, rfl, rfl, rfl, rfl, rfl, rfl, c', oc, vs, t, rfl, PO.le_add gn _ _ r1, r2, r3⟩)

theorem CallV.ofE {ps : Arguments} {body : Expr} {sc : Scope} {clos : List (Str × Addr)} {q : Str} {xs : List (Str × V)} {pn : List Str} {l : List V} {a : V} (gd : GD D) (hh : A.handled = none) (hroom : A.depth < recursionLimit) (hl : pn.length = l.length)
    (hbind : ∀ fd : FuncData, fd.params = ps → fd.defaults = .none → fd.kwdefaults = .none → ∀ vs : List Value, vs.length = pn.length → bindArgs fd ⟨vs, []⟩ = pure (pn.zip vs))
    (hb : ∀ c : Cx D, FnC c A sc.names clos → Ev c (bindRo sc.names (extRo sc.names xs) (pn.zip l)) body a)
    (ho : okNames sc.names = true) (hp : okBinds sc.names pn = true) (hk : sc.kind = .function) (hxs : ∀ x, (x, NameKind.free) ∈ sc.names → ∃ a, xs.lookup x = some a)
    (hco : sc.isCoroutine = false) (hgen : sc.isGenerator = false) : CallV D A (.fn ps (.expr body) sc clos q) clos xs l a := by
  intro G s E v vs g rf r hcl
  obtain ⟨f, rfl, ob, fd, e, ed, a1, a2, a3, a4, a5, a6, a7, a8, a9, c', oc, vc, t, b1, b2, b3, b4⟩ := VR.fn_iff.mp rf
  refine wpAny_call ?_
  refine kla_callFunE (fd := fd) hroom (g.sub _ _ e) ed (by rw [a3]; exact hco) (by rw [a3]; exact hgen) a2 ⟨c', oc, vc, t, b1, g.sub _ _ b2, b3, by rw [a5]; exact b4⟩ ?_
  rw [hbind fd a1 a8 a9 vs (by rw [← r.length, hl]), a3, a6, a7, a4]
  have lk : ∀ {x : Str} {b : V}, xs.lookup x = some b → (x, b) ∈ xs := fun {x b} h => by
    clear hcl hb hxs
    induction xs with
    | nil => cases h
    | cons y ys ih =>
      obtain ⟨y1, y2⟩ := y
      rw [List.lookup_cons] at h
      by_cases z : (x == y1) = true
      · rw [z] at h; cases h
        rw [show x = y1 by simpa using z]; exact .head _
      · rw [show (x == y1) = false by simpa using z] at h; exact .tail _ (ih h)
  have exg : ∀ (i : Nat) sl, (extRo sc.names xs)[i]? = some (some sl) → ∃ x b, (nk sc.names)[i]? = some (x, .ext) ∧ xs.lookup x = some b ∧ sl = .val b := fun i sl h => by
    unfold extRo at h
    rw [List.getElem?_map] at h
    cases e : (nk sc.names)[i]? with
    | none => rw [e] at h; cases h
    | some p =>
      rw [e] at h
      obtain ⟨x, k⟩ := p
      simp only [Option.map_some] at h
      by_cases hk : k = .ext
      · subst hk
        simp only [if_true] at h
        cases q : xs.lookup x with
        | none => rw [q] at h; cases h
        | some b => rw [q] at h; cases h; exact ⟨x, b, rfl, q, rfl⟩
      · rw [if_neg hk] at h; cases h
  refine wpAny_pure (newEnv_fn (D := D) (A := A) (G0 := G) (s0 := s) (ρ := extRo sc.names xs) hp hl r (fun k => fn_frame (Ext.refl ..) g hh ho hk (by simp [extRo]) (fun i x h1 h2 => ?_) (fun i sl h => ?_)) fun s' S' => ?_)
  · have hm := nk_get h1 h2
    have hm2 : (x, NameKind.free) ∈ sc.names := by rcases nk_mem hm with ⟨q, _⟩ | ⟨q, _⟩ | ⟨_, q⟩ <;> first | (cases q; done) | exact q
    obtain ⟨b, hb2⟩ := hxs x hm2
    obtain ⟨ad, v, e1, e2, e3⟩ := hcl _ (lk hb2)
    refine ⟨ad, some v, e1, e2, fun sl h3 => ⟨v, rfl, ?_⟩⟩
    obtain ⟨x', b', q1, q2, rfl⟩ := exg i sl h3
    have : x' = x := by
      have := h1
      unfold nkN at this
      rw [List.getElem?_map, q1] at this
      exact Option.some.inj this
    subst this
    rw [hb2] at q2; cases q2
    exact e3
  · obtain ⟨x', b', q1, _, _⟩ := exg i sl h
    unfold nkK
    rw [List.getElem?_map, q1]; rfl
  · refine ⟨gd.lim.keeps S'.ok.base', kla_codeExpr ?_⟩
    have hx := hb _ ⟨fnCx_fn (D := D) (A := A) (scope := sc) (cl := clos) (L := s.heap.objs.size) (qual := fd.qualname ++ ".<locals>.") (fa := f) (code := fd.code) (G0 := G) (s0 := s) hh hk, fun x hx => cellsFrom_other _ _ _ _ hx⟩
    refine wpAny_mono (hx.run G s' _ S') (fun v s₂ p => ?_) fun _ _ e => e
    obtain ⟨G₂, x₂, g₂, rv⟩ := p
    exact ⟨G₂, (S'.step x₂ g₂).ext, g₂, rv⟩

/-! ### sorted with a key that gives pairs of ints -/
noncomputable def goT {α : Type} (n : Nat) (lt : Nat → Nat → Bool) : KasT α → Option α
  | .ret a => some a
  | .ask i j k => if i < n ∧ j < n then goT n lt (k (lt i j)) else none
theorem goT_wp {α : Type} {n : Nat} {cmp : Nat → Nat → (Bool → Shared → Prop) → Shared → Prop} {lt : Nat → Nat → Bool} {Q : α → Shared → Prop} {s : Shared} (hc : ∀ i j (C : Bool → Shared → Prop), i < n → j < n → C (lt i j) s → cmp i j C s) :
    ∀ (t : KasT α) (a : α), goT n lt t = some a → Q a s → t.kasWp cmp Q s
  | .ret a, b, h, q => by cases h; exact q
  | .ask i j k, b, h, q => by
    unfold goT at h
    split at h
    · rename_i hij
      exact hc i j _ hij.1 hij.2 (goT_wp hc (k (lt i j)) b h q)
    · cases h
noncomputable def lexLt (a b : Int × Int) : Bool := if a.1 = b.1 then (if a.2 = b.2 then false else decide (a.2 < b.2)) else decide (a.1 < b.1)
noncomputable def pairV (p : Int × Int) : V := .tup [.int p.1, .int p.2]
theorem pair_at (g : GOK D G s) {p : Int × Int} {v : Value} (r : VR D G (pairV p) v) : ∃ a n t u, v = .ref a ∧ s.heap.get? a = some { cls := .type "tuple", data := .seq [Value.int p.1 t, Value.int p.2 u].toArray n } := by
  obtain ⟨a, us, rfl, ⟨n, e⟩, rs⟩ := VR.tup_iff.mp r
  obtain ⟨x, y, rfl, hx, hy⟩ := rs.two
  obtain ⟨t, rfl⟩ := VR.int_iff.mp hx
  obtain ⟨u, rfl⟩ := VR.int_iff.mp hy
  exact ⟨a, n, t, u, rfl, g.sub _ _ e⟩
theorem pair_lt (g : GOK D G s) {p q : Int × Int} {v w : Value} (hv : VR D G (pairV p) v) (hw : VR D G (pairV q) w) {C : Bool → Shared → Prop} {E} (h : C (lexLt p q) s) : wpAny D.M A (keyLt' (tuples' true) v w) C E s := by
  obtain ⟨a, n, t, u, rfl, e1⟩ := pair_at g hv
  obtain ⟨b, m, t', u', rfl, e2⟩ := pair_at g hw
  refine kat_lt e1 rfl e2 rfl ?_
  refine kat_cons (wpAny_eqBool_int ?_)
  unfold lexLt at h
  by_cases c1 : p.1 = q.1
  · rw [if_pos c1] at h
    rw [show (p.1 == q.1) = true by simpa using c1]
    refine kat_yes (kat_cons (wpAny_eqBool_int ?_))
    by_cases c2 : p.2 = q.2
    · rw [if_pos c2] at h
      rw [show (p.2 == q.2) = true by simpa using c2]
      exact kat_yes (kat_nil (by simpa using h))
    · rw [if_neg c2] at h
      rw [show (p.2 == q.2) = false by simpa using c2]
      exact kat_no (kat_one _ _ (PyProof.Rows.lt_int h))
  · rw [if_neg c1] at h
    rw [show (p.1 == q.1) = false by simpa using c1]
    exact kat_no (oneLt_int h)
theorem pairs_tups (g : GOK D G s) : ∀ (zs : List (Int × Int)) (ks : List Value), VRs D G (zs.map pairV) ks → ∃ fs, KatTups s.heap ks fs ∧ fs.length = zs.length ∧ ∀ v ∈ fs, ∃ n t, v = .int n t
  | [], ks, r => by
    unfold VRs at r
    simp only [List.map_nil] at r
    subst r
    exact ⟨[], KatTups.nil, rfl, by simp⟩
  | z :: zs, ks, r => by
    rw [List.map_cons] at r
    unfold VRs at r
    obtain ⟨u, r', rfl, hu, hr⟩ := r
    obtain ⟨fs, h1, h2, h3⟩ := pairs_tups g zs r' hr
    obtain ⟨a, n, t, u', rfl, e⟩ := pair_at g hu
    refine ⟨Value.int z.1 t :: fs, KatTups.cons e rfl rfl rfl h1, by simp [h2], fun v hv => ?_⟩
    rcases List.mem_cons.mp hv with rfl | hv
    · exact ⟨_, _, rfl⟩
    · exact h3 v hv
theorem VRs.getD {l : List V} {us : List Value} (r : VRs D G l us) {i : Nat} {a : V} (h : l[i]? = some a) : VR D G a (us.getD i Value.none) := by
  obtain ⟨u, e, hu⟩ := r.get h
  rw [List.getD_eq_getElem?_getD, e]; exact hu
end
end Mine
/-! PI29 -/
set_option maxRecDepth 10000
namespace Mine
section
variable {D : Wd} {c : Cx D} {A : Around} {ρ ρ' ρ'' ρ0 ρ1 : Ro} {G G' G0 Ga G₁ G₂ G₃ : PO} {s s' s0 sa s₁ s₂ s₃ : Shared} {h h' : Heap} {o : Out}

structure SI (D : Wd) (G0 : PO) (s0 : Shared) (l kS : Addr) (e1 : Nat) (ks : List Value) (e : Nat) (G : PO) (s : Shared) : Prop where
  x : Ext D.tabs G0 s0 G s
  g : GOK D G s
  hl : s.heap.get? l = some (seqObj "list" #[] e1)
  hk : s.heap.get? kS = some (seqObj "list" ks.toArray e)
  gl : G l = none
  gk : G kS = none
  nl : s0.heap.get? l = none
  nk : s0.heap.get? kS = none
  ne : l ≠ kS
theorem gone {b : Addr} {o : Obj} (x : Ext D.tabs G s G' s') (e : s.heap.get? b = some o) (n : G b = none) : G' b = none := by
  cases q : G' b with
  | none => rfl
  | some _ => rw [x.fresh b n (by rw [q]; simp)] at e; cases e
theorem SI.step {l kS : Addr} {e1 e : Nat} {ks : List Value} (S : SI D G0 s0 l kS e1 ks e G s) (y : Ext D.tabs G s G' s') (g : GOK D G' s') : SI D G0 s0 l kS e1 ks e G' s' :=
  ⟨S.x.then S.g y, g, y.keep _ _ (S.g.notTab S.hl (fun _ q => by cases q)) S.hl, y.keep _ _ (S.g.notTab S.hk (fun _ q => by cases q)) S.hk, gone y S.hl S.gl, gone y S.hk S.gk, S.nl, S.nk, S.ne⟩
theorem SI.key {l kS : Addr} {e1 e : Nat} {ks : List Value} (S : SI D G0 s0 l kS e1 ks e G s) (k : Value) : ∃ c, SI D G0 s0 l kS e1 (ks ++ [k]) c G { s with heap := s.heap.update kS (Obj.mapSeq (·.push k)) } := by
  have hs := Heap.SameBut.update s.heap kS (Obj.mapSeq (·.push k))
  have ht := S.g.notTab S.hk (fun _ q => by cases q)
  have ea : (List.toArray ks).push k = List.toArray (ks ++ [k]) := by simp
  obtain ⟨c2, hc2⟩ : ∃ c2, (s.heap.update kS (Obj.mapSeq (·.push k))).get? kS = some (seqObj "list" (List.toArray (ks ++ [k])) c2) := ⟨_, by rw [← ea]; exact get?_update_seq S.hk (·.push k)⟩
  exact ⟨c2, S.x.write (k := s.toks) S.nk hs, S.g.write (k := s.toks) S.gk ht hs, (hs.2 _ S.ne).trans S.hl, hc2, S.gl, S.gk, S.nl, S.nk, S.ne⟩

theorem key_loop {l kS : Addr} {e1 : Nat} {f : Value} {body : Value → PUnit → Sem (ForInStep PUnit)} {E : Value → Shared → Prop}
    (hb : ∀ x (s : Shared) (ks : List Value) (e : Nat) (R : Shared → Prop), List.length ks < 64 → wpAny D.M A (call f [x]) (fun k s1 => (∃ e', s1.heap.get? kS = some (seqObj "list" ks.toArray e')) ∧ R { s1 with heap := s1.heap.update kS (Obj.mapSeq (·.push k)) }) (fun _ _ => False) s →
      wpAny D.M A (body x ⟨⟩) (fun r s' => r = .yield ⟨⟩ ∧ R s') E s) :
    ∀ (us : List Value) (zs zk : List (Int × Int)) (ks : List Value) (e : Nat) (G : PO) (s : Shared), us.length = zs.length → zk.length + zs.length < 64 → SI D G0 s0 l kS e1 ks e G s → VRs D G (zk.map pairV) ks →
      (∀ (i : Nat) (u : Value) (z : Int × Int), us[i]? = some u → zs[i]? = some z → ∀ G s E, Ext D.tabs G0 s0 G s → GOK D G s → wpAny D.M A (call f [u]) (Post D G s (pairV z)) E s) →
      wpAny D.M A (forIn us PUnit.unit body) (fun _ s' => ∃ G' ks' e', SI D G0 s0 l kS e1 ks' e' G' s' ∧ VRs D G' ((zk ++ zs).map pairV) ks') E s
  | [], [], zk, ks, e, G, s, _, _, S, r, _ => by
    rw [List.forIn_nil]
    exact wpAny_pure ⟨G, ks, e, S, by simpa using r⟩
  | [], _ :: _, _, _, _, _, _, hl, _, _, _, _ => by simp at hl
  | _ :: _, [], _, _, _, _, _, hl, _, _, _, _ => by simp at hl
  | u :: us, z :: zs, zk, ks, e, G, s, hl, h64, S, r, hf => by
    rw [List.forIn_cons]
    have hlk := r.length
    rw [List.length_map] at hlk
    simp only [List.length_cons] at hl h64
    refine wpAny_bind (wpAny_mono (hb u s ks e (fun s' => ∃ G' k c, SI D G0 s0 l kS e1 (ks ++ [k]) c G' s' ∧ VRs D G' ((zk ++ [z]).map pairV) (ks ++ [k])) (by omega) (wpAny_mono (hf 0 u z rfl rfl G s _ S.x S.g) (fun k s1 p => ?_) fun _ _ e => e)) (fun q s' hq => ?_) fun _ _ x => x)
    · obtain ⟨G', y, g', rk⟩ := p
      have S' := S.step y g'
      obtain ⟨c, S''⟩ := S'.key k
      refine ⟨⟨_, S'.hk⟩, G', k, c, S'', ?_⟩
      rw [List.map_append]
      exact (r.mono y.le).append (VRs.cons rk VRs.nil)
    · obtain ⟨rfl, G', k, c, S', r'⟩ := hq
      show wpAny D.M A (forIn us PUnit.unit body) _ E s'
      have := key_loop hb us zs (zk ++ [z]) (ks ++ [k]) c G' s' (by omega) (by simp; omega) S' r' (fun i v w h1 h2 => hf (i + 1) v w h1 h2)
      simpa using this

theorem collect_range {r : Addr} {a b cc : Int} {t u v : Tok} {n : Nat} {Q : List Value → Shared → Prop} {E} (hh : A.handled = none) (hr : IsRange s.heap r a b cc t u v) (hsmall : Builtin.Range.small a b cc = true)
    (hn : Builtin.Range.rangeSize a b cc = n) (hlen : n ≤ 2 ^ 24)
    (hQ : ∀ h' tk acc, (∀ b o, s.heap.get? b = some o → h'.get? b = some o) → ItemsOf (fun i v => ∃ t, v = .int (a + i * cc) t) acc n → Q acc.toList { s with heap := h', toks := tk }) : wpAny D.M A (collect (.ref r)) Q E s := by
  unfold collect
  refine wpAny_bind (wpAny_runValue (codeAny_builtin entry_proto_collect' ?_))
  rw [Around.under_plainId PySem.F.plain_proto_collect _]
  show wpAny _ A.in1 (newList [] >>= fun l => again (.builtin "list.__iadd__" ⟨[l, .ref r], []⟩)) _ _ s
  refine wpAny_bind (wpAny_newObj_type ?_)
  refine wpAny_pure ⟨plainId_quiet PySem.F.plain_list_iadd _, codeAny_builtin entry_list_iadd' ?_⟩
  rw [Around.under_plainId PySem.F.plain_list_iadd _]
  have hS₁ : (s.heap.push { cls := .type "list", data := .seq ([] : List Value).toArray }).get? s.heap.objs.size = some { cls := .type "list", data := .seq #[] } := Heap.get?_push_size _ rfl
  show wpAny _ A.in1 (Builtin.List.listExtendWith (.ref s.heap.objs.size) (.ref r) (.ref s.heap.objs.size)) _ _ _
  have key := wpAny_extend_range (prog := D.prog) (w := D.w) (A := A) (s := { s with heap := s.heap.push { cls := .type "list", data := .seq ([] : List Value).toArray } })
    (R := fun (q : Result) (s' : Shared) => ∃ (h' : Heap) (tk : Nat) (acc' : Array Value) (c' : Nat), q = .ok (.ret (.ref s.heap.objs.size)) ∧ s' = { s with heap := h', toks := tk } ∧
      (∀ b o, s.heap.get? b = some o → h'.get? b = some o) ∧ h'.get? s.heap.objs.size = some { cls := .type "list", dict := none, data := .seq acc' c', slots := #[] } ∧ ItemsOf (fun i v => ∃ t, v = .int (a + i * cc) t) acc' n)
    hh (Heap.get?_push_of_some _ hr) hsmall hn hlen s.heap.objs.size (.ref s.heap.objs.size) 0 hS₁
    (fun h' tk acc' c' hk hS' hacc => ⟨h', tk, acc', c', rfl, rfl, fun b o e => hk b o (Nat.ne_of_lt (Heap.lt_size e)) (Heap.get?_push_of_some _ e), hS', hacc⟩)
  refine wpAny_mono key (fun fin s' x => ?_) fun e s' x => ?_
  · cases fin with
    | done f =>
      obtain ⟨h', tk, acc', c', e, rfl, hk, hS', hacc⟩ := x
      cases e
      show wpAny _ A (load s.heap.objs.size >>= _) _ _ _
      refine wpAny_bind (wpAny_load hS' ?_)
      refine wpAny_pure ?_
      exact hQ h' tk acc' hk hacc
    | again c₁ =>
      refine ⟨x.1, codeAny_mono x.2 fun q s₂ y => ?_⟩
      obtain ⟨h', tk, acc', c', rfl, rfl, hk, hS', hacc⟩ := y
      show wpAny _ A (load s.heap.objs.size >>= _) _ _ _
      refine wpAny_bind (wpAny_load hS' ?_)
      refine wpAny_pure ?_
      exact hQ h' tk acc' hk hacc
  · obtain ⟨_, _, _, _, e', _⟩ := x
    cases e'
end
end Mine
/-! PI30 -/
set_option maxRecDepth 10000
namespace Mine
section
variable {D : Wd} {c : Cx D} {A : Around} {ρ ρ' ρ'' ρ0 ρ1 : Ro} {G G' G0 Ga G₁ G₂ G₃ : PO} {s s' s0 sa s₁ s₂ s₃ : Shared} {h h' : Heap} {o : Out}

theorem pairs_kind (g : GOK D G s) {zs : List (Int × Int)} {ks : List Value} (r : VRs D G (zs.map pairV) ks) (hne : 0 < zs.length) {Q : SortKind → Shared → Prop} {E} (hQ : Q (tuples' true) s) : wpAny D.M A (keyKind' ks.toArray) Q E s := by
  obtain ⟨fs, h1, h2, h3⟩ := pairs_tups g zs ks r
  refine kat_kind (T := .type "int") h1 (by omega) (fun v hv => ?_) rfl hQ
  obtain ⟨n, t, rfl⟩ := h3 v hv
  exact Looks.of_pure rfl

theorem sort_end {l kS : Addr} {e1 e : Nat} {ks us : List Value} {zs : List (Int × Int)} {p : Array Nat} {P : PySem.Fin → Shared → Prop} {E : Value → Shared → Prop} (S : SI D G0 s0 l kS e1 ks e G s) (r : VRs D G (zs.map pairV) ks) (hl : zs.length = us.length) (h2 : 2 ≤ us.length) (h64 : us.length < 64)
    (hp : goT zs.length (fun i j => lexLt (zs.getD i (0, 0)) (zs.getD j (0, 0))) (kas_sort us.length) = some p)
    (h : ∀ s' c, Ext D.tabs G0 s0 G s' → GOK D G s' → s'.heap.get? l = some (seqObj "list" (p.toList.map fun i => us.getD i Value.none).toArray c) → P (.done (.ret .none)) s') :
    wpAny D.M A (ksk_end l false us.toArray e1 (.ref kS) ks.toArray) P E s := by
  have hkl : ks.length = us.length := by have := r.length; rw [List.length_map] at this; omega
  have hn2 : ¬ us.toArray.size < 2 := by rw [List.size_toArray]; omega
  unfold ksk_end
  simp only [Bool.false_eq_true, if_false]
  rw [if_neg hn2, if_neg hn2]
  refine wpAny_bind (pairs_kind S.g r (by omega) ?_)
  have hk : (kas_sort us.length).kasWp (kas_ask D.prog D.w A (tuples' true) ks) (fun q s' => q = p ∧ s' = s) s := by
    refine goT_wp (n := zs.length) (lt := fun i j => lexLt (zs.getD i (0, 0)) (zs.getD j (0, 0))) (fun i j C hi hj hC => ?_) _ p hp ⟨rfl, rfl⟩
    have gi : (zs.map pairV)[i]? = some (pairV (zs.getD i (0, 0))) := by rw [List.getElem?_map, List.getD_eq_getElem?_getD, List.getElem?_eq_getElem hi]; rfl
    have gj : (zs.map pairV)[j]? = some (pairV (zs.getD j (0, 0))) := by rw [List.getElem?_map, List.getD_eq_getElem?_getD, List.getElem?_eq_getElem hj]; rfl
    exact pair_lt S.g (r.getD gi) (r.getD gj) hC
  refine wpAny_bind (wpAny_mono (kat_run (Q := fun st' s' => ∃ q : Array Nat, q.size = us.length ∧ arrOf st' = q.map (kas_item (ks.toArray.zip us.toArray)) ∧ failedOf st' = none ∧ q = p ∧ s' = s)
    hkl h2 h64 (fun p' st' s' a1 a2 a3 a4 => ⟨p', a1, a2, a3, a4.1, a4.2⟩) hk) ?_ fun _ _ x => x)
  rintro ⟨⟨⟩, st'⟩ s' ⟨q, hq, har, hf, rfl, rfl⟩
  dsimp only
  have hout := kat_snds hkl har
  have hsz : (List.toArray (q.toList.map fun i => us.getD i Value.none)).size = us.length := by rw [List.size_toArray, List.length_map, Array.length_toList, hq]
  unfold ksk_tail
  dsimp only
  rw [hout]
  have hs1 := Heap.SameBut.update s'.heap kS (Obj.mapSeq fun _ => (#[] : Array Value))
  have hl1 := (hs1.2 _ S.ne).trans S.hl
  have hs2 := Heap.SameBut.update (s'.heap.update kS (Obj.mapSeq fun _ => (#[] : Array Value))) l (Obj.mapSeq fun _ => List.toArray (q.toList.map fun i => us.getD i Value.none))
  obtain ⟨c2, hc2⟩ : ∃ c2, ((s'.heap.update kS (Obj.mapSeq fun _ => (#[] : Array Value))).update l (Obj.mapSeq fun _ => List.toArray (q.toList.map fun i => us.getD i Value.none))).get? l = some (seqObj "list" (List.toArray (q.toList.map fun i => us.getD i Value.none)) c2) := ⟨_, get?_update_seq hl1 fun _ => List.toArray (q.toList.map fun i => us.getD i Value.none)⟩
  have x1 := S.x.write (k := s'.toks) S.nk hs1
  have g1 := S.g.write (k := s'.toks) S.gk (S.g.notTab S.hk (fun _ q => by cases q)) hs1
  have x2 := Ext.write (k := s'.toks) x1 S.nl hs2
  have g2 := GOK.write (k := s'.toks) g1 S.gl (g1.notTab hl1 (fun _ q => by cases q)) hs2
  refine wpAny_bind (listUpdate_at S.hk rfl ?_ (by rw [List.size_toArray, sizeLine_eq]; omega) (Nat.zero_le _))
  refine wpAny_bind (wpAny_letGo ?_)
  refine wpAny_bind (seqEpoch_at hl1 rfl ?_)
  refine wpAny_bind (listUpdate_at hl1 rfl ?_ (Nat.zero_le _) (Nat.le_trans (Nat.le_of_eq hsz) (by rw [sizeLine_eq]; omega)))
  rw [hf]
  simp only [bne_self_eq_false, Bool.false_eq_true, if_false]
  exact wpAny_pure (h _ c2 x2 g2 hc2)

theorem sort_tree {l : Addr} {f : Value} {n : Nat} {us : List Value} {zs : List (Int × Int)} {p : Array Nat} {P : PySem.Fin → Shared → Prop} {E : Value → Shared → Prop} (x : Ext D.tabs G0 s0 G s) (g : GOK D G s) (ho : s.heap.get? l = some (seqObj "list" us.toArray n)) (gl : G l = none) (nl : s0.heap.get? l = none)
    (hl : zs.length = us.length) (h2 : 2 ≤ us.length) (h64 : us.length < 64)
    (hp : goT zs.length (fun i j => lexLt (zs.getD i (0, 0)) (zs.getD j (0, 0))) (kas_sort us.length) = some p)
    (hf : ∀ (i : Nat) (u : Value) (z : Int × Int), us[i]? = some u → zs[i]? = some z → ∀ G s E, Ext D.tabs G0 s0 G s → GOK D G s → wpAny D.M A (call f [u]) (Post D G s (pairV z)) E s)
    (h : ∀ G s' c, Ext D.tabs G0 s0 G s' → GOK D G s' → G l = none → s'.heap.get? l = some (seqObj "list" (p.toList.map fun i => us.getD i Value.none).toArray c) → P (.done (.ret .none)) s') :
    wpAny D.M A (ksk_tree l f false) P E s := by
  have hs1 := Heap.SameBut.update s.heap l (Obj.mapSeq fun _ => (#[] : Array Value))
  obtain ⟨e1, ho1⟩ : ∃ e1, (s.heap.update l (Obj.mapSeq fun _ => (#[] : Array Value))).get? l = some (seqObj "list" #[] e1) := ⟨_, get?_update_seq ho fun _ => #[]⟩
  have x1 := x.write (k := s.toks) nl hs1
  have g1 := g.write (k := s.toks) gl (g.notTab ho (fun _ q => by cases q)) hs1
  obtain ⟨g2, x2, _, _, _⟩ := g1.push_away (o := seqObj "tuple" us.toArray 0) (k := s.toks)
  have hkp : ∀ (hh : Heap) (o : Obj) (b : Addr) (o' : Obj), hh.get? b = some o' → (hh.push o).get? b = some o' := fun hh o b o' e => Heap.get?_push_of_some _ e
  unfold ksk_tree
  refine wpAny_bind (listItems_at ho rfl ?_)
  refine wpAny_bind (listUpdate_at ho rfl ?_ (by rw [List.size_toArray, sizeLine_eq]; omega) (Nat.zero_le _))
  refine wpAny_bind (seqEpoch_at ho1 rfl ?_)
  refine wpAny_bind (wpAny_newTuple ?_ (by show us.length ≤ _; rw [sizeLine_eq]; omega))
  refine wpAny_bind (wpAny_newList ?_ (Nat.zero_le _))
  refine wpAny_holding ?_
  obtain ⟨g3, x3, n1, n2, n3⟩ := g2.push_away (o := seqObj "list" #[] 0) (k := s.toks)
  have nk : s0.heap.get? ((s.heap.update l (Obj.mapSeq fun _ => (#[] : Array Value))).push (seqObj "tuple" us.toArray 0)).objs.size = none := by
    cases q : s0.heap.get? ((s.heap.update l (Obj.mapSeq fun _ => (#[] : Array Value))).push (seqObj "tuple" us.toArray 0)).objs.size with
    | none => rfl
    | some o' =>
      have := (x1.then g1 x2).keep _ _ n3 q
      rw [n2] at this
      cases this
  have nelk : l ≠ ((s.heap.update l (Obj.mapSeq fun _ => (#[] : Array Value))).push (seqObj "tuple" us.toArray 0)).objs.size :=
    Nat.ne_of_lt (Heap.lt_size (hkp _ (seqObj "tuple" us.toArray 0) _ _ ho1))
  have S : SI D G0 s0 l ((s.heap.update l (Obj.mapSeq fun _ => (#[] : Array Value))).push (seqObj "tuple" us.toArray 0)).objs.size e1 [] 0 G { s with heap := ((s.heap.update l (Obj.mapSeq fun _ => (#[] : Array Value))).push (seqObj "tuple" us.toArray 0)).push (seqObj "list" #[] 0) } :=
    ⟨(x1.then g1 x2).then g2 x3, g3, hkp _ _ _ _ (hkp _ _ _ _ ho1), Heap.get?_push_size _ rfl, gl, n1, nl, nk, nelk⟩
  unfold ksk_rest
  refine wpAny_bind (wpAny_rule ?_)
  first
    | rw [List.forIn_toArray]
    | (rw [← Array.forIn_toList]; simp only [List.toList_toArray])
    | rw [← Array.forIn_toList]
  refine wpAny_bind (wpAny_mono (key_loop (f := f) (fun x s ks e R hz hx => ?_) us zs [] [] 0 G _ hl.symm (by simp; omega) S VRs.nil hf) (fun _ s' hd => ?_) fun _ _ x => x)
  · refine wpAny_bind (wpAny_attempt (wpAny_mono hx (fun k s'' hk => ?_) fun _ _ hF => hF.elim))
    obtain ⟨⟨e', hk'⟩, hR⟩ := hk
    dsimp only
    refine wpAny_bind (listUpdate_at hk' rfl ?_ (by rw [List.size_toArray, sizeLine_eq]; omega) (Nat.le_trans (Nat.le_of_eq (Array.size_push ..)) (by rw [List.size_toArray, sizeLine_eq]; omega)))
    exact wpAny_pure ⟨rfl, hR⟩
  · obtain ⟨G', ks', e', S', r'⟩ := hd
    dsimp only
    refine wpAny_bind (listItems_at S'.hk rfl ?_)
    exact sort_end S' (by simpa using r') hl h2 h64 hp (fun s' c x' g' hh => h _ _ c x' g' S'.gl hh)

theorem sorted_range {r f : Addr} {t u v : Tok} {n : Nat} {zs : List (Int × Int)} {p : Array Nat} {E : Value → Shared → Prop} (sm : D.h₀.get? cStatics ≠ none) (hh : A.handled = none) (g : GOK D G s) (hr : IsRange s.heap r 0 n 1 t u v) (hl : zs.length = n) (h2 : 2 ≤ n) (h64 : n < 64)
    (hp : goT n (fun i j => lexLt (zs.getD i (0, 0)) (zs.getD j (0, 0))) (kas_sort n) = some p) (hpn : ∀ i ∈ p.toList, i < n)
    (hf : ∀ (i : Nat) (u : Value) (z : Int × Int), (∃ t, u = .int i t) → zs[i]? = some z → ∀ G' s' E, Ext D.tabs G s G' s' → GOK D G' s' → wpAny D.M A.in1.in1 (call (.ref f) [u]) (Post D G' s' (pairV z)) E s') :
    wpAny D.M A (call (.builtin "sorted") [.ref r] [(Str.ofString "key", .ref f)]) (Post D G s (.list ((p.toList.map fun i : Nat => (i : Int)).map V.int))) E s := by
  refine call_function_entry_kw kind_sorted plain_sorted entry_sorted (ksk_s1 _ _) ?_
  unfold Builtin.«sorted»
  refine wpAny_bind (m := checkCount "sorted" 1 1 _) (wpAny_pure ?_)
  have hsize : Builtin.Range.rangeSize 0 (n : Int) 1 = (n : Int) := by rw [rangeSize_one]; split <;> omega
  refine wpAny_bind (collect_range (A := A.in1) hh hr (small_one (by decide) (by decide) (by omega) (by omega)) hsize (by omega) fun h1 tk acc hk hacc => ?_)
  obtain ⟨g1, x1⟩ := g.keeps (k := tk) hk
  have hal : acc.toList.length = n := by rw [Array.length_toList]; exact hacc.1
  refine wpAny_bind (wpAny_newList ?_ (by rw [sizeLine_eq]; omega))
  obtain ⟨g2, x2, n1, n2, n3⟩ := g1.push_away (o := seqObj "list" acc.toList.toArray 0) (k := tk)
  have nl : s.heap.get? h1.objs.size = none := by
    cases q : s.heap.get? h1.objs.size with
    | none => rfl
    | some o' => exact absurd (Heap.lt_size (hk _ _ q)) (Nat.lt_irrefl _)
  have hol : (h1.push (seqObj "list" acc.toList.toArray 0)).get? h1.objs.size = some (seqObj "list" acc.toList.toArray 0) := Heap.get?_push_size _ rfl
  refine wpAny_bind (wpAny_holding (wpAny_call_entry_kw slot_list_sort ⟨_, hol, rfl⟩ entry_list_sort ?body (ksk_l1 _ _)))
  rw [ksk_t1]
  refine sort_tree (zs := zs) (us := acc.toList) (p := p) (n := 0) (G0 := G) (s0 := s) (G := G) (s := { s with heap := h1.push (seqObj "list" acc.toList.toArray 0), toks := tk }) (x1.then g1 x2) g2 hol n1 nl (by omega) (by omega) (by omega) (by rw [hl, hal]; exact hp) (fun i w z hw hz G' s' E' x' g' => ?_) (fun G' s' c x' g' gl' hl' => ?_)
  · refine hf i w z ?_ hz G' s' E' x' g'
    have hw' : acc[i]? = some w := by rw [Array.getElem?_toList] at hw; exact hw
    obtain ⟨t', e⟩ := hacc.2 i w hw'
    refine ⟨t', ?_⟩
    rw [e]; congr 1; omega
  · refine ⟨.none, rfl, wpAny_pure ⟨_, rfl, ?_⟩⟩
    have ht := g'.notTab hl' (fun _ q => by cases q)
    have g3 := g'.freeze hl' gl' ht
    have x3 := x'.freeze (o := seqObj "list" (p.toList.map fun i => acc.toList.getD i Value.none).toArray c) gl' nl
    have hne : h1.objs.size ≠ sysModules := fun q => sm_ne sm g1 q.symm
    refine ⟨_, x3, g3, VR.frozen (a := .list ((p.toList.map fun i : Nat => (i : Int)).map V.int)) hne hl' gl' ?_⟩
    refine ⟨_, VRs.of_ints ?_, c, hl'⟩
    clear hp x3 g3 hl' ht
    have : ∀ l : List Nat, (∀ i ∈ l, i < n) → IntsAre (l.map fun i => acc.toList.getD i Value.none) (l.map fun i : Nat => (i : Int)) := by
      intro l
      induction l with
      | nil => intro _; exact IntsAre.nil
      | cons i l ih =>
        intro hl
        have hi := hl i (.head _)
        have e : acc.toList.getD i Value.none = acc.toList[i] := by simp [List.getD_eq_getElem?_getD, List.getElem?_eq_getElem (by omega : i < acc.toList.length)]
        have e2 : acc[i]? = some (acc.toList.getD i Value.none) := by
          rw [e, ← Array.getElem?_toList, List.getElem?_eq_getElem (by omega)]
        obtain ⟨t', e3⟩ := hacc.2 i _ e2
        rw [List.map_cons, List.map_cons, e3]
        have : (0 : Int) + (i : Int) * 1 = (i : Int) := by omega
        rw [this]
        exact IntsAre.cons _ _ (ih fun j hj => hl j (.tail _ hj))
    exact this _ hpn
end
end Mine
/-! PI31 -/
set_option maxRecDepth 10000
namespace Mine
section
variable {D : Wd} {c : Cx D} {A : Around} {ρ ρ' ρ'' ρ0 ρ1 : Ro} {G G' G0 Ga G₁ G₂ G₃ : PO} {s s' s0 sa s₁ s₂ s₃ : Shared} {h h' : Heap} {o : Out}

theorem Ev.sortedRange {x y : Str} {np np2 p2 pos lpos kp : Pos} {e : Expr} {n : Nat} {params : Arguments} {body : Expr} {scope : Scope} {cA P : Addr} {qual : Str} {zs : List (Int × Int)} {p : Array Nat} (gd : GD D) (sm : D.h₀.get? cStatics ≠ none) (hh : c.A.handled = none)
    (hn : Glo c ρ (.Name x np) (.builtin "sorted")) (hr : Glo c ρ (.Name y np2) (.type "range")) (he : EvL c ρ [e] [.int n])
    (hq : (P, lpos, qual) ∈ D.ti) (hnd : (D.ti.map (·.1)).Nodup) (hcd : c.env.code = .ref cA) (C : CodeHd D.h₀ cA P) (hB : D.h₀.BuiltinsAt D.mg P) (hf : okFree c.names c.kinds scope.names = true) (hqn : c.env.qual ++ "<lambda>" = qual) (hdef : defaultsOf params c.env = ([], []))
    (hl : zs.length = n) (h2 : 2 ≤ n) (h64 : n < 64) (hp : goT n (fun i j => lexLt (zs.getD i (0, 0)) (zs.getD j (0, 0))) (kas_sort n) = some p) (hpn : ∀ i ∈ p.toList, i < n)
    (hcall : ∀ clos : List (Str × Addr), (∀ x ∈ freeNames scope.names, clos.lookup x = c.env.cells.lookup x) → ∃ xs, ClosOk c ρ clos xs ∧ ∀ (i : Nat) (z : Int × Int), zs[i]? = some z → CallV D c.A.in1.in1 (.fn params (.expr body) scope clos qual) clos xs [.int i] (pairV z))
    (hp0 : ∀ pos env, (backTo pos (starEach [e] env)).any (·.1) = false := by intro _ _; rfl) :
    Ev c ρ (.Call (.Name x np) [.Call (.Name y np2) [e] [] p2] [⟨some (Str.ofString "key"), .Lambda params body scope lpos, kp⟩] pos) (.list ((p.toList.map fun i : Nat => (i : Int)).map V.int)) := .mk fun G s E S => by
  refine wpAny_Call_Name_kw (hn G s _ E S ?_)
  refine callWith_kw ?_ rfl rfl rfl rfl
  show wpAny D.M c.A (spliced [(false, eval (.Call (.Name y np2) [e] [] p2) c.env)]) _ E s
  refine spliced_cons (wpAny_Call_NameR (hr G s _ E S (callWith_gen S Kpr.type he (fun vs s₁ G₁ x₁ g₁ r₁ => ?_) (hp0 p2))))
  obtain ⟨v, rfl, hv⟩ := r₁.one
  obtain ⟨t, rfl⟩ := VR.int_iff.mp hv
  refine call_range_1 ?_
  obtain ⟨g₂, x₂⟩ := g₁.push_frozen (o := { cls := .type "range", data := .fields #[.int 0 s₁.toks, .int n t, .int 1 (s₁.toks + 1)] }) (n := s₁.toks + 1 + 1) rfl
  refine Calls.spliced_nil ?_
  have S₁ := S.step x₁ g₁
  have S₂ := S₁.step x₂ g₂
  obtain ⟨cl, e1, e2⟩ := closureFor_of (env := c.env) (scope := scope) fun x hx => by
    obtain ⟨f1, k', f2, f3⟩ := okFree_get hf (freeNames_mem.mp hx)
    obtain ⟨a, _, e1, _⟩ := S.cel _ x k' f1 f2 f3
    exact ⟨a, e1⟩
  refine kws_cons (kla_eval hdef ?_)
  rw [hqn]
  refine make_fnE gd S₂ hq hnd hcd C hB e1 fun v s₃ G₃ x₃ g₃ r₃ => kws_nil ?_
  obtain ⟨f, rfl, hF⟩ := VR.fn_iff.mp r₃
  have S₃ := S₂.step x₃ g₃
  obtain ⟨xs, hx, hz⟩ := hcall cl e2
  have hcl := hx.at S₃
  show wpAny D.M c.A (PySem.call (.builtin "sorted") [.ref s₁.heap.objs.size] [(Str.ofString "key", .ref f)]) _ E s₃
  have hrg : IsRange s₃.heap s₁.heap.objs.size 0 n 1 s₁.toks t (s₁.toks + 1) := g₃.sub _ _ (x₃.le _ _ (PO.add_self ..))
  refine wpAny_mono (sorted_range (G := G₃) (zs := zs) (p := p) sm hh g₃ hrg hl h2 h64 hp hpn fun i u z hu hi G' s' E' x' g' => ?_) (fun v s' q => ((q.after x₃ g₃).after x₂ g₂).after x₁ g₁) fun _ _ e => e
  obtain ⟨t', rfl⟩ := hu
  exact hz i z hi G' s' E' (.ref f) [.int i t'] g' (r₃.mono x'.le) (VRs.cons (VR.int_iff.mpr ⟨t', rfl⟩) VRs.nil) (hcl.step g₃ x')
end
end Mine
/-! PJ0 -/
namespace Mine

/-! the defs of the program: by their place in its body -/
noncomputable def top (i : Nat) : Stmt := (PySem.Challenge.pw_ph0169_01.main.body[i]?).getD (.Pass ⟨0, 0, 0, 0⟩)
noncomputable def defBody : Stmt → List Stmt
  | .FunctionDef _ _ body _ _ _ _ _ _ _ => body
  | .ClassDef _ _ _ body _ _ _ _ _ _ _ => body
  | _ => []
noncomputable def defScope : Stmt → Scope
  | .FunctionDef _ _ _ _ _ _ scope _ _ _ => scope
  | .ClassDef _ _ _ _ _ _ scope _ _ _ _ => scope
  | _ => default
noncomputable def bd (i : Nat) : List Stmt := defBody (top i)
noncomputable def sc (i : Nat) : Scope := defScope (top i)
noncomputable def mbd (i j : Nat) : List Stmt := defBody (((bd i)[j]?).getD (.Pass ⟨0, 0, 0, 0⟩))
noncomputable def msc (i j : Nat) : Scope := defScope (((bd i)[j]?).getD (.Pass ⟨0, 0, 0, 0⟩))

structure PG (D : Wd) where
  gd : GD D
  sm : D.h₀.get? cStatics ≠ none
  bui : ∀ x ∈ (["len", "sum", "max", "range", "reversed", "sorted", "divmod", "tuple"] : List Str), D.mg x = none
  adr : Nat → Addr
  nm : Nat → Str
  fg : ∀ i ∈ [3, 5, 6, 7, 9, 10, 11, 12, 14, 16, 17, 18, 19, 20], D.mg (nm i) = some (.ref (adr i))

section
variable {D : Wd} {c : Cx D} {A : Around} {ρ ρ' ρ'' ρ0 ρ1 : Ro} {o : Out} {l : List (Str × NameKind)}
theorem Ev.nm (F : Fr c l) (i : Nat) {x : Str} {pos : Pos} {a : V} (hx : (nkN l)[i]? = some x) (hr : ρ[i]? = some (some (.val a))) : Ev c ρ (.Name x pos) a :=
  Ev.name (i := i) (by rw [F.names]; exact hx) hr
theorem EvD.nm (F : Fr c l) (i : Nat) {x : Str} {pos : Pos} {a : V} (hx : (nkN l)[i]? = some x) (hr : ρ[i]? = some (some (.own a))) (hso : Sole ρ i) : EvD c ρ (.Name x pos) a :=
  EvD.own (i := i) (by rw [F.names]; exact hx) hr hso
theorem Ex.st (F : Fr c l) (i : Nat) {x : Str} {np pos : Pos} {e : Expr} {a : V} {k : VK} (he : Ev c ρ e a) (hx : (nkN l)[i]? = some x) (hk : (nkK l)[i]? = some k) (hne : k ≠ .ext)
    (hs : ∀ env p ln, swapsWith e (some (.Name x p)) ln env = pure false) : Ex c ρ (.Assign [.Name x np] e pos) (.next (ρ.set i (some (.val a)))) :=
  Ex.set he (by rw [F.names]; exact hx) (by rw [F.kinds]; exact hk) hne hs
theorem Ex.stO (F : Fr c l) (i : Nat) {x : Str} {np pos : Pos} {e : Expr} {a : V} {k : VK} (he : EvO c ρ e a) (hx : (nkN l)[i]? = some x) (hk : (nkK l)[i]? = some k) (hne : k ≠ .ext)
    (hs : ∀ env p ln, swapsWith e (some (.Name x p)) ln env = pure false) : Ex c ρ (.Assign [.Name x np] e pos) (.next (ρ.set i (some (.own a)))) :=
  Ex.own he (by rw [F.names]; exact hx) (by rw [F.kinds]; exact hk) hne hs
theorem Ex.stC (F : Fr c l) (i : Nat) {x : Str} {np pos : Pos} {e : Expr} {a : V} (he : Ev c ρ e a) (hx : (nkN l)[i]? = some x) (hk : (nkK l)[i]? = some .own) : Ex c ρ (.Assign [.Name x np] e pos) (.next (ρ.set i (some (.val a)))) :=
  Ex.setCell' he (by rw [F.names]; exact hx) (by rw [F.kinds]; exact hk)
theorem AsgR.nm (F : Fr c l) (i : Nat) {x : Str} {pos : Pos} {k : VK} {a : V} (hx : (nkN l)[i]? = some x) (hk : (nkK l)[i]? = some k) (hne : k ≠ .ext) : AsgR c ρ (.Name x pos) a (ρ.set i (some (.val a))) :=
  AsgR.name (by rw [F.names]; exact hx) (by rw [F.kinds]; exact hk) hne
theorem Glo.b (P : PG D) (F : Fr c l) {x : Str} {pos : Pos} {v : Value} (hk : l.lookup x = some .globalImplicit) (hm : x ∈ (["len", "sum", "max", "range", "reversed", "sorted", "divmod", "tuple"] : List Str)) (hv : bootBuiltins x = some v)
    (hn : x ≠ "__name__") (hd : (x == ("__debug__" : Str)) = false) : Glo c ρ (.Name x pos) v :=
  Glo.bui P.gd (F.glob x hk) (P.bui x hm) hv hn hd
theorem Glo.t (P : PG D) (F : Fr c l) (i : Nat) {x : Str} {pos : Pos} (hk : l.lookup x = some .globalImplicit) (hx : P.nm i = x) (hi : i ∈ [3, 5, 6, 7, 9, 10, 11, 12, 14, 16, 17, 18, 19, 20]) (hd : (x == ("__debug__" : Str)) = false) : Glo c ρ (.Name x pos) (.ref (P.adr i)) :=
  Glo.top P.gd (F.glob x hk) (by rw [← hx]; exact P.fg i hi) hd

/-! ### the names that a comprehension sees -/
noncomputable def idxsOf (ns : List Str) (l : List (Str × NameKind)) : List (Option Nat) := (nk l).map fun p => match p.2 with | .ext => some (ns.idxOf p.1) | _ => none
noncomputable def pick1 (ρ : Ro) : Option Nat → Option Slot
  | none => none
  | some j => match ρ[j]? with | some (some (.val a)) => some (.val a) | _ => none
noncomputable def pickRo (idxs : List (Option Nat)) (ρ : Ro) : Ro := idxs.map (pick1 ρ)
theorem compRo_pick {ns : List Str} {l : List (Str × NameKind)} {idxs : List (Option Nat)} (h : idxsOf ns l = idxs) : compRo ns ρ l = pickRo idxs ρ := by
  subst h
  unfold compRo pickRo idxsOf
  rw [List.map_map]
  apply List.map_congr_left
  rintro ⟨x, k⟩ _
  cases k <;> first
    | rfl
    | (simp [pick1]; done)
    | (simp [pick1]; rcases ρ[List.idxOf x ns]? with _ | _ | z | z <;> simp)
theorem noOwn_pick (idxs : List (Option Nat)) : NoOwn (pickRo idxs ρ) := fun i a h => by
  unfold pickRo at h
  rw [List.getElem?_map] at h
  cases e : idxs[i]? with
  | none => rw [e] at h; cases h
  | some z =>
    rw [e] at h
    cases z with
    | none => cases h
    | some j =>
      simp only [Option.map_some, pick1] at h
      split at h <;> cases h
theorem NoOwn.set (h : NoOwn ρ) (i : Nat) (a : V) : NoOwn (ρ.set i (some (.val a))) := fun j b e => by
  rw [List.getElem?_set] at e
  split at e
  · split at e <;> cases e
  · exact h j b e
theorem Sub.set {i : Nat} {sl : Slot} (h : ρ[i]? = some none) : Sub ρ (ρ.set i (some sl)) := fun j sl' e => by
  rw [List.getElem?_set]
  by_cases q : i = j
  · subst q; rw [h] at e; cases e
  · rw [if_neg q]; exact e
theorem Sub.trans (a : Sub ρ ρ') (b : Sub ρ' ρ'') : Sub ρ ρ'' := fun i sl e => b i sl (a i sl e)
theorem Sub.refl : Sub ρ ρ := fun _ _ e => e

theorem Ev.lc (P : PG D) (F : Fr c l) (idxs : List (Option Nat)) {α : Type} {φ : α → V} {zs : List α} {elt tgt itx : Expr} {ifs : List Expr} {scope : Scope} {pos : Pos} {f : α → Option V}
    (hit : ItE c ρ tgt itx (zs.map φ)) (hl : (zs.filterMap f).length ≤ 10000)
    (ht : ∀ c' : Cx D, Fr c' scope.names → c'.A = c.A → ∀ z ∈ zs, Turn1 c' (pickRo idxs ρ) tgt ifs elt (φ z) (f z))
    (hidx : idxsOf (nkN l) scope.names = idxs) (ho : okNames scope.names = true) (hk : scope.kind = .function) (hf : okFree (nkN l) (nkK l) scope.names = true)  (hs : ∀ x env, foldedSetIterable itx env x = pure x) :
    Ev c ρ (.ListComp elt [⟨tgt, itx, ifs, 0⟩] scope pos) (.list (zs.filterMap f)) :=
  Ev.listGen P.sm hit (fun c' F' hA _ z hz => by rw [F.names, compRo_pick hidx]; exact ht c' F' hA z hz) ho hk (by rw [F.names, F.kinds]; exact hf) hl hs
theorem Ev.lc2 (P : PG D) (F : Fr c l) (idxs : List (Option Nat)) {α β : Type} {φ : α → V} {ψ : β → V} {zs : List α} {elt tgt itx tgt' itx' : Expr} {ifs ifs' : List Expr} {scope : Scope} {pos : Pos} {K : α → List β} {f : α → β → Option V}
    (hit : ItE c ρ tgt' itx' (zs.map φ)) (hl : (zs.flatMap fun x => (K x).filterMap (f x)).length ≤ 5000)
    (ht : ∀ c' : Cx D, Fr c' scope.names → c'.A = c.A → ∀ x ∈ zs, ∃ ρ', AsgR c' (pickRo idxs ρ) tgt' (φ x) ρ' ∧ Sub (pickRo idxs ρ) ρ' ∧ TestsR c' ρ' ifs' true ∧ ItE c' ρ' tgt itx ((K x).map ψ) ∧ ∀ y ∈ K x, Turn1 c' ρ' tgt ifs elt (ψ y) (f x y))
    (hidx : idxsOf (nkN l) scope.names = idxs) (ho : okNames scope.names = true) (hk : scope.kind = .function) (hf : okFree (nkN l) (nkK l) scope.names = true) (hs' : ∀ x env, foldedSetIterable itx' env x = pure x) (hs : ∀ x env, foldedSetIterable itx env x = pure x) :
    Ev c ρ (.ListComp elt [⟨tgt', itx', ifs', 0⟩, ⟨tgt, itx, ifs, 0⟩] scope pos) (.list (zs.flatMap fun x => (K x).filterMap (f x))) :=
  Ev.listGen2 P.sm hit (fun c' F' hA _ z hz => by rw [F.names, compRo_pick hidx]; exact ht c' F' hA z hz) ho hk (by rw [F.names, F.kinds]; exact hf) hl hs' hs
theorem Ev.dc (P : PG D) (F : Fr c l) (idxs : List (Option Nat)) {α : Type} {φ : α → V} {zs : List α} {kx vx tgt itx : Expr} {ifs : List Expr} {scope : Scope} {pos : Pos} {f : α → Option (Int × V)}
    (hit : ItE c ρ tgt itx (zs.map φ)) (hl : (zs.filterMap f).length ≤ 10000) (hn : ((zs.filterMap f).map (·.1)).Nodup)
    (ht : ∀ c' : Cx D, Fr c' scope.names → c'.A = c.A → ∀ z ∈ zs, TurnD c' (pickRo idxs ρ) tgt ifs kx vx (φ z) (f z))
    (hidx : idxsOf (nkN l) scope.names = idxs) (ho : okNames scope.names = true) (hk : scope.kind = .function) (hf : okFree (nkN l) (nkK l) scope.names = true) (hs : ∀ x env, foldedSetIterable itx env x = pure x) :
    Ev c ρ (.DictComp kx vx [⟨tgt, itx, ifs, 0⟩] scope pos) (.dict ((zs.filterMap f).map (·.1)) ((zs.filterMap f).map (·.2))) :=
  Ev.dictGen P.sm hit (fun c' F' hA _ z hz => by rw [F.names, compRo_pick hidx]; exact ht c' F' hA z hz) hn ho hk (by rw [F.names, F.kinds]; exact hf) hl hs
theorem Turn1.s (F : Fr c l) (i : Nat) (hno : NoOwn ρ) {x : Str} {p : Pos} {k : VK} {elt : Expr} {v a : V} (he : Ev c (ρ.set i (some (.val v))) elt a) (hx : (nkN l)[i]? = some x) (hk : (nkK l)[i]? = some k) (hne : k ≠ .ext) (h0 : ρ[i]? = some none) : Turn1 c ρ (.Name x p) [] elt v (some a) :=
  ⟨_, AsgR.nm F i hx hk hne, Sub.set h0, hno.set i v, TestsR.nil, fun b e => by cases e; exact he⟩
theorem Turn1.t (F : Fr c l) (i : Nat) (hno : NoOwn ρ) {x : Str} {p : Pos} {k : VK} {t elt : Expr} {v a : V} {b : Bool} (ht : Tst c (ρ.set i (some (.val v))) t b) (he : b = true → Ev c (ρ.set i (some (.val v))) elt a) (hx : (nkN l)[i]? = some x) (hk : (nkK l)[i]? = some k) (hne : k ≠ .ext) (h0 : ρ[i]? = some none) :
    Turn1 c ρ (.Name x p) [t] elt v (if b = true then some a else none) :=
  ⟨_, AsgR.nm F i hx hk hne, Sub.set h0, hno.set i v, by cases b <;> exact TestsR.one ht, fun z e => by
    cases b with
    | false => cases e
    | true => cases e; exact he rfl⟩
theorem TurnD.s (F : Fr c l) (i : Nat) (hno : NoOwn ρ) {x : Str} {p : Pos} {k : VK} {kx vx : Expr} {v a : V} {n : Int} (hk' : Ev c (ρ.set i (some (.val v))) kx (.int n)) (he : Ev c (ρ.set i (some (.val v))) vx a) (hx : (nkN l)[i]? = some x) (hk : (nkK l)[i]? = some k) (hne : k ≠ .ext) (h0 : ρ[i]? = some none) : TurnD c ρ (.Name x p) [] kx vx v (some (n, a)) :=
  ⟨_, AsgR.nm F i hx hk hne, Sub.set h0, hno.set i v, TestsR.nil, fun m b e => by cases e; exact ⟨hk', he⟩⟩
theorem TurnD.t (F : Fr c l) (i : Nat) (hno : NoOwn ρ) {x : Str} {p : Pos} {k : VK} {t kx vx : Expr} {v a : V} {n : Int} {b : Bool} (ht : Tst c (ρ.set i (some (.val v))) t b) (hk' : b = true → Ev c (ρ.set i (some (.val v))) kx (.int n)) (he : b = true → Ev c (ρ.set i (some (.val v))) vx a) (hx : (nkN l)[i]? = some x) (hk : (nkK l)[i]? = some k) (hne : k ≠ .ext) (h0 : ρ[i]? = some none) :
    TurnD c ρ (.Name x p) [t] kx vx v (if b = true then some (n, a) else none) :=
  ⟨_, AsgR.nm F i hx hk hne, Sub.set h0, hno.set i v, by cases b <;> exact TestsR.one ht, fun m z e => by
    cases b with
    | false => cases e
    | true => cases e; exact ⟨hk' rfl, he rfl⟩⟩

/-! ### a comprehension's value straight into a local name -/
theorem swaps_local {G : PO} {s : Shared} (S : St c ρ G s) {i : Nat} {y : Str} {py pos : Pos} {ln : Nat} {elt : Expr} {gens : List Comprehension} {scope : Scope} (hx : c.names[i]? = some y) (hk : c.kinds[i]? = some .loc)
    (hc : (py.line == pos.line && !(scope.names.any fun p => p.1 == y && (p.2 == .local || p.2 == .cell))) = true) : swapsWith (.ListComp elt gens scope pos) (some (.Name y py)) ln c.env = pure true := by
  have b : c.env.blockKind = .function := by unfold Env.blockKind; rw [S.wf.fn]; rfl
  have k := S.wf.kloc i y hx hk
  simp only [Bool.and_eq_true] at hc
  show pure (c.env.blockKind == .function && c.env.kindOf y == some .local && py.line == pos.line && !(scope.names.any fun (n, k) => n == y && (k == .local || k == .cell))) = _
  rw [b, k, hc.1, hc.2]; rfl
theorem Ex.lcU (P : PG D) (F : Fr c l) (i : Nat) (idxs : List (Option Nat)) {α : Type} {φ : α → V} {zs : List α} {elt tgt itx : Expr} {ifs : List Expr} {scope : Scope} {pos spos py : Pos} {y : Str} {f : α → Option V}
    (hno : NoOwn (ρ.set i (some (.val (.list (zs.filterMap f))))))
    (hit : ItE c ρ tgt itx (zs.map φ)) (hl : (zs.filterMap f).length ≤ 10000)
    (ht : ∀ c' : Cx D, Fr c' scope.names → c'.A = c.A → ∀ z ∈ zs, Turn1 c' (pickRo idxs ρ) tgt ifs elt (φ z) (f z))
    (hx : (nkN l)[i]? = some y) (hk : (nkK l)[i]? = some .loc) (hc : (py.line == pos.line && !(scope.names.any fun p => p.1 == y && (p.2 == .local || p.2 == .cell))) = true)
    (hidx : idxsOf (nkN l) scope.names = idxs) (ho : okNames scope.names = true) (hk' : scope.kind = .function) (hf : okFree (nkN l) (nkK l) scope.names = true) (hs : ∀ x env, foldedSetIterable itx env x = pure x) :
    Ex c ρ (.Assign [.Name y py] (.ListComp elt [⟨tgt, itx, ifs, 0⟩] scope pos) spos) (.next (ρ.set i (some (.val (.list (zs.filterMap f)))))) := .mk fun G s E S =>
  (Ex.listUse P.sm (swaps_local S (by rw [F.names]; exact hx) (by rw [F.kinds]; exact hk) hc) (by rw [F.names]; exact hx) (by rw [F.kinds]; exact hk) (by decide) hno hit
    (fun c' F' hA _ z hz => by rw [F.names, compRo_pick hidx]; exact ht c' F' hA z hz) ho hk' (by rw [F.names, F.kinds]; exact hf) hl hs).run G s E S
theorem Ex.lcU2 (P : PG D) (F : Fr c l) (i : Nat) (idxs : List (Option Nat)) {α β : Type} {φ : α → V} {ψ : β → V} {zs : List α} {elt tgt itx tgt' itx' : Expr} {ifs ifs' : List Expr} {scope : Scope} {pos spos py : Pos} {y : Str} {K : α → List β} {f : α → β → Option V}
    (hno : NoOwn (ρ.set i (some (.val (.list (zs.flatMap fun x => (K x).filterMap (f x)))))))
    (hit : ItE c ρ tgt' itx' (zs.map φ)) (hl : (zs.flatMap fun x => (K x).filterMap (f x)).length ≤ 5000)
    (ht : ∀ c' : Cx D, Fr c' scope.names → c'.A = c.A → ∀ x ∈ zs, ∃ ρ', AsgR c' (pickRo idxs ρ) tgt' (φ x) ρ' ∧ Sub (pickRo idxs ρ) ρ' ∧ TestsR c' ρ' ifs' true ∧ ItE c' ρ' tgt itx ((K x).map ψ) ∧ ∀ y ∈ K x, Turn1 c' ρ' tgt ifs elt (ψ y) (f x y))
    (hx : (nkN l)[i]? = some y) (hk : (nkK l)[i]? = some .loc) (hc : (py.line == pos.line && !(scope.names.any fun p => p.1 == y && (p.2 == .local || p.2 == .cell))) = true)
    (hidx : idxsOf (nkN l) scope.names = idxs) (ho : okNames scope.names = true) (hk' : scope.kind = .function) (hf : okFree (nkN l) (nkK l) scope.names = true) (hs' : ∀ x env, foldedSetIterable itx' env x = pure x) (hs : ∀ x env, foldedSetIterable itx env x = pure x) :
    Ex c ρ (.Assign [.Name y py] (.ListComp elt [⟨tgt', itx', ifs', 0⟩, ⟨tgt, itx, ifs, 0⟩] scope pos) spos) (.next (ρ.set i (some (.val (.list (zs.flatMap fun x => (K x).filterMap (f x))))))) := .mk fun G s E S =>
  (Ex.listUse2 P.sm (swaps_local S (by rw [F.names]; exact hx) (by rw [F.kinds]; exact hk) hc) (by rw [F.names]; exact hx) (by rw [F.kinds]; exact hk) (by decide) hno hit
    (fun c' F' hA _ z hz => by rw [F.names, compRo_pick hidx]; exact ht c' F' hA z hz) ho hk' (by rw [F.names, F.kinds]; exact hf) hl hs' hs).run G s E S

noncomputable def noOwnB (ρ : Ro) : Bool := ρ.all fun x => match x with | some (.own _) => false | _ => true
theorem noOwn_of (h : noOwnB ρ = true) : NoOwn ρ := fun i a e => by
  have := List.all_eq_true.mp h _ (List.mem_of_getElem? e)
  cases this
noncomputable def soleB (ρ : Ro) (i : Nat) : Bool := noOwnB (ρ.set i none)
theorem sole_of {i : Nat} (h : soleB ρ i = true) : Sole ρ i := fun j a hj e => noOwn_of h j a (by rw [List.getElem?_set, if_neg (Ne.symm hj)]; exact e)
theorem Ex.then {st : Stmt} {ρ2 : Ro} {o : Out} (h : Ex c ρ st (.next ρ')) (e : ρ' = ρ2) : Ex c ρ st (.next ρ2) := e ▸ h

theorem Tst.cast {e : Expr} {b b' : Bool} (h : Tst c ρ e b) (q : b = b') : Tst c ρ e b' := q ▸ h
theorem FnAt.kpr {fa : Addr} {xs : List Str} {body : List Stmt} {scope : Scope} (F : FnAt D fa xs body scope) : Kpr D (.ref fa) := by
  obtain ⟨o, fd, e, ed, _⟩ := F.obj
  exact Kpr.fn e ed
/-! ### forgetting; loops as folds -/
theorem Ex.drop {st : Stmt} (i : Nat) (h : Ex c ρ st (.next ρ')) : Ex c ρ st (.next (ρ'.set i none)) := .mk fun G s E S =>
  wpAny_mono (h.run G s E S) (fun f s' ⟨e, G', S', x⟩ => ⟨e, G', S'.forget fun j sl q => (by
    rw [List.getElem?_set] at q
    split at q
    · split at q <;> cases q
    · exact q), x⟩) fun _ _ e => e
theorem Exs.drop {ss : List Stmt} (i : Nat) (h : Exs c ρ ss (.next ρ')) : Exs c ρ ss (.next (ρ'.set i none)) := .mk fun G s E S =>
  wpAny_mono (h.run G s E S) (fun f s' ⟨e, G', S', x⟩ => ⟨e, G', S'.forget fun j sl q => (by
    rw [List.getElem?_set] at q
    split at q
    · split at q <;> cases q
    · exact q), x⟩) fun _ _ e => e
theorem LoopC.fold {α σ : Type} {φ : α → V} {tgt : Expr} {body : List Stmt} {st : σ → α → σ} {R : σ → Ro} : ∀ (xs : List α) (s : σ), (∀ s, ∀ x ∈ xs, ∃ ρ₁, AsgR c (R s) tgt (φ x) ρ₁ ∧ Exs c ρ₁ body (.next (R (st s x)))) → LoopC c tgt body (xs.map φ) (R s) (.next (R (xs.foldl st s)))
  | [], s, _ => rfl
  | x :: xs, s, h => by
    obtain ⟨ρ₁, h1, h2⟩ := h s x (.head _)
    exact ⟨ρ₁, _, h1, h2, LoopC.fold xs (st s x) fun s y hy => h s y (.tail _ hy)⟩
theorem Ex.forF {α σ : Type} {φ : α → V} {tgt itx : Expr} {body : List Stmt} {pos : Pos} (st : σ → α → σ) (R : σ → Ro) {xs : List α} {s : σ} (hit : ItE c (R s) tgt itx (xs.map φ)) (h : ∀ s, ∀ x ∈ xs, ∃ ρ₁, AsgR c (R s) tgt (φ x) ρ₁ ∧ Exs c ρ₁ body (.next (R (st s x))))
    (hs : ∀ x env, foldedSetIterable itx env x = pure x) : Ex c (R s) (.For tgt itx body [] pos) (.next (R (xs.foldl st s))) :=
  Ex.for hit (LoopC.fold xs s h) hs
theorem LoopC.foldI {α σ : Type} {φ : α → V} {tgt : Expr} {body : List Stmt} {st : σ → α → σ} {R : σ → Ro} (I : List α → σ → Prop) : ∀ (xs : List α) (s : σ), I xs s → (∀ s x r, x ∈ xs → I (x :: r) s → I r (st s x) ∧ ∃ ρ₁, AsgR c (R s) tgt (φ x) ρ₁ ∧ Exs c ρ₁ body (.next (R (st s x)))) → LoopC c tgt body (xs.map φ) (R s) (.next (R (xs.foldl st s)))
  | [], s, _, _ => rfl
  | x :: xs, s, i, h => by
    obtain ⟨i', ρ₁, h1, h2⟩ := h s x xs (.head _) i
    exact ⟨ρ₁, _, h1, h2, LoopC.foldI I xs (st s x) i' fun s y r hy i => h s y r (.tail _ hy) i⟩
theorem Ex.forI {α σ : Type} {φ : α → V} {tgt itx : Expr} {body : List Stmt} {pos : Pos} (st : σ → α → σ) (R : σ → Ro) (I : List α → σ → Prop) {xs : List α} {s : σ} (hI : I xs s) (hit : ItE c (R s) tgt itx (xs.map φ)) (h : ∀ s x r, x ∈ xs → I (x :: r) s → I r (st s x) ∧ ∃ ρ₁, AsgR c (R s) tgt (φ x) ρ₁ ∧ Exs c ρ₁ body (.next (R (st s x))))
    (hs : ∀ x env, foldedSetIterable itx env x = pure x) : Ex c (R s) (.For tgt itx body [] pos) (.next (R (xs.foldl st s))) :=
  Ex.for hit (LoopC.foldI I xs s hI h) hs
theorem ItE.cast {tgt e : Expr} {xs ys : List V} (h : ItE c ρ tgt e xs) (q : xs = ys) : ItE c ρ tgt e ys := q ▸ h

/-! ### entering a def: the parameters by their places -/
noncomputable def setAll : List Nat → List V → Ro → Ro
  | i :: is, a :: as, ρ => setAll is as (ρ.set i (some (.val a)))
  | _, _, ρ => ρ
theorem bindRo_all {l : List (Str × NameKind)} : ∀ {xs : List Str} {as : List V} {ρ : Ro}, bindRo l ρ (xs.zip as) = setAll (xs.map fun x => (nkN l).idxOf x) as ρ
  | [], as, ρ => by simp [bindRo, setAll]
  | x :: xs, [], ρ => by simp [bindRo, setAll]
  | x :: xs, a :: as, ρ => by
    rw [List.zip_cons_cons, List.map_cons, bindRo, setAll, bindRo_all]
theorem CallR.def {fa : Addr} {xs : List Str} {body : List Stmt} {scope : Scope} {as : List V} {a : V} (FA : FnAt D fa xs body scope) (P : PG D) (hh : A.handled = none) (hroom : A.depth < recursionLimit) (is : List Nat) (n : Nat) (hl : xs.length = as.length)
    (hb : ∀ c : Cx D, Fn c A scope.names → Exs c (setAll is as (List.replicate n none)) body (.ret a))
    (hi : (xs.map fun x => (nkN scope.names).idxOf x) = is) (hn : (nk scope.names).length = n)
    (ho : okNames scope.names = true) (hp : okBinds scope.names xs = true) (hk : scope.kind = .function) (hfree : (nkK scope.names).all (· != .ext) = true)
    (hco : scope.isCoroutine = false) (hgen : scope.isGenerator = false) : CallR D A (.ref fa) as a :=
  CallR.fn FA P.gd.lim hh hroom hl (fun c F => by
    refine ⟨.ret a, rfl, ?_⟩
    rw [bindRo_all, hi, hn]; exact hb c F) ho hp hk hfree hco hgen
end
end Mine
/-! PJ1 -/
set_option maxRecDepth 10000
namespace Mine

noncomputable def pickG {α : Type} (l : List α) (lo hi st : Option Int) : List α :=
  (sliceRange (sliceBounds lo hi st l.length).1 (sliceBounds lo hi st l.length).2.1 (sliceBounds lo hi st l.length).2.2).filterMap (l[·]?)
theorem pickV_map {α : Type} (l : List α) (f : α → V) (lo hi st : Option Int) : pickV (l.map f) lo hi st = (pickG l lo hi st).map f := by
  unfold pickV pickG
  rw [List.length_map, List.map_filterMap]
  congr 1
  funext i
  rw [List.getElem?_map]
theorem pickG_nat {α : Type} (l : List α) (lo hi st : Option Int) {n : Nat} (hn : l.length = n) : pickG l lo hi st = (sliceRange (sliceBounds lo hi st n).1 (sliceBounds lo hi st n).2.1 (sliceBounds lo hi st n).2.2).filterMap (l[·]?) := by
  subst hn; rfl

theorem fm_some {α β : Type} {f : α → β} (l : List α) : l.filterMap (fun a => some (f a)) = l.map f := by
  induction l with
  | nil => rfl
  | cons a l ih => rw [List.filterMap_cons, List.map_cons, ih]
theorem fm_if {α β : Type} {f : α → β} {p : α → Bool} (l : List α) : l.filterMap (fun a => if p a = true then some (f a) else none) = (l.filter p).map f := by
  induction l with
  | nil => rfl
  | cons a l ih => rw [List.filterMap_cons, List.filter_cons, ih]; cases p a <;> simp
theorem mem_pickG {α : Type} {l : List α} {lo hi st : Option Int} {a : α} (h : a ∈ pickG l lo hi st) : a ∈ l := by
  unfold pickG at h
  obtain ⟨i, _, h⟩ := List.mem_filterMap.mp h
  exact List.mem_of_getElem? h

/-! _law_lead -/
noncomputable def runsR (r : Int) : List Int := pickG [r.fmod 4, (r.fdiv 4).fmod 4] none (some ((r.fdiv 16).fmod 3)) none
noncomputable def leadR (r : Int) : Str := Txt.join "" ((runsR r).map fun r => Txt.mul " " r ++ "\t") ++ Txt.mul " " (r.fdiv 48)
noncomputable def okLead (r : Int) : Bool := (runsR r).all (fun n => decide (0 ≤ n) && decide (n ≤ 3)) && decide (0 ≤ r.fdiv 48) && decide (r.fdiv 48 ≤ 3) && decide ((runsR r).length ≤ 2) && decide ((Txt.join "" ((runsR r).map fun r => Txt.mul " " r ++ "\t")).length ≤ 100)
theorem okLead_all : ∀ n : Fin 192, okLead (n.val : Int) = true := by decide +kernel
theorem okLead_of {r : Int} (h0 : 0 ≤ r) (h1 : r < 192) : okLead r = true := by
  have := okLead_all ⟨r.toNat, by omega⟩
  simpa [Int.toNat_of_nonneg h0] using this
theorem mulOk3 {n : Int} (h0 : 0 ≤ n) (h1 : n ≤ 3) : MulOk " " n ∧ (Txt.mul " " n).length ≤ 3 := by
  have : n = 0 ∨ n = 1 ∨ n = 2 ∨ n = 3 := by omega
  rcases this with rfl | rfl | rfl | rfl <;> (unfold MulOk; decide +kernel)
theorem fmod_bound (x : Int) {m : Int} (h : 0 < m) : 0 ≤ x.fmod m ∧ x.fmod m < m := ⟨Int.fmod_nonneg_of_pos _ h, Int.fmod_lt_of_pos _ h⟩
theorem sum_le_of {l : List Nat} {m : Nat} (h : ∀ x ∈ l, x ≤ m) : l.sum ≤ l.length * m := by
  induction l with
  | nil => simp
  | cons a l ih =>
    have h1 := h a (.head _)
    have h2 := ih fun x hx => h x (.tail _ hx)
    rw [List.sum_cons, List.length_cons, Nat.add_mul]
    omega

variable {D : Wd} {A : Around}
theorem law_lead (P : PG D) (FA : FnAt D (P.adr 16) ["drawn"] (bd 16) (sc 16)) (hh : A.handled = none) (hroom : A.depth < recursionLimit) (x : Int) : CallR D A (.ref (P.adr 16)) [.int x] (.str (leadR (x.fmod 192))) := by
  have ok := okLead_of (fmod_bound x (m := 192) (by decide)).1 (fmod_bound x (m := 192) (by decide)).2
  unfold okLead at ok
  simp only [Bool.and_eq_true, List.all_eq_true, decide_eq_true_eq] at ok
  obtain ⟨⟨⟨⟨o1, o2⟩, o3⟩, o4⟩, o5⟩ := ok
  have hs : ∀ r ∈ runsR (x.fmod 192), MulOk " " r ∧ (Txt.mul " " r).length ≤ 3 := fun r hr => mulOk3 (o1 r hr).1 (o1 r hr).2
  have hs2 := mulOk3 o2 o3
  refine CallR.def FA P hh hroom [0] 3 rfl (fun c F => ?_) (by decide +kernel) (by decide +kernel) (by decide +kernel) (by decide +kernel) rfl (by decide +kernel) rfl rfl
  refine Exs.cons (Ex.st F.fr 1 (Ev.bin (Ev.nm F.fr 0 rfl rfl) Ev.int (BinR.mod (by decide))) rfl rfl (by decide) (fun _ _ _ => rfl)) ?_
  refine Exs.cons (Ex.st F.fr 2 (Ev.cast (b := .list ((runsR (x.fmod 192)).map V.int)) (Ev.slice (lo := none) (nl := none) (Ev.list (EvL.cons (Ev.bin (Ev.nm F.fr 1 rfl rfl) Ev.int (BinR.mod (by decide))) (EvL.cons (Ev.bin (Ev.bin (Ev.nm F.fr 1 rfl rfl) Ev.int (BinR.div (by decide) (by decide))) Ev.int (BinR.mod (by decide))) EvL.nil))) trivial (hi := some _) (nh := some _) (Ev.bin (Ev.bin (Ev.nm F.fr 1 rfl rfl) Ev.int (BinR.div (by decide) (by decide))) Ev.int (BinR.mod (by decide))) (by simp)) ?_) rfl rfl (by decide) (fun _ _ _ => rfl)) ?_
  · exact congrArg V.list (pickV_map [(x.fmod 192).fmod 4, ((x.fmod 192).fdiv 4).fmod 4] V.int _ _ _)
  refine Exs.ret (Ex.ret (Ev.bin (Ev.join Ev.str (EvL.cons (Ev.cast (b := .list (((runsR (x.fmod 192)).map fun r => Txt.mul " " r ++ "\t").map V.str)) (Ev.lc P F.fr [none, none] (f := fun r => some (V.str (Txt.mul " " r ++ "\t"))) (ItE.list (Ev.nm F.fr 2 rfl rfl)) ?_ (fun c' F' _ r hr => Turn1.s F' 1 (noOwn_pick _) (Ev.bin (Ev.bin Ev.str (Ev.nm F' 1 rfl rfl) (BinR.mulStr (hs r hr).1)) Ev.str (BinR.addStr ?_)) rfl rfl (by decide) rfl) (by decide +kernel) (by decide +kernel) rfl (by decide +kernel) (fun _ _ => rfl)) ?_) EvL.nil) rfl ?_) (Ev.bin Ev.str (Ev.bin (Ev.nm F.fr 1 rfl rfl) Ev.int (BinR.div (by decide) (by decide))) (BinR.mulStr hs2.1)) (BinR.addStr ?_)))
  · exact Nat.le_trans (List.length_filterMap_le _ _) (by omega)
  · have := (hs r hr).2
    have e : ("\t" : Str).length = 1 := by decide
    rw [sizeLine_eq, e]; omega
  · rw [fm_some, List.map_map]; rfl
  · have e : ("" : Str).length = 0 := by decide
    rw [e, Nat.mul_zero, Nat.add_zero]
    refine Nat.le_trans (sum_le_of (m := 1000) fun y hy => ?_) ?_
    · obtain ⟨z, hz, rfl⟩ := List.mem_map.mp hy
      obtain ⟨r, hr, rfl⟩ := List.mem_map.mp hz
      have := (hs r hr).2
      have e1 : ("\t" : Str).length = 1 := by decide
      have e2 : (Txt.mul " " r ++ "\t").length = (Txt.mul " " r).length + ("\t" : Str).length := Str.length_append ..
      omega
    · rw [List.length_map, List.length_map]; omega
  · have := hs2.2
    rw [sizeLine_eq]; omega
end Mine
/-! PJ2 -/
set_option maxRecDepth 10000
namespace Mine
variable {D : Wd} {A : Around}

theorem ranV_map (a : Int) (n : Nat) : ranV a n = ((List.range n).map fun i : Nat => a + (i : Int)).map V.int := by
  induction n generalizing a with
  | zero => rfl
  | succ n ih =>
    rw [ranV, ih, List.range_succ_eq_map]
    simp only [List.map_cons, List.map_map, Int.ofNat_zero, Int.add_zero]
    congr 1
    apply List.map_congr_left
    intro i _
    simp only [Function.comp_apply, Nat.succ_eq_add_one]
    congr 1
    omega

/-! _law_columns -/
noncomputable def colStep (size col : Int) (ch : Nat) : Int := if (⟨#[ch]⟩ : Str) == " " then col + 1 else col + size - col.fmod size
noncomputable def colOf (x : Str) (size : Int) : Int := x.cps.toList.foldl (colStep size) 0
noncomputable def colsOf (x : Str) : List Int := [1, 2, 3, 4].map (colOf x)
theorem charsOf_map (x : Str) : charsOf x = x.cps.toList.map fun ch => V.str ⟨#[ch]⟩ := rfl

theorem law_columns (P : PG D) (FA : FnAt D (P.adr 17) ["lead"] (bd 17) (sc 17)) (hh : A.handled = none) (hroom : A.depth < recursionLimit) (x : Str) : CallR D A (.ref (P.adr 17)) [.str x] (.list ((colsOf x).map V.int)) := by
  refine CallR.def FA P hh hroom [0] 5 rfl (fun c F => ?_) (by decide +kernel) (by decide +kernel) (by decide +kernel) (by decide +kernel) rfl (by decide +kernel) rfl rfl
  refine Exs.cons (Ex.st F.fr 1 (Ev.list EvL.nil) rfl rfl (by decide) (fun _ _ _ => rfl)) ?_
  show Exs c ((fun l : List Int => [some (.val (.str x)), some (.val (.list (l.map V.int))), none, none, none]) []) _ _
  refine Exs.cons (Ex.forI (fun (l : List Int) (size : Int) => l ++ [colOf x size]) (fun l : List Int => [some (.val (.str x)), some (.val (.list (l.map V.int))), none, none, none]) (fun r l => l.length + r.length ≤ 100) (xs := [1, 2, 3, 4]) (s := []) (φ := V.int) (by simp) (ItE.call (Glo.b P F.fr (by decide +kernel) (by simp) (v := .type "range") (by decide +kernel) (by decide) (by decide)) Kpr.type (EvL.cons Ev.int (EvL.cons Ev.int EvL.nil)) (IterR.range2 F.hand (by decide) (by decide) (by decide) (by decide))) ?_ (fun _ _ => rfl)) ?_
  · intro l size r hm hI
    have hsz : size ≠ 0 := by simp at hm; omega
    refine ⟨by simp at hI ⊢; omega, _, AsgR.nm F.fr 2 rfl rfl (by decide), ?_⟩
    refine Exs.cons (Ex.st F.fr 3 Ev.int rfl rfl (by decide) (fun _ _ _ => rfl)) ?_
    show Exs c ((fun k : Int => [some (.val (.str x)), some (.val (.list (l.map V.int))), some (.val (.int size)), some (.val (.int k)), none]) 0) _ _
    refine Exs.cons (Ex.forF (colStep size) (fun k : Int => [some (.val (.str x)), some (.val (.list (l.map V.int))), some (.val (.int size)), some (.val (.int k)), none]) (xs := x.cps.toList) (s := 0) (φ := fun ch => V.str ⟨#[ch]⟩) (ItE.str (Ev.nm F.fr 0 rfl rfl)) ?_ (fun _ _ => rfl)) ?_
    · intro k ch _
      refine ⟨_, AsgR.nm F.fr 4 rfl rfl (by decide), ?_⟩
      refine Exs.cast (Exs.drop 4 (Exs.cons (ρ' := [some (.val (.str x)), some (.val (.list (l.map V.int))), some (.val (.int size)), some (.val (.int (colStep size k ch))), some (.val (V.str ⟨#[ch]⟩))]) (Ex.if (Tst.cmp (Ev.nm F.fr 4 rfl rfl) Ev.str CmpR.eqStr) (fun e => ?_) (fun e => ?_)) Exs.nil)) rfl
      · refine Exs.cast (Exs.cons (Ex.st F.fr 3 (Ev.bin (Ev.nm F.fr 3 rfl rfl) Ev.int BinR.add) rfl rfl (by decide) (fun _ _ _ => rfl)) Exs.nil) ?_
        unfold colStep; rw [if_pos e]; rfl
      · refine Exs.cast (Exs.cons (Ex.st F.fr 3 (Ev.bin (Ev.bin (Ev.nm F.fr 3 rfl rfl) (Ev.nm F.fr 2 rfl rfl) BinR.add) (Ev.bin (Ev.nm F.fr 3 rfl rfl) (Ev.nm F.fr 2 rfl rfl) (BinR.mod hsz)) BinR.sub) rfl rfl (by decide) (fun _ _ _ => rfl)) Exs.nil) ?_
        unfold colStep; rw [if_neg (by rw [e]; decide)]; rfl
    refine Exs.cast (Exs.drop 3 (Exs.drop 2 (Exs.cons (Ex.st F.fr 1 (Ev.cast (b := .list ((l ++ [colOf x size]).map V.int)) (Ev.bin (Ev.nm F.fr 1 rfl rfl) (Ev.list (EvL.cons (Ev.nm F.fr 3 rfl rfl) EvL.nil)) (BinR.addList ?_)) ?_) rfl rfl (by decide) (fun _ _ _ => rfl)) Exs.nil))) rfl
    · simp only [List.length_map, List.length_cons, List.length_nil] at hI ⊢
      rw [sizeLine_eq]; omega
    · simp [colOf]
  · exact Exs.ret (Ex.ret (Ev.nm F.fr 1 rfl rfl))
end Mine
/-! PJ3 -/
set_option maxRecDepth 10000
namespace Mine
variable {D : Wd} {A : Around}

/-! count_calls, add_callers, add_func_stats -/
theorem count_calls (P : PG D) (FA : FnAt D (P.adr 12) ["callers"] (bd 12) (sc 12)) (hh : A.handled = none) (hroom : A.depth < recursionLimit) (ks ns : List Int) :
    CallR D A (.ref (P.adr 12)) [.dict ks (ns.map V.int)] (.int (ns.foldl (· + ·) 0)) := by
  refine CallR.def FA P hh hroom [0] 3 rfl (fun c F => ?_) (by decide +kernel) (by decide +kernel) (by decide +kernel) (by decide +kernel) rfl (by decide +kernel) rfl rfl
  refine Exs.cons (Ex.st F.fr 1 Ev.int rfl rfl (by decide) (fun _ _ _ => rfl)) ?_
  show Exs c ((fun k : Int => [some (.val (.dict ks (ns.map V.int))), some (.val (.int k)), none]) 0) _ _
  refine Exs.cons (Ex.forF (fun k n => k + n) (fun k : Int => [some (.val (.dict ks (ns.map V.int))), some (.val (.int k)), none]) (xs := ns) (s := 0) (φ := V.int) (ItE.values (Ev.nm F.fr 0 rfl rfl) rfl) ?_ (fun _ _ => rfl)) ?_
  · intro k n _
    refine ⟨_, AsgR.nm F.fr 2 rfl rfl (by decide), ?_⟩
    refine Exs.cast (Exs.drop 2 (Exs.cons (Ex.aug (i := 1) (k := .loc) (by rw [F.fr.names]; rfl) (by rw [F.fr.kinds]; rfl) rfl (Ev.nm F.fr 2 rfl rfl) (r := .int (k + n)) ?_ (by decide)) Exs.nil)) rfl
    intro A G s E u v g hu hv
    obtain ⟨t, rfl⟩ := VR.int_iff.mp hu; obtain ⟨t', rfl⟩ := VR.int_iff.mp hv
    exact AutoIntOps.iadd_0 (.tokI g)
  · exact Exs.ret (Ex.ret (Ev.nm F.fr 1 rfl rfl))

theorem lookD_none {ks : List Int} {vs : List V} {k : Int} (h : k ∉ ks) : lookD ks vs k = none := by
  unfold lookD
  rw [Option.map_eq_none_iff, List.find?_eq_none]
  intro p hp q
  exact h (by rw [← of_decide_eq_true q]; exact (List.of_mem_zip hp).1)

theorem zip_fst {α : Type} : ∀ {ks : List Int} {vs : List α}, ks.length = vs.length → (ks.zip vs).map (·.1) = ks
  | [], [], _ => rfl
  | [], _ :: _, h => by simp at h
  | _ :: _, [], h => by simp at h
  | k :: ks, v :: vs, h => by simp [zip_fst (ks := ks) (vs := vs) (by simpa using h)]
theorem zip_snd {α : Type} : ∀ {ks : List Int} {vs : List α}, ks.length = vs.length → (ks.zip vs).map (·.2) = vs
  | [], [], _ => rfl
  | [], _ :: _, h => by simp at h
  | _ :: _, [], h => by simp at h
  | k :: ks, v :: vs, h => by simp [zip_snd (ks := ks) (vs := vs) (by simpa using h)]

theorem foldl_snoc {α : Type} : ∀ (xs s : List α), xs.foldl (fun s x => s ++ [x]) s = s ++ xs
  | [], s => by simp
  | x :: xs, s => by rw [List.foldl_cons, foldl_snoc xs]; simp
noncomputable def pV (p : Int × V) : V := .tup [.int p.1, p.2]
theorem kvV_pV (ks : List Int) (vs : List V) : kvV ks vs = (ks.zip vs).map pV := rfl
theorem add_callers (P : PG D) (FA : FnAt D (P.adr 11) ["target", "source"] (bd 11) (sc 11)) (hh : A.handled = none) (hroom : A.depth < recursionLimit) (ks ks' : List Int) (vs vs' : List V) (h1 : ks.length = vs.length) (h2 : ks'.length = vs'.length)
    (hn : (ks ++ ks').Nodup) (hl : ks.length + ks'.length ≤ 1000) : CallR D A (.ref (P.adr 11)) [.dict ks vs, .dict ks' vs'] (.dict (ks ++ ks') (vs ++ vs')) := by
  refine CallR.def FA P hh hroom [0, 1] 5 rfl (fun c F => ?_) (by decide +kernel) (by decide +kernel) (by decide +kernel) (by decide +kernel) rfl (by decide +kernel) rfl rfl
  refine Exs.cons (Ex.stO F.fr 2 (EvO.dict0 P.sm) rfl rfl (by decide) (fun _ _ _ => rfl)) ?_
  have step : ∀ (s : List (Int × V)) (x : Int × V), x.1 ∉ s.map (·.1) → putK (s.map (·.1)) (s.map (·.2)) x.1 x.2 = .dict ((s ++ [x]).map (·.1)) ((s ++ [x]).map (·.2)) := fun s x h => by
    unfold putK; rw [if_neg h]; simp
  show Exs c ((fun s : List (Int × V) => [some (.val (.dict ks vs)), some (.val (.dict ks' vs')), some (.own (.dict (s.map (·.1)) (s.map (·.2)))), none, none]) []) _ _
  refine Exs.cons (Ex.forI (fun s x => s ++ [x]) (fun s : List (Int × V) => [some (.val (.dict ks vs)), some (.val (.dict ks' vs')), some (.own (.dict (s.map (·.1)) (s.map (·.2)))), none, none]) (fun r s => ((s ++ r).map (·.1)).Nodup ∧ s.length + r.length ≤ 1000) (xs := ks.zip vs) (s := []) (φ := pV) ?_ (ItE.items rfl (Ev.nm F.fr 0 rfl rfl) rfl) ?_ (fun _ _ => rfl)) ?_
  · rw [List.nil_append, zip_fst h1, List.length_zip, h1]
    exact ⟨(List.nodup_append.mp hn).1, by simp; omega⟩
  · rintro s ⟨k, v⟩ r _ ⟨i1, i2⟩
    have hk : k ∉ s.map (·.1) := fun q => by
      simp only [List.map_append, List.map_cons] at i1
      exact (List.nodup_append.mp i1).2.2 k q k (.head _) rfl
    refine ⟨⟨by simpa using i1, by simp at i2 ⊢; omega⟩, _, AsgR.tup (AsgRs.cons (AsgR.nm F.fr 3 rfl rfl (by decide)) (AsgRs.cons (AsgR.nm F.fr 4 rfl rfl (by decide)) AsgRs.nil)), ?_⟩
    refine Exs.cast (Exs.drop 4 (Exs.drop 3 (Exs.cons (Ex.setKey (i := 2) (by rw [F.fr.names]; rfl) rfl (sole_of rfl) (Ev.nm F.fr 4 rfl rfl) (Ev.nm F.fr 3 rfl rfl) ?_) Exs.nil))) ?_
    · simp at i2 ⊢; omega
    · rw [step s (k, v) hk]; rfl
  rw [foldl_snoc, List.nil_append]
  refine Exs.cons (Ex.forI (fun s x => s ++ [x]) (fun s : List (Int × V) => [some (.val (.dict ks vs)), some (.val (.dict ks' vs')), some (.own (.dict (s.map (·.1)) (s.map (·.2)))), none, none]) (fun r s => ((s ++ r).map (·.1)).Nodup ∧ s.length + r.length ≤ 1000) (xs := ks'.zip vs') (s := ks.zip vs) (φ := pV) ?_ (ItE.items rfl (Ev.nm F.fr 1 rfl rfl) rfl) ?_ (fun _ _ => rfl)) ?_
  · rw [List.map_append, zip_fst h1, zip_fst h2, List.length_zip, List.length_zip, h1, h2]
    exact ⟨hn, by simp; omega⟩
  · rintro s ⟨k, v⟩ r _ ⟨i1, i2⟩
    have hk : k ∉ s.map (·.1) := fun q => by
      simp only [List.map_append, List.map_cons] at i1
      exact (List.nodup_append.mp i1).2.2 k q k (.head _) rfl
    refine ⟨⟨by simpa using i1, by simp at i2 ⊢; omega⟩, _, AsgR.tup (AsgRs.cons (AsgR.nm F.fr 3 rfl rfl (by decide)) (AsgRs.cons (AsgR.nm F.fr 4 rfl rfl (by decide)) AsgRs.nil)), ?_⟩
    refine Exs.cast (Exs.drop 4 (Exs.drop 3 (Exs.cons (Ex.if (b := false) (Tst.cast (Tst.inD (Ev.nm F.fr 3 rfl rfl) (EvD.nm F.fr 2 rfl rfl (sole_of rfl))) (by rw [lookD_none hk]; rfl)) (fun e => by cases e) (fun _ => Exs.cons (Ex.setKey (i := 2) (by rw [F.fr.names]; rfl) rfl (sole_of rfl) (Ev.nm F.fr 4 rfl rfl) (Ev.nm F.fr 3 rfl rfl) ?_) Exs.nil)) Exs.nil))) ?_
    · simp at i2 ⊢; omega
    · rw [step s (k, v) hk]; rfl
  rw [foldl_snoc]
  refine Exs.freeze (i := 2) (x := "new_callers") (by rw [F.fr.names]; rfl) rfl (sole_of rfl) ?_
  refine Exs.cast (Exs.ret (Ex.ret (Ev.nm F.fr 2 rfl rfl))) ?_
  rw [List.map_append, List.map_append, zip_fst h1, zip_fst h2, zip_snd h1, zip_snd h2]

noncomputable def tup5 (a b c d : Int) (ks : List Int) (vs : List V) : V := .tup [.int a, .int b, .int c, .int d, .dict ks vs]
theorem add_func_stats (P : PG D) (FA : FnAt D (P.adr 10) ["target", "source"] (bd 10) (sc 10)) (FC : FnAt D (P.adr 11) ["target", "source"] (bd 11) (sc 11)) (hnm : P.nm 11 = "add_callers") (hh : A.handled = none) (hroom : A.depth + 1 < recursionLimit) (a b c d a' b' c' d' : Int) (ks ks' : List Int) (vs vs' : List V) (h1 : ks.length = vs.length) (h2 : ks'.length = vs'.length)
    (hn : (ks ++ ks').Nodup) (hl : ks.length + ks'.length ≤ 1000) : CallR D A (.ref (P.adr 10)) [tup5 a b c d ks vs, tup5 a' b' c' d' ks' vs'] (tup5 (a' + a) (b' + b) (c' + c) (d' + d) (ks ++ ks') (vs ++ vs')) := by
  refine CallR.def FA P hh (by omega) [0, 1] 12 rfl (fun cx F => ?_) (by decide +kernel) (by decide +kernel) (by decide +kernel) (by decide +kernel) rfl (by decide +kernel) rfl rfl
  refine Exs.cons (Ex.assign (Ev.nm F.fr 1 rfl rfl) (AsgR.tup (AsgRs.cons (AsgR.nm F.fr 2 rfl rfl (by decide)) (AsgRs.cons (AsgR.nm F.fr 3 rfl rfl (by decide)) (AsgRs.cons (AsgR.nm F.fr 4 rfl rfl (by decide)) (AsgRs.cons (AsgR.nm F.fr 5 rfl rfl (by decide)) (AsgRs.cons (AsgR.nm F.fr 6 rfl rfl (by decide)) AsgRs.nil)))))) rfl rfl (fun _ => rfl)) ?_
  show Exs cx [some (.val (tup5 a b c d ks vs)), some (.val (tup5 a' b' c' d' ks' vs')), some (.val (.int a')), some (.val (.int b')), some (.val (.int c')), some (.val (.int d')), some (.val (.dict ks' vs')), none, none, none, none, none] _ _
  refine Exs.cons (Ex.assign (Ev.nm F.fr 0 rfl rfl) (AsgR.tup (AsgRs.cons (AsgR.nm F.fr 7 rfl rfl (by decide)) (AsgRs.cons (AsgR.nm F.fr 8 rfl rfl (by decide)) (AsgRs.cons (AsgR.nm F.fr 9 rfl rfl (by decide)) (AsgRs.cons (AsgR.nm F.fr 10 rfl rfl (by decide)) (AsgRs.cons (AsgR.nm F.fr 11 rfl rfl (by decide)) AsgRs.nil)))))) rfl rfl (fun _ => rfl)) ?_
  show Exs cx [some (.val (tup5 a b c d ks vs)), some (.val (tup5 a' b' c' d' ks' vs')), some (.val (.int a')), some (.val (.int b')), some (.val (.int c')), some (.val (.int d')), some (.val (.dict ks' vs')), some (.val (.int a)), some (.val (.int b)), some (.val (.int c)), some (.val (.int d)), some (.val (.dict ks vs))] _ _
  refine Exs.ret (Ex.ret (Ev.tup (EvL.cons (Ev.bin (Ev.nm F.fr 2 rfl rfl) (Ev.nm F.fr 7 rfl rfl) BinR.add) (EvL.cons (Ev.bin (Ev.nm F.fr 3 rfl rfl) (Ev.nm F.fr 8 rfl rfl) BinR.add) (EvL.cons (Ev.bin (Ev.nm F.fr 4 rfl rfl) (Ev.nm F.fr 9 rfl rfl) BinR.add) (EvL.cons (Ev.bin (Ev.nm F.fr 5 rfl rfl) (Ev.nm F.fr 10 rfl rfl) BinR.add) (EvL.cons (Ev.call (Glo.t P F.fr 11 (by decide +kernel) hnm (by decide) (by decide)) FC.kpr (EvL.cons (Ev.nm F.fr 11 rfl rfl) (EvL.cons (Ev.nm F.fr 6 rfl rfl) EvL.nil)) (add_callers P FC F.hand (by rw [F.depth]; exact hroom) ks ks' vs vs' h1 h2 hn hl)) EvL.nil))))) (by simp [sizeLine_eq])))
end Mine
/-! PJ4 -/
set_option maxRecDepth 10000
namespace Mine
variable {D : Wd} {A : Around}

/-! _law_orders -/
noncomputable def lV (w : List Int) : V := .list (w.map V.int)
theorem LL_eq (ws : List (List Int)) : LL ws = ws.map lV := rfl
noncomputable def ordOk (bs : List (List Int)) (w : List Int) (e : Int) : Bool := (!w.contains e) && ((bs.getD e.toNat []).filter (fun j => !w.contains j) == [])
noncomputable def ordStep (bs ws : List (List Int)) : List (List Int) := ws.flatMap fun w => ([0, 1, 2, 3].filter (ordOk bs w)).map fun e => w ++ [e]
noncomputable def ordW (bs : List (List Int)) : List (List Int) := [0, 1, 2, 3].foldl (fun ws (_ : Int) => ordStep bs ws) [[]]
noncomputable def fallsOf (w : List Int) : List Int := [0, 1, 2].filter fun k => decide (w.getD (k + 1).toNat 0 < w.getD k.toNat 0)
noncomputable def marksOf (bs : List (List Int)) : List (Int × Int) := (ordW bs).map fun w => (w.getD 3 0, ((fallsOf w).length : Int))
noncomputable def markV (p : Int × Int) : V := .tup [.int p.1, .int p.2]

theorem flatMap_len {α β : Type} {f : α → List β} {m : Nat} : ∀ {l : List α}, (∀ a ∈ l, (f a).length ≤ m) → (l.flatMap f).length ≤ l.length * m
  | [], _ => by simp
  | a :: l, h => by
    have h1 := h a (.head _)
    have h2 := flatMap_len (l := l) fun x hx => h x (.tail _ hx)
    rw [List.flatMap_cons, List.length_append, List.length_cons, Nat.add_mul]; omega
theorem ordStep_len (bs ws : List (List Int)) : (ordStep bs ws).length ≤ ws.length * 4 := flatMap_len fun w _ => by
  rw [List.length_map]; exact List.length_filter_le _ [0, 1, 2, 3]
theorem getD_of {α : Type} {l : List α} {d : α} {i : Nat} (h : i < l.length) : l[i]? = some (l.getD i d) := by
  rw [List.getD_eq_getElem?_getD, List.getElem?_eq_getElem h]; rfl

theorem CallR.lenI {ns : List Int} (h : ns.length < 2 ^ 40) : CallR D A (.builtin "len") [lV ns] (.int ns.length) := by
  have := CallR.len (D := D) (A := A) (l := ns.map V.int) (by rw [List.length_map]; exact h)
  rwa [List.length_map] at this

theorem law_orders (P : PG D) (FA : FnAt D (P.adr 18) ["below"] (bd 18) (sc 18)) (hh : A.handled = none) (hroom : A.depth < recursionLimit) (hu : A.units + 100 < cLine) (bs : List (List Int)) (hb : bs.length = 4) (hb2 : ∀ b ∈ bs, b.length ≤ 100) :
    CallR D A (.ref (P.adr 18)) [.list (LL bs)] (.list ((marksOf bs).map markV)) := by
  refine CallR.def FA P hh hroom [0] 3 rfl (fun c F => ?_) (by decide +kernel) (by decide +kernel) (by decide +kernel) (by decide +kernel) rfl (by decide +kernel) rfl rfl
  refine Exs.cons (Ex.st F.fr 1 (Ev.list (EvL.cons (Ev.list EvL.nil) EvL.nil)) rfl rfl (by decide) (fun _ _ _ => rfl)) ?_
  show Exs c ((fun ws : List (List Int) => [some (.val (.list (LL bs))), some (.val (.list (LL ws))), none]) [[]]) _ _
  have hbs : ∀ e : Int, e ∈ ([0, 1, 2, 3] : List Int) → 0 ≤ e ∧ e < 2 ^ 63 ∧ (LL bs)[e.toNat]? = some (lV (bs.getD e.toNat [])) := fun e he => by
    have h2 : 0 ≤ e ∧ e.toNat < bs.length := by simp at he; omega
    refine ⟨h2.1, by simp at he; omega, ?_⟩
    rw [LL_eq, List.getElem?_map, getD_of (d := []) h2.2]; rfl
  refine Exs.cons (Ex.forI (fun ws (_ : Int) => ordStep bs ws) (fun ws : List (List Int) => [some (.val (.list (LL bs))), some (.val (.list (LL ws))), none]) (fun r ws => ws.length * 4 ^ r.length ≤ 256 ∧ ∀ w ∈ ws, w.length + r.length = 4) (xs := [0, 1, 2, 3]) (s := [[]]) (φ := V.int) (by simp) (ItE.call (Glo.b P F.fr (by decide +kernel) (by simp) (v := .type "range") (by decide +kernel) (by decide) (by decide)) Kpr.type (EvL.cons Ev.int EvL.nil) (IterR.range1 F.hand (by decide) (by decide))) ?_ (fun _ _ => rfl)) ?_
  · rintro ws st r _ ⟨i1, i2⟩
    have hw4 : ws.length * 4 ≤ 256 := by
      rw [List.length_cons, Nat.pow_succ] at i1
      have : 1 ≤ 4 ^ r.length := Nat.one_le_pow _ _ (by decide)
      have h2 : ws.length * 4 * 1 ≤ ws.length * 4 * 4 ^ r.length := Nat.mul_le_mul_left _ this
      have h3 : ws.length * (4 ^ r.length * 4) = ws.length * 4 * 4 ^ r.length := by rw [Nat.mul_comm (4 ^ r.length) 4, Nat.mul_assoc]
      omega
    refine ⟨⟨?_, ?_⟩, _, AsgR.nm F.fr 2 rfl rfl (by decide), ?_⟩
    · rw [List.length_cons, Nat.pow_succ] at i1
      have := ordStep_len bs ws
      have h3 : ws.length * (4 ^ r.length * 4) = ws.length * 4 * 4 ^ r.length := by rw [Nat.mul_comm (4 ^ r.length) 4, Nat.mul_assoc]
      exact Nat.le_trans (Nat.mul_le_mul_right _ this) (by omega)
    · intro w hw
      unfold ordStep at hw
      obtain ⟨w0, h0, hw⟩ := List.mem_flatMap.mp hw
      obtain ⟨e, _, rfl⟩ := List.mem_map.mp hw
      have := i2 w0 h0
      simp at this ⊢; omega
    refine Exs.cast (Exs.drop 2 (Exs.cons (Ex.lcU2 P F.fr 1 [none, none, none, some 0] (φ := lV) (ψ := V.int) (zs := ws) (K := fun _ => [0, 1, 2, 3]) (f := fun w e => if ordOk bs w e = true then some (lV (w ++ [e])) else none) (noOwn_of rfl) (ItE.list (Ev.nm F.fr 1 rfl rfl)) ?_ (fun c' F' hA w hw => ?_) rfl rfl (by decide +kernel) (by decide +kernel) (by decide +kernel) rfl (by decide +kernel) (fun _ _ => rfl) (fun _ _ => rfl)) Exs.nil)) ?_
    · refine Nat.le_trans (flatMap_len (m := 4) fun w _ => List.length_filterMap_le _ [0, 1, 2, 3]) (by omega)
    · refine ⟨_, AsgR.nm F' 1 rfl rfl (by decide), Sub.set rfl, TestsR.nil, ItE.call (Glo.b P F' (by decide +kernel) (by simp) (v := .type "range") (by decide +kernel) (by decide) (by decide)) Kpr.type (EvL.cons Ev.int EvL.nil) (IterR.range1 (by rw [hA]; exact F.hand) (by decide) (by decide)), fun e he => ?_⟩
      obtain ⟨e0, e1, e2⟩ := hbs e he
      have hwl := i2 w hw
      refine Turn1.t F' 2 ((noOwn_pick _).set _ _) (Tst.and2 (Tst.cmp (Ev.nm F' 2 rfl rfl) (Ev.nm F' 1 rfl rfl) CmpR.notIn) (fun _ => Tst.cmp (Ev.cast (b := lV ((bs.getD e.toNat []).filter fun j => !w.contains j)) (Ev.lc P F' [none, none, some 1] (φ := V.int) (zs := bs.getD e.toNat []) (f := fun j => if (!w.contains j) = true then some (V.int j) else none) (ItE.list (Ev.item (EvD.list (Ev.nm F' 3 rfl rfl)) (Ev.nm F' 2 rfl rfl) e0 e1 e2)) ?_ (fun c2 F2 hA2 j hj => Turn1.t F2 1 (noOwn_pick _) (Tst.cmp (Ev.nm F2 1 rfl rfl) (Ev.nm F2 2 rfl rfl) CmpR.notIn) (fun _ => Ev.nm F2 1 rfl rfl) rfl rfl (by decide) rfl) (by decide +kernel) (by decide +kernel) rfl (by decide +kernel) (fun _ _ => rfl)) ?_) (Ev.list EvL.nil) (CmpR.eqInts (ms := []) (by rw [hA, F.units]; omega)))) (fun _ => Ev.cast (Ev.bin (Ev.nm F' 1 rfl rfl) (Ev.list (EvL.cons (Ev.nm F' 2 rfl rfl) EvL.nil)) (BinR.addList (by rw [List.length_map, sizeLine_eq]; simp at hwl ⊢; omega))) (by simp [lV])) rfl rfl (by decide) rfl
      · refine Nat.le_trans (List.length_filterMap_le _ _) ?_
        have : bs.getD e.toNat [] ∈ bs := by
          have h2 : e.toNat < bs.length := by simp at he; omega
          rw [List.getD_eq_getElem?_getD, List.getElem?_eq_getElem h2]; exact List.getElem_mem h2
        have := hb2 _ this; omega
      · rw [fm_if]; rfl
    · have : (ws.flatMap fun w => [0, 1, 2, 3].filterMap fun e => if ordOk bs w e = true then some (lV (w ++ [e])) else none) = LL (ordStep bs ws) := by
        unfold ordStep
        rw [LL_eq, List.map_flatMap]
        congr 1
        funext w
        rw [fm_if, List.map_map]; rfl
      show Out.next [some (.val (.list (LL bs))), some (.val (.list (ws.flatMap fun w => [0, 1, 2, 3].filterMap fun e => if ordOk bs w e = true then some (lV (w ++ [e])) else none))), none] = _
      rw [this]
  · show Exs c [some (.val (.list (LL bs))), some (.val (.list (LL (ordW bs)))), none] _ _
    have inv : ∀ (r : List Int) (ws : List (List Int)), ws.length * 4 ^ r.length ≤ 256 → (∀ w ∈ ws, w.length + r.length = 4) → (r.foldl (fun ws (_ : Int) => ordStep bs ws) ws).length ≤ 256 ∧ ∀ w ∈ r.foldl (fun ws (_ : Int) => ordStep bs ws) ws, w.length = 4 := by
      intro r
      induction r with
      | nil => intro ws h1 h2; exact ⟨by simpa using h1, fun w hw => by simpa using h2 w hw⟩
      | cons x r ih =>
        intro ws h1 h2
        refine ih _ ?_ ?_
        · rw [List.length_cons, Nat.pow_succ] at h1
          have := ordStep_len bs ws
          have h3 : ws.length * (4 ^ r.length * 4) = ws.length * 4 * 4 ^ r.length := by rw [Nat.mul_comm (4 ^ r.length) 4, Nat.mul_assoc]
          exact Nat.le_trans (Nat.mul_le_mul_right _ this) (by omega)
        · intro w hw
          unfold ordStep at hw
          obtain ⟨w0, h0, hw⟩ := List.mem_flatMap.mp hw
          obtain ⟨e, _, rfl⟩ := List.mem_map.mp hw
          have := h2 w0 h0
          simp at this ⊢; omega
    obtain ⟨n1, n2⟩ := inv [0, 1, 2, 3] [[]] (by simp) (by simp)
    refine Exs.ret (Ex.ret (Ev.cast (Ev.lc P F.fr [none, none] (φ := lV) (zs := ordW bs) (f := fun w => some (markV (w.getD 3 0, ((fallsOf w).length : Int)))) (ItE.list (Ev.nm F.fr 1 rfl rfl)) ?_ (fun c' F' hA w hw => ?_) (by decide +kernel) (by decide +kernel) rfl (by decide +kernel) (fun _ _ => rfl)) ?_))
    · refine Nat.le_trans (List.length_filterMap_le _ _) ?_
      have : (ordW bs).length ≤ 256 := n1
      omega
    · have hw4 : w.length = 4 := n2 w hw
      have get : ∀ i : Nat, i < 4 → (w.map V.int)[i]? = some (V.int (w.getD i 0)) := fun i hi => by
        rw [List.getElem?_map, getD_of (d := 0) (by omega)]; rfl
      refine Turn1.s F' 1 (noOwn_pick _) (Ev.tup (EvL.cons (Ev.item (EvD.list (Ev.nm F' 1 rfl rfl)) Ev.int (by decide) (by decide) (get 3 (by decide))) (EvL.cons (Ev.call (Glo.b P F' (by decide +kernel) (by simp) (v := .builtin "len") (by decide +kernel) (by decide) (by decide)) Kpr.builtin (EvL.cons (Ev.cast (b := lV (fallsOf w)) (Ev.lc P F' [none, none, some 1] (φ := V.int) (zs := [0, 1, 2]) (f := fun k => if decide (w.getD (k + 1).toNat 0 < w.getD k.toNat 0) = true then some (V.int k) else none) (ItE.call (Glo.b P F' (by decide +kernel) (by simp) (v := .type "range") (by decide +kernel) (by decide) (by decide)) Kpr.type (EvL.cons Ev.int EvL.nil) (IterR.range1 (by rw [hA]; exact F.hand) (by decide) (by decide))) ?_ (fun c2 F2 hA2 k hk => ?_) (by decide +kernel) (by decide +kernel) rfl (by decide +kernel) (fun _ _ => rfl)) ?_) EvL.nil) (CallR.lenI ?_)) EvL.nil)) (by simp [sizeLine_eq])) rfl rfl (by decide) rfl
      · exact Nat.le_trans (List.length_filterMap_le _ _) (by decide)
      · have hk' : 0 ≤ k ∧ k < 3 := by simp at hk; omega
        refine Turn1.t F2 1 (noOwn_pick _) (Tst.cmp (Ev.item (EvD.list (Ev.nm F2 2 rfl rfl)) (Ev.nm F2 1 rfl rfl) hk'.1 (by omega) (get k.toNat (by omega))) (Ev.item (EvD.list (Ev.nm F2 2 rfl rfl)) (Ev.bin (Ev.nm F2 1 rfl rfl) Ev.int BinR.add) (by omega) (by omega) (get (k + 1).toNat (by omega))) CmpR.gt) (fun _ => Ev.nm F2 1 rfl rfl) rfl rfl (by decide) rfl
      · rw [fm_if]; rfl
      · exact Nat.lt_of_le_of_lt (List.length_filter_le _ _) (by decide)
    · unfold marksOf
      rw [fm_some, List.map_map]
      rfl
end Mine
/-! PJ5 -/
set_option maxRecDepth 10000
namespace Mine
variable {D : Wd} {A : Around}

/-! _law_numberings -/
noncomputable def mx : List Int → Int
  | [] => 0
  | a :: l => l.foldl max a
theorem foldl_max (l : List Int) : ∀ a, (l.foldl max a = a ∨ l.foldl max a ∈ l) ∧ a ≤ l.foldl max a ∧ ∀ n ∈ l, n ≤ l.foldl max a := by
  induction l with
  | nil => intro a; simp
  | cons b l ih =>
    intro a
    obtain ⟨h1, h2, h3⟩ := ih (max a b)
    rw [List.foldl_cons]
    refine ⟨?_, by omega, fun n hn => ?_⟩
    · rcases h1 with h1 | h1
      · rcases Int.le_total a b with q | q
        · right; rw [h1, Int.max_eq_right q]; exact .head _
        · left; rw [h1, Int.max_eq_left q]
      · right; exact .tail _ h1
    · rcases List.mem_cons.mp hn with rfl | hn
      · omega
      · exact h3 n hn
theorem mx_mem {l : List Int} (h : l ≠ []) : mx l ∈ l ∧ ∀ n ∈ l, n ≤ mx l := by
  cases l with
  | nil => exact absurd rfl h
  | cons a l =>
    obtain ⟨h1, h2, h3⟩ := foldl_max l a
    refine ⟨?_, fun n hn => ?_⟩
    · rcases h1 with h1 | h1
      · show l.foldl max a ∈ _; rw [h1]; exact .head _
      · exact .tail _ h1
    · rcases List.mem_cons.mp hn with rfl | hn
      · exact h2
      · exact h3 n hn
noncomputable def numOk (bs : List (List Int)) (step e : Int) (row : List Int) (n : Int) : Bool := decide (mx ([0] ++ (bs.getD e.toNat []).map fun j => row.getD j.toNat 0 + step) ≤ n)
noncomputable def numStep (bs : List (List Int)) (step : Int) (rows : List (List Int)) (e : Int) : List (List Int) := rows.flatMap fun row => ([0, 1, 2, 3].filter (numOk bs step e row)).map fun n => row ++ [n]
noncomputable def numRows (bs : List (List Int)) (step : Int) : List (List Int) := [0, 1, 2, 3].foldl (numStep bs step) [[]]
noncomputable def numTops (bs : List (List Int)) (step : Int) : List Int := (numRows bs step).map mx
noncomputable def numsOf (bs : List (List Int)) (step : Int) : List Int := [4, 3, 2, 1].map fun m : Int => ((List.range m.toNat).map fun n : Nat => (((numTops bs step).countP (· == (n : Int)) : Nat) : Int)).sum
theorem numStep_len (bs : List (List Int)) (step e : Int) (rows : List (List Int)) : (numStep bs step rows e).length ≤ rows.length * 4 := flatMap_len fun w _ => by
  rw [List.length_map]; exact List.length_filter_le _ [0, 1, 2, 3]
noncomputable def numI (r : List Int) (rows : List (List Int)) : Prop := ∃ k : Nat, k ≤ 4 ∧ r = ([0, 1, 2, 3] : List Int).drop k ∧ rows.length ≤ 4 ^ k ∧ ∀ row ∈ rows, row.length = k
theorem drop4 {k : Nat} (hk : k ≤ 4) {x : Int} {r : List Int} (h : x :: r = ([0, 1, 2, 3] : List Int).drop k) : k < 4 ∧ x = (k : Int) ∧ r = ([0, 1, 2, 3] : List Int).drop (k + 1) := by
  have : k = 0 ∨ k = 1 ∨ k = 2 ∨ k = 3 ∨ k = 4 := by omega
  rcases this with rfl | rfl | rfl | rfl | rfl <;> simp at h <;> simp [h]
theorem numI_step {bs : List (List Int)} {step e : Int} {r : List Int} {rows : List (List Int)} (h : numI (e :: r) rows) : numI r (numStep bs step rows e) := by
  obtain ⟨k, h1, h2, h3, h4⟩ := h
  obtain ⟨k1, k2, k3⟩ := drop4 h1 h2
  refine ⟨k + 1, k1, k3, ?_, fun row hr => ?_⟩
  · have := numStep_len bs step e rows
    rw [Nat.pow_succ]; exact Nat.le_trans this (Nat.mul_le_mul_right _ h3)
  · unfold numStep at hr
    obtain ⟨w0, h0, hr⟩ := List.mem_flatMap.mp hr
    obtain ⟨n, _, rfl⟩ := List.mem_map.mp hr
    simp [h4 w0 h0]
theorem numI_end (bs : List (List Int)) (step : Int) : ∀ (r : List Int) (rows : List (List Int)), numI r rows → numI [] (r.foldl (numStep bs step) rows)
  | [], rows, h => h
  | e :: r, rows, h => numI_end bs step r _ (numI_step h)
theorem numI_0 : numI [0, 1, 2, 3] [[]] := ⟨0, by decide, rfl, by decide, by simp⟩
theorem numRows_end (bs : List (List Int)) (step : Int) : (numRows bs step).length ≤ 256 ∧ ∀ row ∈ numRows bs step, row.length = 4 := by
  obtain ⟨k, h1, h2, h3, h4⟩ := numI_end bs step _ _ numI_0
  have : k = 0 ∨ k = 1 ∨ k = 2 ∨ k = 3 ∨ k = 4 := by omega
  rcases this with rfl | rfl | rfl | rfl | rfl <;> simp at h2
  exact ⟨h3, h4⟩

theorem CallR.maxI (hh : A.handled = none) {ns : List Int} (h : ns ≠ []) : CallR D A (.builtin "max") [lV ns] (.int (mx ns)) := CallR.max hh (mx_mem h).1 (mx_mem h).2
theorem CallR.sumI (hh : A.handled = none) {ns : List Int} : CallR D A (.builtin "sum") [lV ns] (.int ns.sum) := CallR.sum hh

theorem law_numberings (P : PG D) (FA : FnAt D (P.adr 19) ["below", "step"] (bd 19) (sc 19)) (hh : A.handled = none) (hroom : A.depth < recursionLimit) (bs : List (List Int)) (step : Int) (hb : bs.length = 4) (hb2 : ∀ b ∈ bs, b.length ≤ 100)
    (hb3 : ∀ e : Nat, e < 4 → ∀ j ∈ bs.getD e [], 0 ≤ j ∧ j < (e : Int)) :
    CallR D A (.ref (P.adr 19)) [.list (LL bs), .int step] (lV (numsOf bs step)) := by
  refine CallR.def FA P hh hroom [0, 1] 5 rfl (fun c F => ?_) (by decide +kernel) (by decide +kernel) (by decide +kernel) (by decide +kernel) rfl (by decide +kernel) rfl rfl
  refine Exs.cons (Ex.st F.fr 2 (Ev.list (EvL.cons (Ev.list EvL.nil) EvL.nil)) rfl rfl (by decide) (fun _ _ _ => rfl)) ?_
  show Exs c ((fun ws : List (List Int) => [some (.val (.list (LL bs))), some (.val (.int step)), some (.val (.list (LL ws))), none, none]) [[]]) _ _
  have hbs : ∀ k : Nat, k < 4 → (LL bs)[((k : Nat) : Int).toNat]? = some (lV (bs.getD k [])) := fun k hk => by
    rw [LL_eq, List.getElem?_map, Int.toNat_natCast, getD_of (d := []) (by omega)]; rfl
  have hbm : ∀ k : Nat, k < 4 → (bs.getD k []).length ≤ 100 := fun k hk => hb2 _ (by
    rw [List.getD_eq_getElem?_getD, List.getElem?_eq_getElem (by omega)]; exact List.getElem_mem _)
  refine Exs.cons (Ex.forI (numStep bs step) (fun ws : List (List Int) => [some (.val (.list (LL bs))), some (.val (.int step)), some (.val (.list (LL ws))), none, none]) numI (xs := [0, 1, 2, 3]) (s := [[]]) (φ := V.int) numI_0 (ItE.call (Glo.b P F.fr (by decide +kernel) (by simp) (v := .type "range") (by decide +kernel) (by decide) (by decide)) Kpr.type (EvL.cons Ev.int EvL.nil) (IterR.range1 F.hand (by decide) (by decide))) ?_ (fun _ _ => rfl)) ?_
  · intro ws e r _ hI
    refine ⟨numI_step hI, _, AsgR.nm F.fr 3 rfl rfl (by decide), ?_⟩
    obtain ⟨k, k1, k2, k3, k4⟩ := hI
    obtain ⟨k5, rfl, k6⟩ := drop4 k1 k2
    have hw : ws.length ≤ 256 := Nat.le_trans k3 (Nat.le_trans (Nat.pow_le_pow_right (by decide) k1) (by decide))
    refine Exs.cast (Exs.drop 3 (Exs.cons (Ex.lcU2 P F.fr 2 [none, none, none, some 0, some 3, some 1] (φ := lV) (ψ := V.int) (zs := ws) (K := fun _ => [0, 1, 2, 3]) (f := fun w n => if numOk bs step (k : Int) w n = true then some (lV (w ++ [n])) else none) (noOwn_of rfl) (ItE.list (Ev.nm F.fr 2 rfl rfl)) ?_ (fun c' F' hA w hwm => ?_) rfl rfl (by decide +kernel) (by decide +kernel) (by decide +kernel) rfl (by decide +kernel) (fun _ _ => rfl) (fun _ _ => rfl)) Exs.nil)) ?_
    · refine Nat.le_trans (flatMap_len (m := 4) fun w _ => List.length_filterMap_le _ [0, 1, 2, 3]) (by omega)
    · have hwl := k4 w hwm
      refine ⟨_, AsgR.nm F' 1 rfl rfl (by decide), Sub.set rfl, TestsR.nil, ItE.call (Glo.b P F' (by decide +kernel) (by simp) (v := .type "range") (by decide +kernel) (by decide) (by decide)) Kpr.type (EvL.cons Ev.int EvL.nil) (IterR.range1 (by rw [hA]; exact F.hand) (by decide) (by decide)), fun n hn => ?_⟩
      refine Turn1.t F' 2 ((noOwn_pick _).set _ _) (Tst.cmp (Ev.call (Glo.b P F' (by decide +kernel) (by simp) (v := .builtin "max") (by decide +kernel) (by decide) (by decide)) Kpr.builtin (EvL.cons (Ev.cast (b := lV ([0] ++ (bs.getD k []).map fun j => w.getD j.toNat 0 + step)) (Ev.bin (Ev.list (EvL.cons Ev.int EvL.nil)) (Ev.lc P F' [none, none, some 1, some 5] (φ := V.int) (zs := bs.getD k []) (f := fun j => some (V.int (w.getD j.toNat 0 + step))) (ItE.list (Ev.item (EvD.list (Ev.nm F' 3 rfl rfl)) (Ev.nm F' 4 rfl rfl) (by omega) (by omega) (hbs k k5))) ?_ (fun c2 F2 hA2 j hj => ?_) (by decide +kernel) (by decide +kernel) rfl (by decide +kernel) (fun _ _ => rfl)) (BinR.addList ?_)) ?_) EvL.nil) (CallR.maxI (by rw [hA]; exact F.hand) (by simp))) (Ev.nm F' 2 rfl rfl) CmpR.le) (fun _ => Ev.cast (Ev.bin (Ev.nm F' 1 rfl rfl) (Ev.list (EvL.cons (Ev.nm F' 2 rfl rfl) EvL.nil)) (BinR.addList (by rw [List.length_map, sizeLine_eq]; simp at hwl ⊢; omega))) (by simp [lV])) rfl rfl (by decide) rfl
      · have := hbm k k5
        exact Nat.le_trans (List.length_filterMap_le _ _) (by omega)
      · have hj' := hb3 k k5 j hj
        refine Turn1.s F2 1 (noOwn_pick _) (Ev.bin (Ev.item (EvD.list (Ev.nm F2 2 rfl rfl)) (Ev.nm F2 1 rfl rfl) hj'.1 (by omega) ?_) (Ev.nm F2 3 rfl rfl) BinR.add) rfl rfl (by decide) rfl
        rw [List.getElem?_map, getD_of (d := 0) (by omega)]; rfl
      · have := hbm k k5
        have := List.length_filterMap_le (fun j : Int => some (V.int (w.getD j.toNat 0 + step))) (bs.getD k [])
        rw [sizeLine_eq]; simp only [List.length_cons, List.length_nil]; omega
      · rw [fm_some]; simp [lV]
    · have : (ws.flatMap fun w => [0, 1, 2, 3].filterMap fun n => if numOk bs step (k : Int) w n = true then some (lV (w ++ [n])) else none) = LL (numStep bs step ws (k : Int)) := by
        unfold numStep
        rw [LL_eq, List.map_flatMap]
        congr 1
        funext w
        rw [fm_if, List.map_map]; rfl
      show Out.next [some (.val (.list (LL bs))), some (.val (.int step)), some (.val (.list (ws.flatMap fun w => [0, 1, 2, 3].filterMap fun n => if numOk bs step (k : Int) w n = true then some (lV (w ++ [n])) else none))), none, none] = _
      rw [this]
  show Exs c [some (.val (.list (LL bs))), some (.val (.int step)), some (.val (.list (LL (numRows bs step)))), none, none] _ _
  obtain ⟨n1, n2⟩ := numRows_end bs step
  refine Exs.cons (Ex.stC F.fr 4 (Ev.cast (b := lV (numTops bs step)) (Ev.lc P F.fr [none, none] (φ := lV) (zs := numRows bs step) (f := fun w => some (V.int (mx w))) (ItE.list (Ev.nm F.fr 2 rfl rfl)) ?_ (fun c' F' hA w hw => ?_) (by decide +kernel) (by decide +kernel) rfl (by decide +kernel) (fun _ _ => rfl)) ?_) rfl rfl) ?_
  · exact Nat.le_trans (List.length_filterMap_le _ _) (by omega)
  · have := n2 w hw
    exact Turn1.s F' 1 (noOwn_pick _) (Ev.call (Glo.b P F' (by decide +kernel) (by simp) (v := .builtin "max") (by decide +kernel) (by decide) (by decide)) Kpr.builtin (EvL.cons (Ev.nm F' 1 rfl rfl) EvL.nil) (CallR.maxI (by rw [hA]; exact F.hand) (by intro q; rw [q] at this; cases this))) rfl rfl (by decide) rfl
  · rw [fm_some]; simp [lV, numTops]
  refine Exs.ret (Ex.ret (Ev.cast (Ev.lc P F.fr [none, none, some 4] (φ := V.int) (zs := [4, 3, 2, 1]) (f := fun m => some (V.int ((List.range m.toNat).map fun n : Nat => (((numTops bs step).countP (· == (n : Int)) : Nat) : Int)).sum)) (ItE.list (Ev.list (EvL.cons Ev.int (EvL.cons Ev.int (EvL.cons Ev.int (EvL.cons Ev.int EvL.nil)))))) ?_ (fun c' F' hA m hm => ?_) (by decide +kernel) (by decide +kernel) rfl (by decide +kernel) (fun _ _ => rfl)) ?_))
  · simp
  · have hm' : 0 ≤ m ∧ m ≤ 4 := by simp at hm; omega
    refine Turn1.s F' 1 (noOwn_pick _) (Ev.call (Glo.b P F' (by decide +kernel) (by simp) (v := .builtin "sum") (by decide +kernel) (by decide) (by decide)) Kpr.builtin (EvL.cons (Ev.cast (b := lV ((List.range m.toNat).map fun n : Nat => (((numTops bs step).countP (· == (n : Int)) : Nat) : Int))) (Ev.lc P F' [none, none, some 2] (φ := fun n : Nat => V.int (n : Int)) (zs := List.range m.toNat) (f := fun n : Nat => some (V.int (((numTops bs step).countP (· == (n : Int)) : Nat) : Int))) (ItE.cast (ItE.call (Glo.b P F' (by decide +kernel) (by simp) (v := .type "range") (by decide +kernel) (by decide) (by decide)) Kpr.type (EvL.cons (Ev.nm F' 1 rfl rfl) EvL.nil) (IterR.range1 (by rw [hA]; exact F.hand) (by omega) (by omega))) ?_) ?_ (fun c2 F2 hA2 n hn => Turn1.s F2 1 (noOwn_pick _) (Ev.count (Ev.nm F2 2 rfl rfl) (EvL.cons (Ev.nm F2 1 rfl rfl) EvL.nil) rfl) rfl rfl (by decide) rfl) (by decide +kernel) (by decide +kernel) rfl (by decide +kernel) (fun _ _ => rfl)) ?_) EvL.nil) (CallR.sumI (by rw [hA]; exact F.hand))) rfl rfl (by decide) rfl
    · rw [ranV_map, List.map_map]
      apply List.map_congr_left
      intro i _
      simp
    · refine Nat.le_trans (List.length_filterMap_le _ _) ?_
      rw [List.length_range]; omega
    · rw [fm_some]; simp [lV]
  · rw [fm_some]; simp [lV, numsOf]
end Mine
/-! PJ6 -/
set_option maxRecDepth 10000
namespace Mine
variable {D : Wd} {A : Around}

theorem LoopC.foldM {c : Cx D} {α σ : Type} {φ : α → V} {tgt : Expr} {body : List Stmt} {st : σ → α → Option σ} {R : σ → Ro} : ∀ (xs : List α) (s s' : σ), xs.foldlM st s = some s' → (∀ s x s', x ∈ xs → st s x = some s' → ∃ ρ₁, AsgR c (R s) tgt (φ x) ρ₁ ∧ Exs c ρ₁ body (.next (R s'))) → LoopC c tgt body (xs.map φ) (R s) (.next (R s'))
  | [], s, s', h, _ => by cases h; rfl
  | x :: xs, s, s', h, k => by
    rw [List.foldlM_cons] at h
    cases e : st s x with
    | none => rw [e] at h; cases h
    | some s1 =>
      rw [e] at h
      obtain ⟨ρ₁, h1, h2⟩ := k s x s1 (.head _) e
      exact ⟨ρ₁, _, h1, h2, LoopC.foldM xs s1 s' h fun s y s' hy e => k s y s' (.tail _ hy) e⟩
theorem Ex.forM {c : Cx D} {α σ : Type} {φ : α → V} {tgt itx : Expr} {body : List Stmt} {pos : Pos} (st : σ → α → Option σ) (R : σ → Ro) {xs : List α} {s s' : σ} (hr : xs.foldlM st s = some s') (hit : ItE c (R s) tgt itx (xs.map φ)) (h : ∀ s x s', x ∈ xs → st s x = some s' → ∃ ρ₁, AsgR c (R s) tgt (φ x) ρ₁ ∧ Exs c ρ₁ body (.next (R s')))
    (hs : ∀ x env, foldedSetIterable itx env x = pure x) : Ex c (R s) (.For tgt itx body [] pos) (.next (R s')) :=
  Ex.for hit (LoopC.foldM xs s s' hr h) hs

/-! _law_gathered -/
noncomputable abbrev Ent := Int × Int × List (Int × Int)
noncomputable abbrev Bk := List Int × List Ent
noncomputable def entV (x : Ent) : V := tup5 x.1 x.2.1 0 0 (x.2.2.map (·.1)) ((x.2.2.map (·.2)).map V.int)
noncomputable def lookE (b : Bk) (k : Int) : Option Ent := ((b.1.zip b.2).find? fun p => decide (p.1 = k)).map (·.2)
noncomputable def putB (b : Bk) (k : Int) (x : Ent) : Bk := if k ∈ b.1 then (b.1, b.2.set (b.1.idxOf k) x) else (b.1 ++ [k], b.2 ++ [x])
noncomputable def movedN (width e : Int) (p : Int × Int) : Int := p.2 * 2 ^ (if e < p.1 then width else 0).toNat
noncomputable def fallsN (width e : Int) (x : Ent) : Int := (x.2.2.map (movedN width e)).foldl (· + ·) 0
noncomputable def gCond (need : List Int) (mask e : Int) : Bool := (Builtin.bitAnd mask (2 ^ e.toNat) == 0) && (Builtin.bitAnd mask (need.getD e.toNat 0) == need.getD e.toNat 0)
noncomputable def gOk (width e : Int) (x old : Ent) : Bool := decide (x.2.2.map (·.1)).Nodup && decide (x.2.2.length ≤ 500) && decide (old.2.2.map (·.1) ++ [e]).Nodup && decide (old.2.2.length ≤ 500) && x.2.2.all fun p => decide ((Builtin.Int.intBits p.2 : Int) + width ≤ 2 ^ 27)
noncomputable def gStep (need : List Int) (width mask : Int) (b : Bk) (e : Int) : Option Bk :=
  if gCond need mask e = true then
    match lookE b mask with
    | none => none
    | some x =>
      let old := (lookE b (mask + 2 ^ e.toNat)).getD (0, 0, [])
      if gOk width e x old = true && decide (b.1.length ≤ 5000) then some (putB b (mask + 2 ^ e.toNat) (x.1 + old.1, fallsN width e x + old.2.1, old.2.2 ++ [(e, fallsN width e x)])) else none
  else some b
noncomputable def gMask (need : List Int) (width : Int) (b : Bk) (mask : Int) : Option Bk :=
  if (lookE b mask).isSome = true then [0, 1, 2, 3].foldlM (gStep need width mask) b else some b
noncomputable def gRun (need : List Int) (width : Int) : Option Bk := ((List.range 15).map fun i : Nat => (i : Int)).foldlM (gMask need width) ([0], [(1, 1, [(-1, 1)])])

theorem lookD_entV (b : Bk) (k : Int) : lookD b.1 (b.2.map entV) k = (lookE b k).map entV := by
  obtain ⟨ks, es⟩ := b
  unfold lookD lookE
  simp only
  induction ks generalizing es with
  | nil => simp
  | cons a ks ih =>
    cases es with
    | nil => simp
    | cons x es =>
      simp only [List.map_cons, List.zip_cons_cons, List.find?_cons]
      by_cases q : a = k
      · simp [q]
      · simp only [q, decide_false]; exact ih es
theorem putK_entV (b : Bk) (k : Int) (x : Ent) : putK b.1 (b.2.map entV) k (entV x) = .dict (putB b k x).1 ((putB b k x).2.map entV) := by
  unfold putK putB
  by_cases h : k ∈ b.1
  · rw [if_pos h, if_pos h, List.map_set]
  · rw [if_neg h, if_neg h]; simp

theorem law_gathered (P : PG D) (FA : FnAt D (P.adr 20) ["need", "width"] (bd 20) (sc 20)) (FS : FnAt D (P.adr 10) ["target", "source"] (bd 10) (sc 10)) (FC : FnAt D (P.adr 11) ["target", "source"] (bd 11) (sc 11)) (FN : FnAt D (P.adr 12) ["callers"] (bd 12) (sc 12))
    (n11 : P.nm 11 = "add_callers") (n10 : P.nm 10 = "add_func_stats") (n12 : P.nm 12 = "count_calls") (hh : A.handled = none) (hroom : A.depth + 2 < recursionLimit) (need : List Int) (width : Int) (hn : need.length = 4) (hw : 0 ≤ width ∧ width ≤ 100)
    (b : Bk) (x : Ent) (hr : gRun need width = some b) (hx : lookE b 15 = some x) : CallR D A (.ref (P.adr 20)) [lV need, .int width] (entV x) := by
  refine CallR.def FA P hh (by omega) [0, 1] 7 rfl (fun c F => ?_) (by decide +kernel) (by decide +kernel) (by decide +kernel) (by decide +kernel) rfl (by decide +kernel) rfl rfl
  refine Exs.cons (Ex.stO F.fr 2 (EvO.dict1 P.sm Ev.int (Ev.tup (EvL.cons Ev.int (EvL.cons Ev.int (EvL.cons Ev.int (EvL.cons Ev.int (EvL.cons (Ev.dict1 P.sm (Ev.neg Ev.int) Ev.int) EvL.nil))))) (by simp [sizeLine_eq]))) rfl rfl (by decide) (fun _ _ _ => rfl)) ?_
  show Exs c ((fun b : Bk => [some (.val (lV need)), some (.val (.int width)), some (.own (.dict b.1 (b.2.map entV))), none, none, none, none]) ([0], [(1, 1, [(-1, 1)])])) _ _
  refine Exs.cons (Ex.forM (gMask need width) (fun b : Bk => [some (.val (lV need)), some (.val (.int width)), some (.own (.dict b.1 (b.2.map entV))), none, none, none, none]) (xs := (List.range 15).map fun i : Nat => (i : Int)) (φ := V.int) (s := ([0], [(1, 1, [(-1, 1)])])) (s' := b) hr (ItE.cast (ItE.call (Glo.b P F.fr (by decide +kernel) (by simp) (v := .type "range") (by decide +kernel) (by decide) (by decide)) Kpr.type (EvL.cons Ev.int EvL.nil) (IterR.range1 F.hand (by decide) (by decide))) ?_) ?_ (fun _ _ => rfl)) ?_
  · rw [ranV_map]; simp
  · intro b mask b' hm hs
    refine ⟨_, AsgR.nm F.fr 3 rfl rfl (by decide), ?_⟩
    refine Exs.cast (Exs.drop 3 (Exs.cons (ρ' := [some (.val (lV need)), some (.val (.int width)), some (.own (.dict b'.1 (b'.2.map entV))), some (.val (.int mask)), none, none, none]) (Ex.if (Tst.inD (Ev.nm F.fr 3 rfl rfl) (EvD.nm F.fr 2 rfl rfl (sole_of rfl))) (fun e => ?_) (fun e => ?_)) Exs.nil)) rfl
    · rw [lookD_entV, Option.isSome_map] at e
      unfold gMask at hs
      rw [if_pos e] at hs
      refine Exs.cons (Ex.forM (gStep need width mask) (fun b : Bk => [some (.val (lV need)), some (.val (.int width)), some (.own (.dict b.1 (b.2.map entV))), some (.val (.int mask)), none, none, none]) (xs := [0, 1, 2, 3]) (φ := V.int) (s := b) (s' := b') hs (ItE.call (Glo.b P F.fr (by decide +kernel) (by simp) (v := .type "range") (by decide +kernel) (by decide) (by decide)) Kpr.type (EvL.cons Ev.int EvL.nil) (IterR.range1 F.hand (by decide) (by decide))) ?_ (fun _ _ => rfl)) Exs.nil
      intro b e b' he hs
      have he' : 0 ≤ e ∧ e ≤ 3 := by simp at he; omega
      refine ⟨_, AsgR.nm F.fr 4 rfl rfl (by decide), ?_⟩
      have hneed : (need.map V.int)[e.toNat]? = some (V.int (need.getD e.toNat 0)) := by
        rw [List.getElem?_map, getD_of (d := 0) (by omega)]; rfl
      refine Exs.cast (Exs.drop 6 (Exs.drop 5 (Exs.drop 4 (Exs.cons (ρ' := [some (.val (lV need)), some (.val (.int width)), some (.own (.dict b'.1 (b'.2.map entV))), some (.val (.int mask)), some (.val (.int e)), none, none]) (Ex.if (b := gCond need mask e)
        (Tst.and2 (Tst.cmp (Ev.bin (Ev.nm F.fr 3 rfl rfl) (Ev.bin Ev.int (Ev.nm F.fr 4 rfl rfl) (BinR.pow he'.1 ?_)) BinR.and) Ev.int CmpR.eq) (fun _ => Tst.cmp (Ev.bin (Ev.nm F.fr 3 rfl rfl) (Ev.item (EvD.list (Ev.nm F.fr 0 rfl rfl)) (Ev.nm F.fr 4 rfl rfl) he'.1 (by omega) hneed) BinR.and) (Ev.item (EvD.list (Ev.nm F.fr 0 rfl rfl)) (Ev.nm F.fr 4 rfl rfl) he'.1 (by omega) hneed) CmpR.eq))
        (fun hc => ?_) (fun hc => ?_)) Exs.nil)))) rfl
      · have : (Builtin.Int.intBits 2 : Int) = 2 := by decide +kernel
        rw [this]; omega
      · unfold gStep at hs
        rw [if_pos hc] at hs
        cases hx1 : lookE b mask with
        | none => rw [hx1] at hs; cases hs
        | some en =>
          rw [hx1] at hs
          simp only at hs
          split at hs
          case isFalse => cases hs
          case isTrue hok =>
          cases hs
          simp only [Bool.and_eq_true, decide_eq_true_eq] at hok
          obtain ⟨hok, hlen⟩ := hok
          unfold gOk at hok
          simp only [Bool.and_eq_true, decide_eq_true_eq, List.all_eq_true] at hok
          obtain ⟨⟨⟨⟨o1, o2⟩, o3⟩, o4⟩, o5⟩ := hok
          have hp2 : (Builtin.Int.intBits 2 : Int) * e ≤ 2 ^ 27 := by
            have : (Builtin.Int.intBits 2 : Int) = 2 := by decide +kernel
            rw [this]; omega
          have hlk : lookD b.1 (b.2.map entV) mask = some (entV en) := by rw [lookD_entV, hx1]; rfl
          refine Exs.cons (Ex.st F.fr 5 (a := .int (fallsN width e en)) (Ev.call (Glo.t P F.fr 12 (by decide +kernel) n12 (by decide) (by decide)) FN.kpr (EvL.cons (Ev.cast (b := .dict (en.2.2.map (·.1)) ((en.2.2.map (movedN width e)).map V.int)) (Ev.dc P F.fr [none, none, none, some 4, some 1] (φ := fun q : Int × Int => pV (q.1, V.int q.2)) (zs := en.2.2) (f := fun q => some (q.1, V.int (movedN width e q))) (ItE.cast (ItE.items rfl (Ev.itemTup (Ev.itemD (EvD.nm F.fr 2 rfl rfl (sole_of rfl)) (Ev.nm F.fr 3 rfl rfl) hlk) Ev.int (by decide) (by decide) rfl) rfl) ?_) ?_ ?_ (fun c' F' hA q hq => ⟨_, AsgR.tup (AsgRs.cons (AsgR.nm F' 1 rfl rfl (by decide)) (AsgRs.cons (AsgR.nm F' 2 rfl rfl (by decide)) AsgRs.nil)), Sub.trans (Sub.set rfl) (Sub.set rfl), ((noOwn_pick _).set _ _).set _ _, TestsR.nil, fun k a ek => ?_⟩) (by decide +kernel) (by decide +kernel) rfl (by decide +kernel) (fun _ _ => rfl)) ?_) EvL.nil) (count_calls P FN F.hand (by rw [F.depth]; omega) _ _)) rfl rfl (by decide) (fun _ _ _ => rfl)) ?_
          · unfold kvV
            rw [List.map_map]
            have : ∀ l : List (Int × Int), (((l.map (·.1)).zip (l.map (V.int ∘ (·.2)))).map fun p => V.tup [.int p.1, p.2]) = l.map fun q => pV (q.1, V.int q.2) := by
              intro l
              induction l with
              | nil => rfl
              | cons a l ih => simp only [List.map_cons, List.zip_cons_cons, ih]; rfl
            exact this _
          · exact Nat.le_trans (List.length_filterMap_le _ _) (by omega)
          · rw [fm_some, List.map_map]; exact o1
          · cases ek
            have hq5 := o5 q hq
            refine ⟨Ev.nm F' 1 rfl rfl, Ev.bin (Ev.nm F' 2 rfl rfl) (Ev.cast (b := .int (if e < q.1 then width else 0)) (Ev.ite (Tst.cmp (Ev.nm F' 1 rfl rfl) (Ev.nm F' 3 rfl rfl) CmpR.gt) (fun _ => Ev.nm F' 4 rfl rfl) (fun _ => Ev.int)) ?_) (BinR.shl ?_ ?_)⟩
            · by_cases z : e < q.1 <;> simp [z]
            · split <;> omega
            · split
              · exact hq5
              · omega
          · rw [fm_some, List.map_map, List.map_map, List.map_map]; rfl
          · refine Exs.cons (Ex.st F.fr 6 (a := entV ((lookE b (mask + 2 ^ e.toNat)).getD (0, 0, []))) (Ev.cast (Ev.getOwn (i := 2) (ks := b.1) (vs := b.2.map entV) (k := mask + 2 ^ e.toNat) (by rw [F.fr.names]; rfl) rfl (sole_of rfl) (EvL.cons (Ev.bin (Ev.nm F.fr 3 rfl rfl) (Ev.bin Ev.int (Ev.nm F.fr 4 rfl rfl) (BinR.pow he'.1 hp2)) BinR.add) (EvL.cons (Ev.tup (EvL.cons Ev.int (EvL.cons Ev.int (EvL.cons Ev.int (EvL.cons Ev.int (EvL.cons (Ev.dict0 P.sm) EvL.nil))))) (by simp [sizeLine_eq])) EvL.nil)) rfl) ?_) rfl rfl (by decide) (fun _ _ _ => rfl)) ?_
            · rw [lookD_entV]
              cases lookE b (mask + 2 ^ e.toNat) with
              | none => rfl
              | some _ => rfl
            · refine Exs.cast (Exs.drop 6 (Exs.drop 5 (Exs.cons (Ex.setKey (i := 2) (n := mask + 2 ^ e.toNat) (a := entV (en.1 + ((lookE b (mask + 2 ^ e.toNat)).getD (0, 0, [])).1, fallsN width e en + ((lookE b (mask + 2 ^ e.toNat)).getD (0, 0, [])).2.1, ((lookE b (mask + 2 ^ e.toNat)).getD (0, 0, [])).2.2 ++ [(e, fallsN width e en)])) (by rw [F.fr.names]; rfl) rfl (sole_of rfl)
                (Ev.cast (Ev.call (Glo.t P F.fr 10 (by decide +kernel) n10 (by decide) (by decide)) FS.kpr (EvL.cons (Ev.nm F.fr 6 rfl rfl) (EvL.cons (Ev.tup (EvL.cons (Ev.itemTup (Ev.itemD (EvD.nm F.fr 2 rfl rfl (sole_of rfl)) (Ev.nm F.fr 3 rfl rfl) hlk) Ev.int (by decide) (by decide) rfl) (EvL.cons (Ev.nm F.fr 5 rfl rfl) (EvL.cons Ev.int (EvL.cons Ev.int (EvL.cons (Ev.dict1 P.sm (Ev.nm F.fr 4 rfl rfl) (Ev.nm F.fr 5 rfl rfl)) EvL.nil))))) (by simp [sizeLine_eq])) EvL.nil)) (add_func_stats P FS FC n11 F.hand (by rw [F.depth]; omega) _ _ _ _ _ _ _ _ _ [e] _ [.int (fallsN width e en)] (by simp) rfl (by exact o3) (by simp; omega))) ?_)
                (Ev.bin (Ev.nm F.fr 3 rfl rfl) (Ev.bin Ev.int (Ev.nm F.fr 4 rfl rfl) (BinR.pow he'.1 hp2)) BinR.add) (by omega)) Exs.nil))) ?_
              · simp [entV, tup5]
              · rw [putK_entV]; rfl
      · unfold gStep at hs
        rw [if_neg (by rw [hc]; decide)] at hs
        cases hs
        exact Exs.nil
    · rw [lookD_entV, Option.isSome_map] at e
      unfold gMask at hs
      rw [if_neg (by rw [e]; decide)] at hs
      cases hs
      exact Exs.nil
  · refine Exs.ret (Ex.ret (Ev.itemD (EvD.nm F.fr 2 rfl rfl (sole_of rfl)) Ev.int ?_))
    rw [lookD_entV, hx]; rfl
end Mine
/-! PJ7 -/
set_option maxRecDepth 10000
namespace Mine

noncomputable def defArgs : Stmt → Arguments
  | .FunctionDef _ args _ _ _ _ _ _ _ _ => args
  | _ => { posonlyargs := [], args := [], vararg := none, kwonlyargs := [], kw_defaults := [], kwarg := none, defaults := [] }
noncomputable def margs (i j : Nat) : Arguments := defArgs (((bd i)[j]?).getD (.Pass ⟨0, 0, 0, 0⟩))

section
variable {D : Wd} {c : Cx D} {A : Around} {ρ ρ' ρ'' ρ0 ρ1 : Ro} {o : Out} {l : List (Str × NameKind)}
noncomputable def extIdx (ns : List Str) (l : List (Str × NameKind)) : List (Option Nat) := (nk l).map fun p => if p.2 = .ext then some (ns.idxOf p.1) else none
noncomputable def extAt (idxs : List (Option Nat)) (vs : List V) : Ro := idxs.map fun o => match o with | none => none | some j => (vs[j]?).map Slot.val
theorem lookup_zip : ∀ {ns : List Str} {vs : List V} {x : Str}, ns.length = vs.length → (ns.zip vs).lookup x = if x ∈ ns then vs[ns.idxOf x]? else none
  | [], [], x, _ => by simp
  | [], _ :: _, _, h => by simp at h
  | _ :: _, [], _, h => by simp at h
  | n :: ns, v :: vs, x, h => by
    rw [List.zip_cons_cons, List.lookup_cons]
    by_cases q : x = n
    · subst q; simp
    · have q' : (x == n) = false := by simpa using q
      have q'' : (n == x) = false := by simpa using fun z : n = x => q z.symm
      rw [q', List.idxOf_cons, q'']
      simp only [cond_false, List.mem_cons, q, false_or, List.getElem?_cons_succ]
      exact lookup_zip (by simpa using h)
theorem extRo_at {ns : List Str} {vs : List V} {idxs : List (Option Nat)} (h : extIdx ns l = idxs) (hn : ns.length = vs.length) (hf : l.all (fun p => p.2 != .free || ns.contains p.1) = true) : extRo l (ns.zip vs) = extAt idxs vs := by
  subst h
  unfold extRo extAt extIdx
  rw [List.map_map]
  apply List.map_congr_left
  rintro ⟨x, k⟩ hx
  by_cases hk : k = .ext
  · subst hk
    simp only [if_true, Function.comp_apply]
    rw [lookup_zip hn]
    have : (x, NameKind.free) ∈ l := by rcases nk_mem hx with ⟨q, _⟩ | ⟨q, _⟩ | ⟨_, q⟩ <;> first | (cases q; done) | exact q
    have := List.all_eq_true.mp hf _ this
    rw [if_pos (by simpa using this)]
  · simp [hk]
theorem CallV.def (P : PG D) {ps : Arguments} {body : List Stmt} {sc : Scope} {clos : List (Str × Addr)} {q : Str} (ns : List Str) (vs : List V) (pn : List Str) {as : List V} {a : V} (idxs : List (Option Nat)) (is : List Nat) (hh : A.handled = none) (hroom : A.depth < recursionLimit) (hl : pn.length = as.length) (hns : ns.length = vs.length)
    (hbind : ∀ fd : FuncData, fd.params = ps → fd.defaults = .none → fd.kwdefaults = .none → ∀ vs : List Value, vs.length = pn.length → bindArgs fd ⟨vs, []⟩ = pure (pn.zip vs))
    (hb : ∀ c : Cx D, FnC c A sc.names clos → Exs c (setAll is as (extAt idxs vs)) body (.ret a))
    (hi : (pn.map fun x => (nkN sc.names).idxOf x) = is) (hx : extIdx ns sc.names = idxs) (hf : sc.names.all (fun p => p.2 != .free || ns.contains p.1) = true)
    (ho : okNames sc.names = true) (hp : okBinds sc.names pn = true) (hk : sc.kind = .function)
    (hco : sc.isCoroutine = false) (hgen : sc.isGenerator = false) : CallV D A (.fn ps (.stmts body) sc clos q) clos (ns.zip vs) as a :=
  CallV.of P.gd hh hroom hl hbind (fun c F => by rw [bindRo_all, hi, extRo_at hx hns hf]; exact hb c F) ho hp hk (fun x hx => by
    rw [lookup_zip hns]
    have := List.all_eq_true.mp hf _ hx
    rw [if_pos (by simpa using this)]
    have hm : x ∈ ns := by simpa using this
    have hlt : ns.idxOf x < vs.length := by rw [← hns]; exact List.idxOf_lt_length_of_mem hm
    exact ⟨vs[ns.idxOf x], List.getElem?_eq_getElem hlt⟩) hco hgen
theorem Tst.list {e : Expr} {l : List V} (h : Ev c ρ e (.list l)) (hs : l.length ≤ 10000) (he : ∀ env whole, isTrue e env whole = (do let v ← whole; standAt e.pos; holding [v] (truthy v)) := by intro _ _; rfl) : Tst c ρ e (!l.isEmpty) := .mk fun G s E S => by
  refine wpAny_isTrue_value (h.mono S fun v s₁ G₁ x₁ g₁ r₁ => ?_) (he _ _)
  obtain ⟨a, us, rfl, ⟨n, e⟩, rs⟩ := VR.list_iff.mp r₁
  refine wpAny_truthy_list (items := us.toArray) ⟨_, g₁.sub _ _ e, rfl, n, rfl⟩ (by rw [List.size_toArray, ← rs.length]; omega) ?_
  have : us.toArray.isEmpty = l.isEmpty := by
    have := rs.length
    cases us <;> cases l <;> simp at this ⊢
  rw [this]
  exact ⟨G₁, x₁.then g₁ (Ext.tok ..), g₁.tok _, rfl⟩
theorem Tst.int {e : Expr} {n : Int} (h : Ev c ρ e (.int n)) (he : ∀ env whole, isTrue e env whole = (do let v ← whole; standAt e.pos; holding [v] (truthy v)) := by intro _ _; rfl) : Tst c ρ e (n != 0) := .mk fun G s E S => by
  refine wpAny_isTrue_value (h.mono S fun v s₁ G₁ x₁ g₁ r₁ => ?_) (he _ _)
  obtain ⟨t, rfl⟩ := VR.int_iff.mp r₁
  exact PyProof.Rows.truthy_int ⟨G₁, x₁, g₁, rfl⟩
end

/-! ### a def with defs inside: its code and its place are known -/
structure NestAt (D : Wd) (fa : Addr) (pos : Pos) (qual qn : Str) : Prop where
  it : ∃ cA T, CodeHd D.h₀ cA T ∧ D.h₀.BuiltinsAt D.mg T ∧ (T, pos, qual) ∈ D.ti ∧ ∀ o fd, D.h₀.get? fa = some o → o.data = .func fd → fd.code = .ref cA ∧ fd.qualname = qn
  nd : (D.ti.map (·.1)).Nodup
theorem CallR.fnS {D : Wd} {A : Around} {fa : Addr} {xs : List Str} {body : List Stmt} {scope : Scope} {l : List V} {a : V} (F : FnAt D fa xs body scope) (P : PG D) {pos : Pos} {qual qn : Str} (N : NestAt D fa pos qual qn) (hh : A.handled = none) (hroom : A.depth < recursionLimit) (is : List Nat) (n : Nat) (hl : xs.length = l.length)
    (hb : ∀ (c : Cx D) (cA T : Addr), Fn c A scope.names → c.env.code = .ref cA → c.env.qual = qn ++ ".<locals>." → CodeHd D.h₀ cA T → D.h₀.BuiltinsAt D.mg T → (T, pos, qual) ∈ D.ti → Exs c (setAll is l (List.replicate n none)) body (.ret a))
    (hi : (xs.map fun x => (nkN scope.names).idxOf x) = is) (hn : (nk scope.names).length = n)
    (ho : okNames scope.names = true) (hp : okBinds scope.names xs = true) (hk : scope.kind = .function) (hfree : (nkK scope.names).all (· != .ext) = true)
    (hco : scope.isCoroutine = false) (hgen : scope.isGenerator = false) : CallR D A (.ref fa) l a := by
  intro G s E vs g r
  obtain ⟨ob, fd, e, ed, es, eb, eg, eu, ec, ecd, ebind⟩ := F.obj
  obtain ⟨cA, T, C, B, hti, hfd⟩ := N.it
  obtain ⟨hcode, hqn⟩ := hfd ob fd e ed
  refine wpAny_call ?_
  refine codeAny_call_function (fd := fd) hroom (g.base' _ _ e) ed (by rw [es]; exact hco) (by rw [es]; exact hgen) eb (ecd.keeps g.base') ?_
  rw [ebind vs (by rw [← r.length, hl]), es, eg, eu, ec]
  refine wpAny_pure (newEnv_fn (D := D) (A := A) (G0 := G) (s0 := s) (ρ := List.replicate (nk scope.names).length none) hp hl r (fun k => fn_frame (Ext.refl ..) g hh ho hk (by simp) (fun i x h1 h2 => ?_) (fun i sl h => ?_)) fun s' S' => ?_)
  · have := List.all_eq_true.mp hfree .ext (List.mem_of_getElem? h2)
    simp at this
  · rw [List.getElem?_replicate] at h; split at h <;> cases h
  · refine ⟨P.gd.lim.keeps S'.ok.base', codeAny_func ?_⟩
    have hx := hb _ cA T (fnCx_fn (D := D) (A := A) (scope := scope) (cl := []) (L := s.heap.objs.size) (qual := fd.qualname ++ ".<locals>.") (fa := fa) (code := fd.code) (G0 := G) (s0 := s) hh hk) hcode (by rw [← hqn]; rfl) C B hti
    rw [← hi, ← hn, ← bindRo_all] at hx
    refine wpAny_mono (hx.run G s' _ S') (fun f s₂ p => ?_) fun _ _ e => e
    obtain ⟨v, rfl, G₂, ρ₂, S₂, _, rv⟩ := p
    exact ⟨G₂, S₂.ext, S₂.ok, rv⟩
noncomputable def mpos (i j : Nat) : Pos := (((bd i)[j]?).getD (.Pass ⟨0, 0, 0, 0⟩)).pos

variable {D : Wd} {A : Around}
/-! _digits2int -/
noncomputable def digVal (ds : List Int) (n : Int) : Int := ds.foldr (fun d acc => d + acc * 2 ^ n.toNat) 0
theorem digVal_append (xs ys : List Int) (n : Int) : digVal (xs ++ ys) n = digVal xs n + digVal ys n * 2 ^ (n.toNat * xs.length) := by
  unfold digVal
  induction xs with
  | nil => simp
  | cons x xs ih =>
    rw [List.cons_append, List.foldr_cons, List.foldr_cons, ih, List.length_cons, Nat.mul_add, Nat.mul_one, Int.pow_add, Int.add_mul, Int.mul_assoc, Int.add_assoc]

noncomputable def okDig (ds : List Int) (n : Int) : Prop := ∀ i j : Nat, Builtin.Int.intBits (digVal ((ds.drop i).take j) n) ≤ 2 ^ 20
noncomputable def d2iF (clos : List (Str × Addr)) : V := .fn (margs 6 0) (.stmts (mbd 6 0)) (msc 6 0) clos "_digits2int.<locals>.inner"
theorem digVal_one (ds : List Int) (n : Int) {L : Nat} (h : L < ds.length) : digVal ((ds.drop L).take 1) n = ds.getD L 0 := by
  have : (ds.drop L).take 1 = [ds.getD L 0] := by
    rw [List.drop_eq_getElem_cons h, List.getD_eq_getElem?_getD, List.getElem?_eq_getElem h]; rfl
  rw [this]; simp [digVal]
theorem fdiv2 (a : Int) : a.fdiv (2 ^ (1 : Int).toNat) = a / 2 := by
  show a.fdiv 2 = a / 2
  exact Int.fdiv_eq_ediv_of_nonneg _ (by decide)

theorem intBits_small {n : Int} (h0 : 0 ≤ n) (h : n ≤ 10000) : Builtin.Int.intBits n ≤ 64 := by
  unfold Builtin.Int.intBits
  split
  · exact Nat.zero_le _
  · rename_i hz
    have hne : n.natAbs ≠ 0 := by intro q; exact hz (by simpa using q)
    have : n.natAbs.log2 < 14 := (Nat.log2_lt hne).mpr (by omega)
    omega

theorem d2i_inner (P : PG D) (clos : List (Str × Addr)) (ds : List Int) (n : Int) (hn : 0 ≤ n ∧ n ≤ 10000) (hd : ds.length ≤ 100) (ok : okDig ds n) :
    ∀ (k L R : Nat) (A : Around), A.handled = none → R = L + k → 1 ≤ k → R ≤ ds.length → A.depth + k < recursionLimit →
      CallV D A (d2iF clos) clos ((["digits", "inner", "n"] : List Str).zip [lV ds, d2iF clos, .int n]) [.int L, .int R] (.int (digVal ((ds.drop L).take k) n)) := by
  intro k
  induction k using Nat.strongRecOn with
  | ind k ih =>
    intro L R A hh hk h1 hR hroom
    refine CallV.def P ["digits", "inner", "n"] [lV ds, d2iF clos, .int n] ["L", "R"] [none, none, none, none, some 0, some 1, some 2] [0, 1] hh (by omega) rfl rfl ?_ (fun c F => ?_) (by decide +kernel) (by decide +kernel) (by decide +kernel) (by decide +kernel) (by decide +kernel) rfl rfl rfl
    · intro fd e1 e2 e3 vs hv
      obtain ⟨v, w, rfl⟩ : ∃ v w, vs = [v, w] := by
        match vs, hv with
        | [v, w], _ => exact ⟨v, w, rfl⟩
      obtain ⟨f1, f2, f3, f4, f5, f6, f7, f8, f9, f10, f11, f12, f13, f14, f15⟩ := fd
      simp only at e1 e2 e3
      subst e1 e2 e3
      rfl
    · show Exs c [some (.val (.int L)), some (.val (.int R)), none, none, some (.val (lV ds)), some (.val (d2iF clos)), some (.val (.int n))] _ _
      by_cases hone : k = 1
      · subst hone
        refine Exs.ret (Ex.if (b := true) (Tst.cast (Tst.cmp (Ev.bin (Ev.nm F.fn.fr 0 rfl rfl) Ev.int BinR.add) (Ev.nm F.fn.fr 1 rfl rfl) CmpR.eq) (by rw [hk]; simp)) (fun _ => Exs.ret (Ex.ret (Ev.item (EvD.list (Ev.nm F.fn.fr 4 rfl rfl)) (Ev.nm F.fn.fr 0 rfl rfl) (by omega) (by omega) ?_))) (fun e => by cases e))
        rw [digVal_one ds n (by omega), List.getElem?_map, Int.toNat_natCast, getD_of (d := 0) (by omega)]; rfl
      · have hm : ((L : Int) + (R : Int)).fdiv (2 ^ (1 : Int).toNat) = ((L + k / 2 : Nat) : Int) := by rw [fdiv2, hk]; omega
        refine Exs.cons (ρ' := [some (.val (.int L)), some (.val (.int R)), none, none, some (.val (lV ds)), some (.val (d2iF clos)), some (.val (.int n))]) (Ex.if (b := false) (Tst.cast (Tst.cmp (Ev.bin (Ev.nm F.fn.fr 0 rfl rfl) Ev.int BinR.add) (Ev.nm F.fn.fr 1 rfl rfl) CmpR.eq) (by rw [hk]; simp; omega)) (fun e => by cases e) (fun _ => Exs.nil)) ?_
        refine Exs.cons (Ex.st F.fn.fr 2 (a := .int ((L + k / 2 : Nat) : Int)) (Ev.cast (Ev.bin (Ev.bin (Ev.nm F.fn.fr 0 rfl rfl) (Ev.nm F.fn.fr 1 rfl rfl) BinR.add) Ev.int (BinR.shr (by decide))) (by rw [hm])) rfl rfl (by decide) (fun _ _ _ => rfl)) ?_
        refine Exs.cons (Ex.st F.fn.fr 3 (a := .int (((k / 2 : Nat) : Int) * n)) (Ev.cast (Ev.bin (Ev.bin (Ev.nm F.fn.fr 2 rfl rfl) (Ev.nm F.fn.fr 0 rfl rfl) BinR.sub) (Ev.nm F.fn.fr 6 rfl rfl) (BinR.mul ?_)) ?_) rfl rfl (by decide) (fun _ _ _ => rfl)) ?_
        · exact IntMulOk.of_right (intBits_small hn.1 hn.2)
        · congr 2; omega
        have clok : ∀ a3 : V, ClosOk c [some (.val (.int L)), some (.val (.int R)), some (.val (.int ((L + k / 2 : Nat) : Int))), some (.val a3), some (.val (lV ds)), some (.val (d2iF clos)), some (.val (.int n))] clos ((["digits", "inner", "n"] : List Str).zip [lV ds, d2iF clos, .int n]) := fun a3 p hp => by
          have hN := F.fn.fr.names
          have hK := F.fn.fr.kinds
          simp only [List.zip_cons_cons, List.zip_nil_right, List.mem_cons, List.not_mem_nil, or_false] at hp
          rcases hp with rfl | rfl | rfl
          · exact ⟨4, .ext, by rw [hN]; rfl, by rw [hK]; rfl, by decide, rfl, (F.cells "digits" (by decide +kernel)).symm⟩
          · exact ⟨5, .ext, by rw [hN]; rfl, by rw [hK]; rfl, by decide, rfl, (F.cells "inner" (by decide +kernel)).symm⟩
          · exact ⟨6, .ext, by rw [hN]; rfl, by rw [hK]; rfl, by decide, rfl, (F.cells "n" (by decide +kernel)).symm⟩
        refine Exs.cast (Exs.ret (Ex.ret (Ev.bin (Ev.bin (Ev.callV (xs := (["digits", "inner", "n"] : List Str).zip [lV ds, d2iF clos, .int n]) (clos := clos) (Ev.nm F.fn.fr 5 rfl rfl) (EvL.cons (Ev.nm F.fn.fr 2 rfl rfl) (EvL.cons (Ev.nm F.fn.fr 1 rfl rfl) EvL.nil)) (clok _) (ih (k - k / 2) (by omega) (L + k / 2) R c.A F.fn.hand (by omega) (by omega) hR (by rw [F.fn.depth]; omega))) (Ev.nm F.fn.fr 3 rfl rfl) (BinR.shl ?_ ?_)) (Ev.callV (xs := (["digits", "inner", "n"] : List Str).zip [lV ds, d2iF clos, .int n]) (clos := clos) (Ev.nm F.fn.fr 5 rfl rfl) (EvL.cons (Ev.nm F.fn.fr 0 rfl rfl) (EvL.cons (Ev.nm F.fn.fr 2 rfl rfl) EvL.nil)) (clok _) (ih (k / 2) (by omega) L (L + k / 2) c.A F.fn.hand rfl (by omega) (by omega) (by rw [F.fn.depth]; omega))) BinR.add))) ?_
        · exact Int.mul_nonneg (by omega) hn.1
        · have h1 := ok (L + k / 2) (k - k / 2)
          have h2 : ((k / 2 : Nat) : Int) * n ≤ 100 * 10000 := Int.mul_le_mul (by omega) hn.2 hn.1 (by decide)
          have e : (2 : Nat) ^ 20 = 1048576 := by decide
          rw [e] at h1
          omega
        · have e1 : (ds.drop L).take k = (ds.drop L).take (k / 2) ++ (ds.drop (L + k / 2)).take (k - k / 2) := by
            rw [← List.drop_drop, ← List.take_add]; congr 1; omega
          have e2 : ((ds.drop L).take (k / 2)).length = k / 2 := by rw [List.length_take, List.length_drop]; omega
          rw [e1, digVal_append, e2, Int.add_comm]
          have e3 : (((k / 2 : Nat) : Int) * n).toNat = n.toNat * (k / 2) := by
            rw [Int.toNat_mul (by omega) hn.1, Int.toNat_natCast, Nat.mul_comm]
          rw [e3]

theorem digits2int (P : PG D) (FA : FnAt D (P.adr 6) ["digits", "n"] (bd 6) (sc 6)) (N : NestAt D (P.adr 6) (mpos 6 0) "_digits2int.<locals>.inner" "_digits2int") (hh : A.handled = none) (hroom : A.depth + 200 < recursionLimit) (ds : List Int) (n : Int) (hn : 0 ≤ n ∧ n ≤ 10000) (hd : ds.length ≤ 100) (ok : okDig ds n) :
    CallR D A (.ref (P.adr 6)) [lV ds, .int n] (.int (digVal ds n)) := by
  refine CallR.fnS FA P N hh (by omega) [0, 1] 3 rfl (fun c cA T F hcode hq C B hti => ?_) (by decide +kernel) (by decide +kernel) (by decide +kernel) (by decide +kernel) rfl (by decide +kernel) rfl rfl
  refine Exs.defn (i := 2) (k := .own) (qual := "_digits2int.<locals>.inner") P.gd hti N.nd hcode C B (by rw [F.fr.names, F.fr.kinds]; decide +kernel) ?_ (by rw [F.fr.names]; rfl) (by rw [F.fr.kinds]; rfl) (by decide) rfl rfl rfl fun clos hclos => ?_
  · rw [hq]; decide +kernel
  · show Exs c [some (.val (lV ds)), some (.val (.int n)), some (.val (d2iF clos))] _ _
    have clok : ClosOk c [some (.val (lV ds)), some (.val (.int n)), some (.val (d2iF clos))] clos ((["digits", "inner", "n"] : List Str).zip [lV ds, d2iF clos, .int n]) := fun p hp => by
      have hN := F.fr.names
      have hK := F.fr.kinds
      simp only [List.zip_cons_cons, List.zip_nil_right, List.mem_cons, List.not_mem_nil, or_false] at hp
      rcases hp with rfl | rfl | rfl
      · exact ⟨0, .own, by rw [hN]; rfl, by rw [hK]; rfl, by decide, rfl, hclos "digits" (by decide +kernel)⟩
      · exact ⟨2, .own, by rw [hN]; rfl, by rw [hK]; rfl, by decide, rfl, hclos "inner" (by decide +kernel)⟩
      · exact ⟨1, .own, by rw [hN]; rfl, by rw [hK]; rfl, by decide, rfl, hclos "n" (by decide +kernel)⟩
    refine Exs.ret (Ex.ret (Ev.cast (Ev.ite (a₁ := .int (digVal ds n)) (a₂ := .int 0) (Tst.list (Ev.nm F.fr 0 rfl rfl) (by rw [List.length_map]; omega)) (fun e => ?_) (fun e => Ev.int)) ?_))
    · have h1 : 1 ≤ ds.length := by
        cases ds with
        | nil => simp at e
        | cons _ _ => simp
      have := d2i_inner P clos ds n hn hd ok ds.length 0 ds.length c.A F.hand (by omega) h1 (Nat.le_refl _) (by rw [F.depth]; omega)
      rw [List.drop_zero, List.take_length] at this
      exact Ev.callV (xs := (["digits", "inner", "n"] : List Str).zip [lV ds, d2iF clos, .int n]) (clos := clos) (Ev.nm F.fr 2 rfl rfl) (EvL.cons Ev.int (EvL.cons (Ev.call (Glo.b P F.fr (by decide +kernel) (by simp) (v := .builtin "len") (by decide +kernel) (by decide) (by decide)) Kpr.builtin (EvL.cons (Ev.nm F.fr 0 rfl rfl) EvL.nil) (CallR.lenI (by omega))) EvL.nil)) clok this
    · cases ds with
      | nil => simp [digVal]
      | cons _ _ => simp
end Mine
/-! PJ8 -/
set_option maxRecDepth 10000
namespace Mine
section
variable {D : Wd} {c : Cx D} {A : Around} {ρ ρ' ρ'' ρ0 ρ1 : Ro} {o : Out} {l : List (Str × NameKind)}
theorem extRo_at2 {ns : List Str} {vs : List V} {idxs : List (Option Nat)} (h : extIdx ns l = idxs) (hn : ns.length = vs.length) : extRo l (ns.zip vs) = extAt idxs vs := by
  subst h
  unfold extRo extAt extIdx
  rw [List.map_map]
  apply List.map_congr_left
  rintro ⟨x, k⟩ hx
  by_cases hk : k = .ext
  · subst hk
    simp only [if_true, Function.comp_apply]
    rw [lookup_zip hn]
    by_cases hm : x ∈ ns
    · rw [if_pos hm]
    · rw [if_neg hm, List.idxOf_eq_length hm, List.getElem?_eq_none (by omega)]
  · simp [hk]
theorem CallW.def (P : PG D) {ps : Arguments} {body : List Stmt} {sc : Scope} {clos : List (Str × Addr)} {q dn : Str} (ns : List Str) (vs : List V) (pn : List Str) {as : List V} {a a' : V} (i : Nat) (idxs : List (Option Nat)) (is : List Nat) (hh : A.handled = none) (hroom : A.depth < recursionLimit) (hl : pn.length = as.length) (hns : ns.length = vs.length)
    (hbind : ∀ fd : FuncData, fd.params = ps → fd.defaults = .none → fd.kwdefaults = .none → ∀ vs : List Value, vs.length = pn.length → bindArgs fd ⟨vs, []⟩ = pure (pn.zip vs))
    (hi1 : (nkN sc.names)[i]? = some dn) (hi2 : (nkK sc.names)[i]? = some .ext)
    (hb : ∀ c : Cx D, FnC c A sc.names clos → ∃ o, (∃ ρ', ρ'[i]? = some (some (.own a')) ∧ (o = .next ρ' ∨ ∃ b, o = .done ρ' b)) ∧ Exs c (setAll is as ((extAt idxs vs).set i (some (.own a)))) body o)
    (hi : (pn.map fun x => (nkN sc.names).idxOf x) = is) (hx : extIdx ns sc.names = idxs) (hf : sc.names.all (fun p => p.2 != .free || p.1 == dn || ns.contains p.1) = true)
    (ho : okNames sc.names = true) (hp : okBinds sc.names pn = true) (hk : sc.kind = .function)
    (hco : sc.isCoroutine = false) (hgen : sc.isGenerator = false) : CallW D A (.fn ps (.stmts body) sc clos q) clos (ns.zip vs) dn as a a' :=
  CallW.of P.gd hh hroom hl hbind hi1 hi2 (fun c F => by rw [bindRo_all, hi, extRo_at2 hx hns]; exact hb c F) ho hp hk (fun x hx hxd => by
    rw [lookup_zip hns]
    have := List.all_eq_true.mp hf _ hx
    have hm : x ∈ ns := by simpa [hxd] using this
    rw [if_pos hm]
    have hlt : ns.idxOf x < vs.length := by rw [← hns]; exact List.idxOf_lt_length_of_mem hm
    exact ⟨vs[ns.idxOf x], List.getElem?_eq_getElem hlt⟩) hco hgen
theorem BinO.mulInts {n : Int} {a : Int} (hlo : 0 ≤ n) (hhi : n ≤ 10000) : BinO D .Mult (.list [.int a]) (.int n) (.list ((List.replicate n.toNat a).map V.int)) := by
  have := BinO.mulList (D := D) (a := [.int a]) hlo hhi (by simp)
  have e : (List.replicate n.toNat [V.int a]).flatten = (List.replicate n.toNat a).map V.int := by
    rw [List.map_replicate]
    generalize n.toNat = m
    induction m with
    | zero => rfl
    | succ m ih => rw [List.replicate_succ, List.flatten_cons, ih, List.replicate_succ]; rfl
  rw [e] at this
  exact this
end

variable {D : Wd} {A : Around}
/-! _int2digits -/
noncomputable def digs (n : Nat) : Nat → Nat → List Int
  | 0, _ => []
  | k + 1, x => ((x % 2 ^ n : Nat) : Int) :: digs n k (x / 2 ^ n)
theorem digs_length (n : Nat) : ∀ (k x : Nat), (digs n k x).length = k
  | 0, _ => rfl
  | k + 1, x => by rw [digs, List.length_cons, digs_length n k]
theorem digs_split (n : Nat) : ∀ (i j x : Nat), digs n (i + j) x = digs n i (x % 2 ^ (n * i)) ++ digs n j (x / 2 ^ (n * i))
  | 0, j, x => by simp [digs]
  | i + 1, j, x => by
    have e1 : i + 1 + j = (i + j) + 1 := by omega
    rw [e1, digs, digs, digs_split n i j]
    have p : 2 ^ (n * (i + 1)) = 2 ^ n * 2 ^ (n * i) := by rw [Nat.mul_add, Nat.mul_one, Nat.pow_add, Nat.mul_comm]
    have a1 : x % 2 ^ (n * (i + 1)) % 2 ^ n = x % 2 ^ n := by rw [p, Nat.mod_mul_right_mod]
    have a2 : x % 2 ^ (n * (i + 1)) / 2 ^ n = x / 2 ^ n % 2 ^ (n * i) := by rw [p, Nat.mod_mul_right_div_self]
    have a3 : x / 2 ^ n / 2 ^ (n * i) = x / 2 ^ (n * (i + 1)) := by rw [p, Nat.div_div_eq_div_mul]
    rw [a1, a2, a3]; rfl
noncomputable def i2dF (clos : List (Str × Addr)) : V := .fn (margs 5 1) (.stmts (mbd 5 1)) (msc 5 1) clos "_int2digits.<locals>.inner"
noncomputable def put (l : List Int) (L : Nat) (ds : List Int) : List Int := l.take L ++ ds ++ l.drop (L + ds.length)
theorem xor_low (x k : Nat) : x ^^^ ((x / 2 ^ k) * 2 ^ k) = x % 2 ^ k := by
  apply Nat.eq_of_testBit_eq
  intro i
  rw [Nat.testBit_xor, ← Nat.shiftLeft_eq, ← Nat.shiftRight_eq_div_pow, Nat.testBit_shiftLeft, Nat.testBit_mod_two_pow, Nat.testBit_shiftRight]
  by_cases h : k ≤ i
  · have h2 : ¬ i < k := by omega
    simp [h, h2, Nat.add_sub_cancel' h]
  · have h2 : i < k := by omega
    simp [h, h2]
theorem and_high (x k : Nat) : x &&& ((x / 2 ^ k) * 2 ^ k) = (x / 2 ^ k) * 2 ^ k := by
  apply Nat.eq_of_testBit_eq
  intro i
  rw [Nat.testBit_and, ← Nat.shiftLeft_eq, ← Nat.shiftRight_eq_div_pow, Nat.testBit_shiftLeft, Nat.testBit_shiftRight]
  by_cases h : k ≤ i
  · simp [h, Nat.add_sub_cancel' h]
  · simp [h]
theorem bitAnd_nat (a b : Nat) : Builtin.bitAnd (a : Int) (b : Int) = ((a &&& b : Nat) : Int) := by
  unfold Builtin.bitAnd
  rw [decide_eq_true (Int.natCast_nonneg a), decide_eq_true (Int.natCast_nonneg b)]
  simp only [Int.toNat_natCast]
theorem bitXor_low (x k : Nat) : Builtin.bitXor (x : Int) (((x / 2 ^ k * 2 ^ k : Nat)) : Int) = ((x % 2 ^ k : Nat) : Int) := by
  have h1 : Builtin.bitAnd (x : Int) (((x / 2 ^ k * 2 ^ k : Nat)) : Int) = ((x / 2 ^ k * 2 ^ k : Nat) : Int) := by
    rw [bitAnd_nat, and_high]
  rw [bitXor_and, h1]
  have := Nat.div_add_mod x (2 ^ k)
  rw [Nat.mul_comm] at this
  omega
theorem put_put (l : List Int) (L : Nat) (a b : List Int) (h : L + a.length + b.length ≤ l.length) : put (put l L a) (L + a.length) b = put l L (a ++ b) := by
  unfold put
  have e1 : (l.take L ++ a).length = L + a.length := by rw [List.length_append, List.length_take]; omega
  rw [List.take_append_of_le_length (by omega), ← e1, List.take_length, List.drop_append, e1]
  have e2 : List.drop (L + a.length + b.length) (l.take L ++ a) = [] := List.drop_eq_nil_of_le (by omega)
  rw [e2, List.nil_append, List.drop_drop, List.length_append]
  have e3 : L + a.length + (L + a.length + b.length - (L + a.length)) = L + (a.length + b.length) := by omega
  rw [e3, List.append_assoc (l.take L)]
theorem put_length (l : List Int) (L : Nat) (a : List Int) (h : L + a.length ≤ l.length) : (put l L a).length = l.length := by
  unfold put
  rw [List.length_append, List.length_append, List.length_take, List.length_drop]; omega
theorem natAbs_lt_intBits {x m : Nat} (h : x < 2 ^ m) : Builtin.Int.intBits (x : Int) ≤ m := by
  unfold Builtin.Int.intBits
  split
  · exact Nat.zero_le _
  · rename_i hz
    have hne : x ≠ 0 := by intro q; exact hz (by simp [q])
    show (x : Int).natAbs.log2 + 1 ≤ m
    rw [Int.natAbs_natCast]
    exact (Nat.log2_lt hne).mpr h

theorem i2d_inner (P : PG D) (clos : List (Str × Addr)) (n m : Nat) (hn : n ≤ 1000) (hm : m ≤ 100) :
    ∀ (k x L R : Nat) (A : Around) (l : List Int), A.handled = none → R = L + k → 1 ≤ k → R ≤ m → x < 2 ^ (n * k) → l.length = m → A.depth + k < recursionLimit →
      CallW D A (i2dF clos) clos ((["inner", "n"] : List Str).zip [i2dF clos, .int n]) "a_digits" [.int x, .int L, .int R] (lV l) (lV (put l L (digs n k x))) := by
  intro k
  induction k using Nat.strongRecOn with
  | ind k ih =>
    intro x L R A l hh hk h1 hR hx hl hroom
    refine CallW.def P ["inner", "n"] [i2dF clos, .int n] ["x", "L", "R"] 7 [none, none, none, none, none, none, none, some 2, some 0, some 1] [0, 1, 2] hh (by omega) rfl rfl ?_ rfl rfl (fun c F => ?_) (by decide +kernel) (by decide +kernel) (by decide +kernel) (by decide +kernel) (by decide +kernel) rfl rfl rfl
    · intro fd e1 e2 e3 vs hv
      obtain ⟨u, v, w, rfl⟩ : ∃ u v w, vs = [u, v, w] := by
        match vs, hv with
        | [u, v, w], _ => exact ⟨u, v, w, rfl⟩
      obtain ⟨f1, f2, f3, f4, f5, f6, f7, f8, f9, f10, f11, f12, f13, f14, f15⟩ := fd
      simp only at e1 e2 e3
      subst e1 e2 e3
      rfl
    · have hN := F.fn.fr.names
      have hK := F.fn.fr.kinds
      by_cases hone : k = 1
      · subst hone
        refine ⟨.done _ .none, ⟨_, ?_, .inr ⟨_, rfl⟩⟩, Exs.done (Ex.if (b := true) (Tst.cast (Tst.cmp (Ev.bin (Ev.nm F.fn.fr 1 rfl rfl) Ev.int BinR.add) (Ev.nm F.fn.fr 2 rfl rfl) CmpR.eq) (by rw [hk]; simp)) (fun _ => Exs.cons (Ex.setIdx (i := 7) (a := .int x) (n := (L : Int)) (l := l.map V.int) (by rw [hN]; rfl) rfl (sole_of rfl) (Ev.nm F.fn.fr 0 rfl rfl) (Ev.nm F.fn.fr 1 rfl rfl) (by omega) (by rw [List.length_map]; omega) (by rw [List.length_map]; omega)) (Exs.done Ex.retN)) (fun e => by cases e))⟩
        show some (some (Slot.own (.list ((l.map V.int).set (L : Int).toNat (.int x))))) = _
        rw [Int.toNat_natCast, ← List.map_set]
        have : put l L (digs n 1 x) = l.set L x := by
          unfold put digs digs
          rw [Nat.mul_one] at hx
          rw [Nat.mod_eq_of_lt hx, List.set_eq_take_append_cons_drop, if_pos (by omega)]
          simp
        rw [this]; rfl
      · have hmid : ((L : Int) + (R : Int)).fdiv (2 ^ (1 : Int).toNat) = ((L + k / 2 : Nat) : Int) := by rw [fdiv2, hk]; omega
        have hs2 : ((L + k / 2 : Nat) : Int) - (L : Int) = ((k / 2 : Nat) : Int) := by omega
        have hsh : (((k / 2 : Nat) : Int) * (n : Int)) = ((n * (k / 2) : Nat) : Int) := by rw [← Int.natCast_mul, Nat.mul_comm]
        have hnk : n * (k / 2) ≤ 1000 * 100 := Nat.mul_le_mul hn (by omega)
        have hnk2 : n * k ≤ 1000 * 100 := Nat.mul_le_mul hn (by omega)
        have hup : x / 2 ^ (n * (k / 2)) < 2 ^ (n * (k - k / 2)) := by
          rw [Nat.div_lt_iff_lt_mul (Nat.two_pow_pos _), ← Nat.pow_add, ← Nat.mul_add]
          rwa [show k - k / 2 + k / 2 = k by omega]
        have hlow : x % 2 ^ (n * (k / 2)) < 2 ^ (n * (k / 2)) := Nat.mod_lt _ (Nat.two_pow_pos _)
        have hbx := natAbs_lt_intBits hup
        have hnk3 : n * (k - k / 2) ≤ 1000 * 100 := Nat.mul_le_mul hn (by omega)
        have hput : (put l L (digs n (k / 2) (x % 2 ^ (n * (k / 2))))).length = m := by rw [put_length _ _ _ (by rw [digs_length]; omega), hl]
        have hfin : put (put l L (digs n (k / 2) (x % 2 ^ (n * (k / 2))))) (L + k / 2) (digs n (k - k / 2) (x / 2 ^ (n * (k / 2)))) = put l L (digs n k x) := by
          have := put_put l L (digs n (k / 2) (x % 2 ^ (n * (k / 2)))) (digs n (k - k / 2) (x / 2 ^ (n * (k / 2)))) (by rw [digs_length, digs_length]; omega)
          rw [digs_length, ← digs_split] at this
          rw [this, show k / 2 + (k - k / 2) = k by omega]
        refine ⟨.next [some (.val (.int x)), some (.val (.int L)), some (.val (.int R)), some (.val (.int ((L + k / 2 : Nat) : Int))), some (.val (.int ((n * (k / 2) : Nat) : Int))), some (.val (.int ((x / 2 ^ (n * (k / 2)) : Nat) : Int))), some (.val (.int ((x % 2 ^ (n * (k / 2)) : Nat) : Int))), some (.own (lV (put l L (digs n k x)))), some (.val (i2dF clos)), some (.val (.int n))], ⟨_, rfl, .inl rfl⟩, ?_⟩
        refine Exs.cons (ρ' := [some (.val (.int x)), some (.val (.int L)), some (.val (.int R)), none, none, none, none, some (.own (lV l)), some (.val (i2dF clos)), some (.val (.int n))]) (Ex.if (b := false) (Tst.cast (Tst.cmp (Ev.bin (Ev.nm F.fn.fr 1 rfl rfl) Ev.int BinR.add) (Ev.nm F.fn.fr 2 rfl rfl) CmpR.eq) (by rw [hk]; simp; omega)) (fun e => by cases e) (fun _ => Exs.nil)) ?_
        refine Exs.cons (Ex.st F.fn.fr 3 (a := .int ((L + k / 2 : Nat) : Int)) (Ev.cast (Ev.bin (Ev.bin (Ev.nm F.fn.fr 1 rfl rfl) (Ev.nm F.fn.fr 2 rfl rfl) BinR.add) Ev.int (BinR.shr (by decide))) (by rw [hmid])) rfl rfl (by decide) (fun _ _ _ => rfl)) ?_
        refine Exs.cons (Ex.st F.fn.fr 4 (a := .int ((n * (k / 2) : Nat) : Int)) (Ev.cast (Ev.bin (Ev.bin (Ev.nm F.fn.fr 3 rfl rfl) (Ev.nm F.fn.fr 1 rfl rfl) BinR.sub) (Ev.nm F.fn.fr 9 rfl rfl) (BinR.mul (IntMulOk.of_right (intBits_small (by omega) (by omega))))) (by rw [hs2, hsh])) rfl rfl (by decide) (fun _ _ _ => rfl)) ?_
        refine Exs.cons (Ex.st F.fn.fr 5 (a := .int ((x / 2 ^ (n * (k / 2)) : Nat) : Int)) (Ev.cast (Ev.bin (Ev.nm F.fn.fr 0 rfl rfl) (Ev.nm F.fn.fr 4 rfl rfl) (BinR.shr (by omega))) ?_) rfl rfl (by decide) (fun _ _ _ => rfl)) ?_
        · rw [Int.toNat_natCast, Int.fdiv_eq_ediv_of_nonneg _ (Int.pow_nonneg (by decide))]; congr 1
        refine Exs.cons (Ex.st F.fn.fr 6 (a := .int ((x % 2 ^ (n * (k / 2)) : Nat) : Int)) (Ev.cast (Ev.bin (Ev.nm F.fn.fr 0 rfl rfl) (Ev.bin (Ev.nm F.fn.fr 5 rfl rfl) (Ev.nm F.fn.fr 4 rfl rfl) (BinR.shl (by omega) (by omega))) BinR.xor) ?_) rfl rfl (by decide) (fun _ _ _ => rfl)) ?_
        · rw [Int.toNat_natCast, ← bitXor_low]; congr 2
        have clok : ∀ l' : List Int, ClosOk c [some (.val (.int x)), some (.val (.int L)), some (.val (.int R)), some (.val (.int ((L + k / 2 : Nat) : Int))), some (.val (.int ((n * (k / 2) : Nat) : Int))), some (.val (.int ((x / 2 ^ (n * (k / 2)) : Nat) : Int))), some (.val (.int ((x % 2 ^ (n * (k / 2)) : Nat) : Int))), some (.own (lV l')), some (.val (i2dF clos)), some (.val (.int n))] clos ((["inner", "n"] : List Str).zip [i2dF clos, .int n]) := fun l' p hp => by
          simp only [List.zip_cons_cons, List.zip_nil_right, List.mem_cons, List.not_mem_nil, or_false] at hp
          rcases hp with rfl | rfl
          · exact ⟨8, .ext, by rw [hN]; rfl, by rw [hK]; rfl, by decide, rfl, (F.cells "inner" (by decide +kernel)).symm⟩
          · exact ⟨9, .ext, by rw [hN]; rfl, by rw [hK]; rfl, by decide, rfl, (F.cells "n" (by decide +kernel)).symm⟩
        show Exs c [some (.val (.int x)), some (.val (.int L)), some (.val (.int R)), some (.val (.int ((L + k / 2 : Nat) : Int))), some (.val (.int ((n * (k / 2) : Nat) : Int))), some (.val (.int ((x / 2 ^ (n * (k / 2)) : Nat) : Int))), some (.val (.int ((x % 2 ^ (n * (k / 2)) : Nat) : Int))), some (.own (lV l)), some (.val (i2dF clos)), some (.val (.int n))] _ _
        refine Exs.cons (Ex.callW (i := 7) (k := .ext) (dn := "a_digits") (clos := clos) (Ev.nm F.fn.fr 8 rfl rfl) (EvL.cons (Ev.nm F.fn.fr 6 rfl rfl) (EvL.cons (Ev.nm F.fn.fr 1 rfl rfl) (EvL.cons (Ev.nm F.fn.fr 3 rfl rfl) EvL.nil))) (clok l) (by rw [hN]; rfl) (by rw [hK]; rfl) (by decide) rfl (sole_of rfl) (F.cells "a_digits" (by decide +kernel)).symm F.fn.notI (ih (k / 2) (by omega) (x % 2 ^ (n * (k / 2))) L (L + k / 2) c.A l F.fn.hand rfl (by omega) (by omega) hlow hl (by rw [F.fn.depth]; omega))) ?_
        refine Exs.cast (Exs.cons (Ex.callW (i := 7) (k := .ext) (dn := "a_digits") (clos := clos) (Ev.nm F.fn.fr 8 rfl rfl) (EvL.cons (Ev.nm F.fn.fr 5 rfl rfl) (EvL.cons (Ev.nm F.fn.fr 3 rfl rfl) (EvL.cons (Ev.nm F.fn.fr 2 rfl rfl) EvL.nil))) (clok _) (by rw [hN]; rfl) (by rw [hK]; rfl) (by decide) rfl (sole_of rfl) (F.cells "a_digits" (by decide +kernel)).symm F.fn.notI (ih (k - k / 2) (by omega) (x / 2 ^ (n * (k / 2))) (L + k / 2) R c.A _ F.fn.hand (by omega) (by omega) hR hup hput (by rw [F.fn.depth]; omega))) Exs.nil) ?_
        rw [hfin]; rfl
end Mine
/-! PJ9 -/
set_option maxRecDepth 10000
namespace Mine
variable {D : Wd} {A : Around}

theorem lt_two_pow_intBits (a : Nat) : a < 2 ^ Builtin.Int.intBits (a : Int) := by
  unfold Builtin.Int.intBits
  split
  · rename_i h
    have : a = 0 := by simpa using h
    subst this; decide
  · rename_i h
    have hne : a ≠ 0 := by intro q; exact h (by simp [q])
    show a < 2 ^ ((a : Int).natAbs.log2 + 1)
    rw [Int.natAbs_natCast]
    exact (Nat.log2_lt hne).mp (Nat.lt_succ_self _)
noncomputable def i2dN (a n : Nat) : Nat := (Builtin.Int.intBits (a : Int) + n - 1) / n
theorem put_all (m : Nat) (ds : List Int) (h : ds.length = m) : put (List.replicate m 0) 0 ds = ds := by
  unfold put; simp [h]

theorem int2digits (P : PG D) (FA : FnAt D (P.adr 5) ["a", "n"] (bd 5) (sc 5)) (N : NestAt D (P.adr 5) (mpos 5 1) "_int2digits.<locals>.inner" "_int2digits") (hh : A.handled = none) (hroom : A.depth + 200 < recursionLimit) (a n : Nat) (hn : 1 ≤ n ∧ n ≤ 1000) (hm : i2dN a n ≤ 100) :
    CallR D A (.ref (P.adr 5)) [.int a, .int n] (lV (digs n (i2dN a n) a)) := by
  refine CallR.fnS FA P N hh (by omega) [0, 1] 4 rfl (fun c cA T F hcode hq C B hti => ?_) (by decide +kernel) (by decide +kernel) (by decide +kernel) (by decide +kernel) rfl (by decide +kernel) rfl rfl
  have hN := F.fr.names
  have hK := F.fr.kinds
  have hcnt : ((Builtin.Int.intBits (a : Int) : Int) + (n : Int) - 1).fdiv (n : Int) = (i2dN a n : Int) := by
    rw [Int.fdiv_eq_ediv_of_nonneg _ (by omega)]
    unfold i2dN
    rw [show ((Builtin.Int.intBits (a : Int) : Int) + (n : Int) - 1) = ((Builtin.Int.intBits (a : Int) + n - 1 : Nat) : Int) by omega]
    rfl
  refine Exs.cons (Ex.stO F.fr 2 (a := lV (List.replicate (i2dN a n) 0)) (EvO.bin P.sm (Ev.list (EvL.cons Ev.int EvL.nil)) (Ev.cast (b := .int (i2dN a n : Int)) (Ev.bin (Ev.bin (Ev.bin (Ev.bitLength (Ev.nm F.fr 0 rfl rfl) rfl) (Ev.nm F.fr 1 rfl rfl) BinR.add) Ev.int BinR.sub) (Ev.nm F.fr 1 rfl rfl) (BinR.div (by omega) (by omega))) (by rw [hcnt])) (by have := BinO.mulInts (D := D) (n := (i2dN a n : Int)) (a := 0) (by omega) (by omega); rwa [Int.toNat_natCast] at this)) rfl rfl (by decide) (fun _ _ _ => rfl)) ?_
  refine Exs.defn (i := 3) (k := .own) (qual := "_int2digits.<locals>.inner") P.gd hti N.nd hcode C B (by rw [hN, hK]; decide +kernel) (by rw [hq]; decide +kernel) (by rw [hN]; rfl) (by rw [hK]; rfl) (by decide) rfl rfl rfl fun clos hclos => ?_
  show Exs c [some (.val (.int a)), some (.val (.int n)), some (.own (lV (List.replicate (i2dN a n) 0))), some (.val (i2dF clos))] _ _
  have clok : ClosOk c [some (.val (.int a)), some (.val (.int n)), some (.own (lV (List.replicate (i2dN a n) 0))), some (.val (i2dF clos))] clos ((["inner", "n"] : List Str).zip [i2dF clos, .int n]) := fun p hp => by
    simp only [List.zip_cons_cons, List.zip_nil_right, List.mem_cons, List.not_mem_nil, or_false] at hp
    rcases hp with rfl | rfl
    · exact ⟨3, .own, by rw [hN]; rfl, by rw [hK]; rfl, by decide, rfl, hclos "inner" (by decide +kernel)⟩
    · exact ⟨1, .own, by rw [hN]; rfl, by rw [hK]; rfl, by decide, rfl, hclos "n" (by decide +kernel)⟩
  have hbits := lt_two_pow_intBits a
  have hlt : a < 2 ^ (n * i2dN a n) := by
    refine Nat.lt_of_lt_of_le hbits (Nat.pow_le_pow_right (by decide) ?_)
    unfold i2dN
    have := Nat.div_add_mod (Builtin.Int.intBits (a : Int) + n - 1) n
    have h2 := Nat.mod_lt (Builtin.Int.intBits (a : Int) + n - 1) (by omega : 0 < n)
    omega
  refine Exs.cons (ρ' := [some (.val (.int a)), some (.val (.int n)), some (.own (lV (digs n (i2dN a n) a))), some (.val (i2dF clos))]) (Ex.if (Tst.int (Ev.nm F.fr 0 rfl rfl)) (fun e => ?_) (fun e => ?_)) ?_
  · have hane : a ≠ 0 := by intro q; subst q; simp at e
    have h1 : 1 ≤ i2dN a n := by
      cases q : i2dN a n with
      | zero => rw [q, Nat.mul_zero] at hlt; omega
      | succ _ => omega
    refine Exs.cast (Exs.cons (Ex.callW (i := 2) (k := .own) (dn := "a_digits") (clos := clos) (Ev.nm F.fr 3 rfl rfl) (EvL.cons (Ev.nm F.fr 0 rfl rfl) (EvL.cons Ev.int (EvL.cons (Ev.cast (b := .int (i2dN a n : Int)) (Ev.lenD (l := (List.replicate (i2dN a n) (0 : Int)).map V.int) (Glo.b P F.fr (by decide +kernel) (by simp) (v := .builtin "len") (by decide +kernel) (by decide) (by decide)) (EvD.nm F.fr 2 rfl rfl (sole_of rfl)) (by simp; omega)) (by simp)) EvL.nil))) clok (by rw [hN]; rfl) (by rw [hK]; rfl) (by decide) rfl (sole_of rfl) (hclos "a_digits" (by decide +kernel)) F.notI (i2d_inner P clos n (i2dN a n) hn.2 hm (i2dN a n) a 0 (i2dN a n) c.A _ F.hand (by omega) h1 (Nat.le_refl _) hlt (by simp) (by rw [F.depth]; omega))) Exs.nil) ?_
    rw [put_all _ _ (digs_length ..)]; rfl
  · have ha : a = 0 := by simpa using e
    subst ha
    have : i2dN 0 n = 0 := by
      unfold i2dN
      have : Builtin.Int.intBits ((0 : Nat) : Int) = 0 := by decide
      rw [this]
      exact Nat.div_eq_of_lt (by omega)
    rw [this]; exact Exs.nil
  · refine Exs.freeze (i := 2) (x := "a_digits") (by rw [hN]; rfl) rfl (sole_of rfl) ?_
    exact Exs.ret (Ex.ret (Ev.nm F.fr 2 rfl rfl))

/-! _div2n1n -/
theorem Ev.glob {c : Cx D} {ρ : Ro} (P : PG D) {l : List (Str × NameKind)} (F : Fr c l) {x : Str} {pos : Pos} {n : Int} {t : Tok} (hk : l.lookup x = some .globalImplicit) (hv : D.mg x = some (.int n t)) (hd : (x == ("__debug__" : Str)) = false) : Ev c ρ (.Name x pos) (.int n) := .mk fun G s E S =>
  name_glob P.gd S (F.glob x hk) hv ⟨G, Ext.refl .., S.ok, VR.int_iff.mpr ⟨t, rfl⟩⟩ hd
theorem div2n1n (P : PG D) (FA : FnAt D (P.adr 3) ["a", "b", "n"] (bd 3) (sc 3)) (hL : ∃ t, D.mg "_DIV_LIMIT" = some (.int 4000 t)) (hh : A.handled = none) (hroom : A.depth < recursionLimit) (a b n : Int) (hb : b ≠ 0) (hlog : b.natAbs.log2 < 9000) (hle : (Builtin.Int.intBits a : Int) - n ≤ 4000) :
    CallR D A (.ref (P.adr 3)) [.int a, .int b, .int n] (.tup ([a.fdiv b, a.fmod b].map V.int)) := by
  obtain ⟨t, hL⟩ := hL
  refine CallR.def FA P hh hroom [0, 1, 2] 11 rfl (fun c F => ?_) (by decide +kernel) (by decide +kernel) (by decide +kernel) (by decide +kernel) rfl (by decide +kernel) rfl rfl
  exact Exs.ret (Ex.if (b := true) (Tst.cast (Tst.cmp (Ev.bin (Ev.bitLength (Ev.nm F.fr 0 rfl rfl) rfl) (Ev.nm F.fr 2 rfl rfl) BinR.sub) (Ev.glob P F.fr (by decide +kernel) hL (by decide)) CmpR.le) (by simpa using hle)) (fun _ => Exs.ret (Ex.ret (Ev.call (Glo.b P F.fr (by decide +kernel) (by simp) (v := .builtin "divmod") (by decide +kernel) (by decide) (by decide)) Kpr.builtin (EvL.cons (Ev.nm F.fr 0 rfl rfl) (EvL.cons (Ev.nm F.fr 1 rfl rfl) EvL.nil)) (CallR.divmod hb hlog)))) (fun e => by cases e))
end Mine
/-! PJ10 -/
set_option maxRecDepth 10000
namespace Mine
variable {D : Wd} {A : Around}

/-! _divmod_pos -/
noncomputable def cI (l : List Nat) : List Int := l.map fun x : Nat => (x : Int)
noncomputable def dgN (n : Nat) : Nat → Nat → List Nat
  | 0, _ => []
  | k + 1, x => (x % 2 ^ n) :: dgN n k (x / 2 ^ n)
theorem digs_dgN (n : Nat) : ∀ k x, digs n k x = cI (dgN n k x)
  | 0, _ => rfl
  | k + 1, x => by rw [digs, dgN, digs_dgN n k]; rfl
theorem dgN_length (n : Nat) : ∀ k x, (dgN n k x).length = k
  | 0, _ => rfl
  | k + 1, x => by rw [dgN, List.length_cons, dgN_length n k]
theorem dgN_lt (n : Nat) : ∀ k x, ∀ d ∈ dgN n k x, d < 2 ^ n
  | 0, _, d, h => by cases h
  | k + 1, x, d, h => by
    rw [dgN] at h
    rcases List.mem_cons.mp h with rfl | h
    · exact Nat.mod_lt _ (Nat.two_pow_pos _)
    · exact dgN_lt n k _ d h
noncomputable def dvN (ds : List Nat) (n : Nat) : Nat := ds.foldr (fun d acc => d + acc * 2 ^ n) 0
theorem digVal_dvN (ds : List Nat) (n : Nat) : digVal (cI ds) (n : Int) = (dvN ds n : Int) := by
  unfold digVal dvN cI
  induction ds with
  | nil => rfl
  | cons d ds ih =>
    rw [List.map_cons, List.foldr_cons, List.foldr_cons, ih, Int.toNat_natCast]
    rw [Int.natCast_add, Int.natCast_mul, Int.natCast_pow]; rfl
theorem dvN_lt (n : Nat) : ∀ ds : List Nat, (∀ d ∈ ds, d < 2 ^ n) → dvN ds n < 2 ^ (n * ds.length)
  | [], _ => by simp [dvN]
  | d :: ds, h => by
    have h1 := h d (.head _)
    have h2 := dvN_lt n ds fun x hx => h x (.tail _ hx)
    have e : dvN (d :: ds) n = d + dvN ds n * 2 ^ n := rfl
    rw [e, List.length_cons, Nat.mul_add, Nat.mul_one, Nat.pow_add]
    have h3 : dvN ds n + 1 ≤ 2 ^ (n * ds.length) := h2
    have h4 : (dvN ds n + 1) * 2 ^ n ≤ 2 ^ (n * ds.length) * 2 ^ n := Nat.mul_le_mul_right _ h3
    rw [Nat.add_mul, Nat.one_mul] at h4
    omega
theorem okDig_of (n : Nat) (ds : List Nat) (hn : n ≤ 1000) (hl : ds.length ≤ 100) (h : ∀ d ∈ ds, d < 2 ^ n) : okDig (cI ds) (n : Int) := fun i j => by
  have e : ((cI ds).drop i).take j = cI ((ds.drop i).take j) := by unfold cI; rw [List.map_take, List.map_drop]
  rw [e, digVal_dvN]
  have h1 := dvN_lt n ((ds.drop i).take j) fun d hd => h d (List.mem_of_mem_drop (List.mem_of_mem_take hd))
  have h2 : ((ds.drop i).take j).length ≤ 100 := by rw [List.length_take, List.length_drop]; omega
  have h3 := natAbs_lt_intBits h1
  have h4 : n * ((ds.drop i).take j).length ≤ 1000 * 100 := Nat.mul_le_mul hn h2
  have e2 : (2 : Nat) ^ 20 = 1048576 := by decide
  rw [e2]; omega
noncomputable def dmSt (n b : Nat) (s : Nat × List Nat) (d : Nat) : Nat × List Nat := ((s.1 * 2 ^ n + d) % b, s.2 ++ [(s.1 * 2 ^ n + d) / b])
noncomputable def dmRun (n b m a : Nat) : Nat × List Nat := (dgN n m a).reverse.foldl (dmSt n b) (0, [])
theorem dm_val (n b : Nat) (hb : 0 < b) : ∀ m a, a < 2 ^ (n * m) → (dmRun n b m a).1 = a % b ∧ dvN (dmRun n b m a).2.reverse n = a / b
  | 0, a, h => by
    have : a = 0 := by simpa using h
    subst this
    simp [dmRun, dgN, dvN]
  | m + 1, a, h => by
    have h' : a / 2 ^ n < 2 ^ (n * m) := by
      rw [Nat.div_lt_iff_lt_mul (Nat.two_pow_pos _), ← Nat.pow_add]
      rwa [show n * m + n = n * (m + 1) by rw [Nat.mul_add, Nat.mul_one]]
    obtain ⟨i1, i2⟩ := dm_val n b hb m (a / 2 ^ n) h'
    have e : dmRun n b (m + 1) a = dmSt n b (dmRun n b m (a / 2 ^ n)) (a % 2 ^ n) := by
      unfold dmRun
      rw [dgN, List.reverse_cons, List.foldl_append]; rfl
    have ha := Nat.div_add_mod a (2 ^ n)
    have hq := Nat.div_add_mod (a / 2 ^ n) b
    have key : a = (a / 2 ^ n % b * 2 ^ n + a % 2 ^ n) + b * (a / 2 ^ n / b * 2 ^ n) := by
      have : 2 ^ n * (a / 2 ^ n) = (b * (a / 2 ^ n / b) + a / 2 ^ n % b) * 2 ^ n := by rw [hq, Nat.mul_comm]
      rw [Nat.add_mul, Nat.mul_assoc] at this
      omega
    rw [e]
    unfold dmSt
    simp only
    rw [i1]
    refine ⟨?_, ?_⟩
    · conv => rhs; rw [key]
      rw [Nat.add_mul_mod_self_left]
    · rw [List.reverse_append, List.reverse_singleton, List.singleton_append]
      show _ + dvN (dmRun n b m (a / 2 ^ n)).2.reverse n * 2 ^ n = _
      rw [i2]
      conv => rhs; rw [key]
      rw [Nat.add_mul_div_left _ _ hb]

theorem dm_inv (n b : Nat) (hb : 0 < b) : ∀ m a, (dmRun n b m a).1 < b ∧ (dmRun n b m a).2.length = m ∧ ∀ q ∈ (dmRun n b m a).2, q < 2 ^ n
  | 0, a => ⟨hb, rfl, fun q h => by cases h⟩
  | m + 1, a => by
    obtain ⟨i1, i2, i3⟩ := dm_inv n b hb m (a / 2 ^ n)
    have e : dmRun n b (m + 1) a = dmSt n b (dmRun n b m (a / 2 ^ n)) (a % 2 ^ n) := by
      unfold dmRun
      rw [dgN, List.reverse_cons, List.foldl_append]; rfl
    have hd : a % 2 ^ n < 2 ^ n := Nat.mod_lt _ (Nat.two_pow_pos _)
    have hv : (dmRun n b m (a / 2 ^ n)).1 * 2 ^ n + a % 2 ^ n < b * 2 ^ n := by
      have : ((dmRun n b m (a / 2 ^ n)).1 + 1) * 2 ^ n ≤ b * 2 ^ n := Nat.mul_le_mul_right _ i1
      rw [Nat.add_mul, Nat.one_mul] at this
      omega
    rw [e]
    unfold dmSt
    refine ⟨Nat.mod_lt _ hb, by simp [i2], fun q h => ?_⟩
    rcases List.mem_append.mp h with h | h
    · exact i3 q h
    · rw [List.mem_singleton.mp h, Nat.div_lt_iff_lt_mul hb, Nat.mul_comm (2 ^ n) b]; exact hv

theorem divmod_pos (P : PG D) (FA : FnAt D (P.adr 7) ["a", "b"] (bd 7) (sc 7)) (FI : FnAt D (P.adr 5) ["a", "n"] (bd 5) (sc 5)) (NI : NestAt D (P.adr 5) (mpos 5 1) "_int2digits.<locals>.inner" "_int2digits") (FD : FnAt D (P.adr 6) ["digits", "n"] (bd 6) (sc 6)) (ND : NestAt D (P.adr 6) (mpos 6 0) "_digits2int.<locals>.inner" "_digits2int")
    (F2 : FnAt D (P.adr 3) ["a", "b", "n"] (bd 3) (sc 3)) (hL : ∃ t, D.mg "_DIV_LIMIT" = some (.int 4000 t)) (n3 : P.nm 3 = "_div2n1n") (n5 : P.nm 5 = "_int2digits") (n6 : P.nm 6 = "_digits2int") (hh : A.handled = none) (hroom : A.depth + 300 < recursionLimit) (a b n : Nat)
    (hb : 0 < b) (hn : Builtin.Int.intBits (b : Int) = n) (hn1 : 1 ≤ n ∧ n ≤ 1000) (hm : i2dN a n ≤ 100) :
    CallR D A (.ref (P.adr 7)) [.int a, .int b] (.tup ([((a / b : Nat) : Int), ((a % b : Nat) : Int)].map V.int)) := by
  refine CallR.def FA P hh (by omega) [0, 1] 9 rfl (fun c F => ?_) (by decide +kernel) (by decide +kernel) (by decide +kernel) (by decide +kernel) rfl (by decide +kernel) rfl rfl
  have hN := F.fr.names
  have hK := F.fr.kinds
  have hbn : b < 2 ^ n := by have := lt_two_pow_intBits b; rwa [hn] at this
  have hbits := lt_two_pow_intBits a
  have hlt : a < 2 ^ (n * i2dN a n) := by
    refine Nat.lt_of_lt_of_le hbits (Nat.pow_le_pow_right (by decide) ?_)
    unfold i2dN
    have := Nat.div_add_mod (Builtin.Int.intBits (a : Int) + n - 1) n
    have h2 := Nat.mod_lt (Builtin.Int.intBits (a : Int) + n - 1) (by omega : 0 < n)
    omega
  obtain ⟨v1, v2⟩ := dm_val n b hb (i2dN a n) a hlt
  refine Exs.cons (Ex.st F.fr 2 (a := .int n) (Ev.cast (Ev.bitLength (Ev.nm F.fr 1 rfl rfl) rfl) (by rw [hn])) rfl rfl (by decide) (fun _ _ _ => rfl)) ?_
  refine Exs.cons (Ex.st F.fr 3 (Ev.call (Glo.t P F.fr 5 (by decide +kernel) n5 (by decide) (by decide)) FI.kpr (EvL.cons (Ev.nm F.fr 0 rfl rfl) (EvL.cons (Ev.nm F.fr 2 rfl rfl) EvL.nil)) (int2digits P FI NI F.hand (by rw [F.depth]; omega) a n hn1 hm)) rfl rfl (by decide) (fun _ _ _ => rfl)) ?_
  refine Exs.cons (Ex.st F.fr 4 Ev.int rfl rfl (by decide) (fun _ _ _ => rfl)) ?_
  refine Exs.cons (Ex.stO F.fr 5 (EvO.list P.sm EvL.nil) rfl rfl (by decide) (fun _ _ _ => rfl)) ?_
  show Exs c ((fun s : Nat × List Nat => [some (.val (.int a)), some (.val (.int b)), some (.val (.int n)), some (.val (lV (digs n (i2dN a n) a))), some (.val (.int (s.1 : Int))), some (.own (lV (cI s.2))), none, none, none]) (0, [])) _ _
  refine Exs.cons (Ex.forI (dmSt n b) (fun s : Nat × List Nat => [some (.val (.int a)), some (.val (.int b)), some (.val (.int n)), some (.val (lV (digs n (i2dN a n) a))), some (.val (.int (s.1 : Int))), some (.own (lV (cI s.2))), none, none, none]) (fun r s => s.1 < b ∧ s.2.length + r.length = i2dN a n ∧ ∀ q ∈ s.2, q < 2 ^ n) (xs := (dgN n (i2dN a n) a).reverse) (s := (0, [])) (φ := fun d : Nat => V.int (d : Int)) ⟨hb, by simp [dgN_length], by simp⟩ (ItE.cast (ItE.call (Glo.b P F.fr (by decide +kernel) (by simp) (v := .type "reversed") (by decide +kernel) (by decide) (by decide)) Kpr.type (EvL.cons (Ev.nm F.fr 3 rfl rfl) EvL.nil) (IterR.reversed F.hand)) ?_) ?_ (fun _ _ => rfl)) ?_
  · rw [digs_dgN]; unfold cI; rw [List.map_map, List.map_reverse]; rfl
  · rintro ⟨r, qs⟩ d rest hd ⟨i1, i2, i3⟩
    simp only at i1 i2 i3
    have hdn : d < 2 ^ n := dgN_lt n _ _ d (List.mem_reverse.mp hd)
    have hv : r * 2 ^ n + d < b * 2 ^ n := by
      have : (r + 1) * 2 ^ n ≤ b * 2 ^ n := Nat.mul_le_mul_right _ i1
      rw [Nat.add_mul, Nat.one_mul] at this
      omega
    have hq : (r * 2 ^ n + d) / b < 2 ^ n := by rw [Nat.div_lt_iff_lt_mul hb, Nat.mul_comm (2 ^ n) b]; exact hv
    have hvb : r * 2 ^ n + d < 2 ^ (2 * n) := by
      refine Nat.lt_of_lt_of_le hv ?_
      rw [Nat.two_mul, Nat.pow_add]
      exact Nat.mul_le_mul_right _ (Nat.le_of_lt hbn)
    have hib := natAbs_lt_intBits hvb
    have hrb : Builtin.Int.intBits (r : Int) ≤ n := natAbs_lt_intBits (Nat.lt_trans i1 hbn)
    refine ⟨⟨Nat.mod_lt _ hb, by simp [dmSt] at i2 ⊢; omega, fun q hq' => ?_⟩, _, AsgR.nm F.fr 6 rfl rfl (by decide), ?_⟩
    · rcases List.mem_append.mp hq' with h | h
      · exact i3 q h
      · rw [List.mem_singleton.mp h]; exact hq
    have hdm : CallR D c.A (.ref (P.adr 3)) [.int ((r * 2 ^ n + d : Nat) : Int), .int (b : Int), .int (n : Int)] (.tup [.int (((r * 2 ^ n + d) / b : Nat) : Int), .int (((r * 2 ^ n + d) % b : Nat) : Int)]) := by
      have := div2n1n P F2 hL F.hand (by rw [F.depth]; omega) ((r * 2 ^ n + d : Nat) : Int) (b : Int) (n : Int) (by omega) (by
        rw [Int.natAbs_natCast]
        have : b.log2 < n := (Nat.log2_lt (by omega)).mpr hbn
        omega) (by omega)
      rw [Int.fdiv_eq_ediv_of_nonneg _ (by omega), Int.fmod_eq_emod_of_nonneg _ (by omega)] at this
      exact this
    refine Exs.cast (Exs.drop 7 (Exs.drop 6 (Exs.cons (Ex.assign (Ev.call (Glo.t P F.fr 3 (by decide +kernel) n3 (by decide) (by decide)) F2.kpr (EvL.cons (Ev.cast (b := .int ((r * 2 ^ n + d : Nat) : Int)) (Ev.bin (Ev.bin (Ev.nm F.fr 4 rfl rfl) (Ev.nm F.fr 2 rfl rfl) (BinR.shl (by omega) (show (Builtin.Int.intBits (r : Int) : Int) + (n : Int) ≤ 2 ^ 27 by omega))) (Ev.nm F.fr 6 rfl rfl) BinR.add) ?_) (EvL.cons (Ev.nm F.fr 1 rfl rfl) (EvL.cons (Ev.nm F.fr 2 rfl rfl) EvL.nil))) hdm) (AsgR.tup (AsgRs.cons (AsgR.nm F.fr 7 rfl rfl (by decide)) (AsgRs.cons (AsgR.nm F.fr 4 rfl rfl (by decide)) AsgRs.nil))) rfl rfl (fun _ => rfl))
      (Exs.cons (Ex.append (i := 5) (l := (cI qs).map V.int) (by rw [hN]; rfl) rfl (sole_of rfl) (EvL.cons (Ev.nm F.fr 7 rfl rfl) EvL.nil) (by rw [List.length_map]; unfold cI; rw [List.length_map]; omega) rfl F.notI) Exs.nil)))) ?_
    · rw [Int.toNat_natCast]; congr 1
    · have : (cI qs).map V.int ++ [V.int (((r * 2 ^ n + d) / b : Nat) : Int)] = (cI (qs ++ [(r * 2 ^ n + d) / b])).map V.int := by simp [cI]
      show Out.next [some (.val (.int a)), some (.val (.int b)), some (.val (.int n)), some (.val (lV (digs n (i2dN a n) a))), some (.val (.int (((r * 2 ^ n + d) % b : Nat) : Int))), some (.own (.list ((cI qs).map V.int ++ [V.int (((r * 2 ^ n + d) / b : Nat) : Int)]))), none, none, none] = _
      rw [this]; rfl
  · show Exs c [some (.val (.int a)), some (.val (.int b)), some (.val (.int n)), some (.val (lV (digs n (i2dN a n) a))), some (.val (.int ((dmRun n b (i2dN a n) a).1 : Int))), some (.own (lV (cI (dmRun n b (i2dN a n) a).2))), none, none, none] _ _
    obtain ⟨j1, j2, j3⟩ := dm_inv n b hb (i2dN a n) a
    have hrev : ((cI (dmRun n b (i2dN a n) a).2).map V.int).reverse = (cI (dmRun n b (i2dN a n) a).2.reverse).map V.int := by unfold cI; rw [List.map_reverse, List.map_reverse]
    refine Exs.cons (Ex.reverse (i := 5) (l := (cI (dmRun n b (i2dN a n) a).2).map V.int) (by rw [hN]; rfl) rfl (sole_of rfl) (by rw [List.length_map]; unfold cI; rw [List.length_map]; omega) rfl F.notI) ?_
    rw [hrev]
    refine Exs.freeze (i := 5) (x := "q_digits") (a := lV (cI (dmRun n b (i2dN a n) a).2.reverse)) (by rw [hN]; rfl) rfl (sole_of rfl) ?_
    refine Exs.cons (Ex.st F.fr 8 (Ev.call (Glo.t P F.fr 6 (by decide +kernel) n6 (by decide) (by decide)) FD.kpr (EvL.cons (Ev.nm F.fr 5 rfl rfl) (EvL.cons (Ev.nm F.fr 2 rfl rfl) EvL.nil)) (digits2int P FD ND F.hand (by rw [F.depth]; omega) (cI (dmRun n b (i2dN a n) a).2.reverse) (n : Int) (by omega) (by unfold cI; rw [List.length_map, List.length_reverse]; omega) (okDig_of n _ hn1.2 (by rw [List.length_reverse]; omega) fun d hd => j3 d (List.mem_reverse.mp hd)))) rfl rfl (by decide) (fun _ _ _ => rfl)) ?_
    refine Exs.cast (Exs.ret (Ex.ret (Ev.tup (EvL.cons (Ev.nm F.fr 8 rfl rfl) (EvL.cons (Ev.nm F.fr 4 rfl rfl) EvL.nil)) (by simp [sizeLine_eq])))) ?_
    rw [digVal_dvN, v2, v1]; rfl
end Mine
/-! PJ11 -/
set_option maxRecDepth 10000
namespace Mine
variable {D : Wd} {A : Around} {K : Frag}

structure MethAt (D : Wd) (K : Frag) (C f : Addr) (name : Str) (xs : List Str) (body : List Stmt) (scope : Scope) : Prop where
  find : findIn K (.ref C) name = some (some (.ref f))
  typ : typeIn K (.ref f) = some (.type "function")
  fn : FnAt D f xs body scope

noncomputable def forT : Stmt → PySem.Expr
  | .For t _ _ _ _ => t
  | _ => .Constant .none 0 ⟨0, 0, 0, 0⟩
noncomputable def forB : Stmt → List Stmt
  | .For _ _ b _ _ => b
  | _ => []
/-! TupleComp -/
noncomputable def tcV (C : Addr) (sel : V) : V := .inst C (([("comp_select_list", sel)] : List (Str × V)).map (·.1)) (([("comp_select_list", sel)] : List (Str × V)).map (·.2))
theorem make_tuplecomp (P : PG D) {C f : Addr} (X : K.In D.h₀) (CF : ClsF K C) (M : MethAt D K C f "__init__" ["self", "comp_select_list"] (mbd 9 0) (msc 9 0)) (ht : takerIn K C "comp_select_list" = some none)
    (hh : A.handled = none) (hroom : A.depth + 10 < recursionLimit) (sel : V) : CallR D A (.ref C) [sel] (tcV C sel) := by
  refine CallR.make X CF M.fn P.gd M.find M.typ hh hroom rfl (by simp) (by simp) (fun rest => ⟨1, 1, rfl, by decide, rfl, by decide⟩) (fun B c x dx h1 h2 h3 F => ?_) (by decide +kernel) (by decide +kernel) rfl (by decide +kernel) rfl rfl
  rw [bindRo_all, show (["self", "comp_select_list"] : List Str).map (fun x => (nkN (msc 9 0).names).idxOf x) = [0, 1] by decide +kernel, show (nk (msc 9 0).names).length = 2 by decide +kernel]
  have hN := F.fr.names
  have hK := F.fr.kinds
  exact IniR.store (K := K) X CF (Ev.nm F.fr 1 rfl rfl) (fun c2 e1 e2 e3 e4 => Ev.name (i := 0) (by rw [e3, hN]; rfl) rfl) ht (by decide) rfl rfl fun c2 _ _ _ _ => IniR.nil
noncomputable def cmpO : List (Int × Int) → List Int → List Int → Option Int
  | [], _, _ => none
  | (i, d) :: r, xs, ys => if xs.getD i.toNat 0 < ys.getD i.toNat 0 then some (-d) else if ys.getD i.toNat 0 < xs.getD i.toNat 0 then some d else cmpO r xs ys
noncomputable def selV (sel : List (Int × Int)) : V := .tup (sel.map fun p => .tup [.int p.1, .int p.2])
theorem tc_compare (P : PG D) {C f : Addr} (X : K.In D.h₀) (CF : ClsF K C) (M : MethAt D K C f "compare" ["self", "left", "right"] (mbd 9 1) (msc 9 1)) (ha : findIn K (.ref C) "comp_select_list" = some none)
    (hh : A.handled = none) (hroom : A.depth < recursionLimit) (sel : List (Int × Int)) (xs ys : List Int) (hs : ∀ p ∈ sel, 0 ≤ p.1 ∧ p.1 < xs.length ∧ p.1 < ys.length ∧ p.1 < 1000) :
    CallR D A (.ref f) [tcV C (selV sel), lV xs, lV ys] (.int ((cmpO sel xs ys).getD 0)) := by
  refine CallR.def M.fn P hh hroom [0, 1, 2] 7 rfl (fun c F => ?_) (by decide +kernel) (by decide +kernel) (by decide +kernel) (by decide +kernel) rfl (by decide +kernel) rfl rfl
  have hN := F.fr.names
  have hK := F.fr.kinds
  show Exs c [some (.val (tcV C (selV sel))), some (.val (lV xs)), some (.val (lV ys)), none, none, none, none] _ _
  have gt : ∀ (l : List Int) (i : Int), 0 ≤ i → i < l.length → (l.map V.int)[i.toNat]? = some (V.int (l.getD i.toNat 0)) := fun l i h0 h1 => by
    rw [List.getElem?_map, getD_of (d := 0) (by omega)]; rfl
  have loop : ∀ sel : List (Int × Int), (∀ p ∈ sel, 0 ≤ p.1 ∧ p.1 < xs.length ∧ p.1 < ys.length ∧ p.1 < 1000) → ∀ sv : V,
      LoopC c (forT ((mbd 9 1).getD 0 (.Pass ⟨0, 0, 0, 0⟩))) (forB ((mbd 9 1).getD 0 (.Pass ⟨0, 0, 0, 0⟩))) (sel.map fun p => V.tup [.int p.1, .int p.2]) [some (.val sv), some (.val (lV xs)), some (.val (lV ys)), none, none, none, none]
        (match cmpO sel xs ys with | some v => .ret (.int v) | none => .next [some (.val sv), some (.val (lV xs)), some (.val (lV ys)), none, none, none, none]) := by
    intro sel
    induction sel with
    | nil => intro _ sv; rfl
    | cons p r ih =>
      intro hs sv
      obtain ⟨i, d⟩ := p
      obtain ⟨h0, h1, h2, h3⟩ := hs (i, d) (.head _)
      have i1 := gt xs i h0 h1
      have i2 := gt ys i h0 h2
      refine ⟨_, (if xs.getD i.toNat 0 < ys.getD i.toNat 0 then .ret (.int (-d)) else if ys.getD i.toNat 0 < xs.getD i.toNat 0 then .ret (.int d) else .next [some (.val sv), some (.val (lV xs)), some (.val (lV ys)), none, none, none, none]), AsgR.tup (AsgRs.cons (AsgR.nm F.fr 3 rfl rfl (by decide)) (AsgRs.cons (AsgR.nm F.fr 4 rfl rfl (by decide)) AsgRs.nil)), ?_, ?_⟩
      · refine Exs.cons (Ex.st F.fr 5 (Ev.item (EvD.list (Ev.nm F.fr 1 rfl rfl)) (Ev.nm F.fr 3 rfl rfl) h0 (by omega) i1) rfl rfl (by decide) (fun _ _ _ => rfl)) ?_
        refine Exs.cons (Ex.st F.fr 6 (Ev.item (EvD.list (Ev.nm F.fr 2 rfl rfl)) (Ev.nm F.fr 3 rfl rfl) h0 (by omega) i2) rfl rfl (by decide) (fun _ _ _ => rfl)) ?_
        by_cases c1 : xs.getD i.toNat 0 < ys.getD i.toNat 0
        · rw [if_pos c1]
          exact Exs.ret (Ex.if (b := true) (Tst.cast (Tst.cmp (Ev.nm F.fr 5 rfl rfl) (Ev.nm F.fr 6 rfl rfl) CmpR.lt) (decide_eq_true c1)) (fun _ => Exs.ret (Ex.ret (Ev.neg (Ev.nm F.fr 4 rfl rfl)))) (fun e => by cases e))
        · rw [if_neg c1]
          refine Exs.cons (ρ' := [some (.val sv), some (.val (lV xs)), some (.val (lV ys)), some (.val (.int i)), some (.val (.int d)), some (.val (.int (xs.getD i.toNat 0))), some (.val (.int (ys.getD i.toNat 0)))]) (Ex.if (b := false) (Tst.cast (Tst.cmp (Ev.nm F.fr 5 rfl rfl) (Ev.nm F.fr 6 rfl rfl) CmpR.lt) (decide_eq_false c1)) (fun e => by cases e) (fun _ => Exs.nil)) ?_
          by_cases c2 : ys.getD i.toNat 0 < xs.getD i.toNat 0
          · rw [if_pos c2]
            exact Exs.ret (Ex.if (b := true) (Tst.cast (Tst.cmp (Ev.nm F.fr 5 rfl rfl) (Ev.nm F.fr 6 rfl rfl) CmpR.gt) (decide_eq_true c2)) (fun _ => Exs.ret (Ex.ret (Ev.nm F.fr 4 rfl rfl))) (fun e => by cases e))
          · rw [if_neg c2]
            exact Exs.cast (Exs.drop 6 (Exs.drop 5 (Exs.drop 4 (Exs.drop 3 (Exs.cons (Ex.if (b := false) (Tst.cast (Tst.cmp (Ev.nm F.fr 5 rfl rfl) (Ev.nm F.fr 6 rfl rfl) CmpR.gt) (decide_eq_false c2)) (fun e => by cases e) (fun _ => Exs.nil)) Exs.nil))))) rfl
      · unfold cmpO
        by_cases c1 : xs.getD i.toNat 0 < ys.getD i.toNat 0
        · simp only [if_pos c1]
        · by_cases c2 : ys.getD i.toNat 0 < xs.getD i.toNat 0
          · simp only [if_neg c1, if_pos c2]
          · simp only [if_neg c1, if_neg c2]
            exact ih (fun p hp => hs p (.tail _ hp)) sv
  have fr := loop sel hs (tcV C (selV sel))
  cases hc : cmpO sel xs ys with
  | some v =>
    rw [hc] at fr
    exact Exs.ret (Ex.for (ItE.tup (Ev.attr (i := 0) X CF (Ev.nm F.fr 0 rfl rfl) rfl rfl HandV.tup ha rfl (fun _ => rfl))) fr)
  | none =>
    rw [hc] at fr
    exact Exs.cons (Ex.for (ItE.tup (Ev.attr (i := 0) X CF (Ev.nm F.fr 0 rfl rfl) rfl rfl HandV.tup ha rfl (fun _ => rfl))) fr) (Exs.ret (Ex.ret Ev.int))
end Mine
/-! PJ12 -/
set_option maxRecDepth 10000
namespace Mine
variable {D : Wd} {A : Around} {K : Frag}

/-! Whitespace -/
structure WS where
  raw : Str
  cnt : List Int
  b : Int
  n : Int
  nt : Int
noncomputable def wsAtt (w : WS) : List (Str × V) := [("is_simple", .bool (decide (w.cnt.length ≤ 1))), ("norm", .tup [.tup (w.cnt.map V.int), .int w.b]), ("nt", .int w.nt), ("n", .int w.n), ("raw", .str w.raw)]
noncomputable def wsV (C : Addr) (w : WS) : V := .inst C ((wsAtt w).map (·.1)) ((wsAtt w).map (·.2))
structure WsK (K : Frag) (C : Addr) : Prop where
  cls : ClsF K C
  raw : findIn K (.ref C) "raw" = some none
  n : findIn K (.ref C) "n" = some none
  nt : findIn K (.ref C) "nt" = some none
  norm : findIn K (.ref C) "norm" = some none
  simple : findIn K (.ref C) "is_simple" = some none
noncomputable def longR (w : WS) : Int := if w.b > (w.cnt.length : Int) - 1 then w.b else (w.cnt.length : Int) - 1
theorem ws_longest (P : PG D) {C f : Addr} (X : K.In D.h₀) (W : WsK K C) (M : MethAt D K C f "longest_run_of_spaces" ["self"] (mbd 14 2) (msc 14 2))
    (hh : A.handled = none) (hroom : A.depth < recursionLimit) (w : WS) (hl : w.cnt.length ≤ 100) : CallR D A (.ref f) [wsV C w] (.int (longR w)) := by
  refine CallR.def M.fn P hh hroom [0] 3 rfl (fun c F => ?_) (by decide +kernel) (by decide +kernel) (by decide +kernel) (by decide +kernel) rfl (by decide +kernel) rfl rfl
  refine Exs.cons (Ex.assign (Ev.attr (i := 1) X W.cls (Ev.nm F.fr 0 rfl rfl) rfl rfl HandV.tup W.norm rfl (fun _ => rfl)) (AsgR.tup (AsgRs.cons (AsgR.nm F.fr 1 rfl rfl (by decide)) (AsgRs.cons (AsgR.nm F.fr 2 rfl rfl (by decide)) AsgRs.nil))) rfl rfl (fun _ => rfl)) ?_
  refine Exs.ret (Ex.ret (Ev.call (Glo.b P F.fr (by decide +kernel) (by simp) (v := .builtin "max") (by decide +kernel) (by decide) (by decide)) Kpr.builtin (EvL.cons (Ev.bin (Ev.call (Glo.b P F.fr (by decide +kernel) (by simp) (v := .builtin "len") (by decide +kernel) (by decide) (by decide)) Kpr.builtin (EvL.cons (Ev.nm F.fr 1 rfl rfl) EvL.nil) (CallR.lenT (by rw [List.length_map]; omega))) Ev.int BinR.sub) (EvL.cons (Ev.nm F.fr 2 rfl rfl) EvL.nil)) ?_))
  rw [List.length_map]
  exact CallR.max2 F.hand
noncomputable def ilStep (ts : Int) (cnt : List Int) (il i : Int) : Int := il + i.fdiv ts * cnt.getD i.toNat 0
noncomputable def ilOf (w : WS) (ts : Int) : Int := w.b + ts * (((List.range ((w.cnt.length : Int) - ts).toNat).map fun i : Nat => ts + (i : Int)).foldl (ilStep ts w.cnt) 0 + w.nt)
theorem ws_indent (P : PG D) {C f : Addr} (X : K.In D.h₀) (W : WsK K C) (M : MethAt D K C f "indent_level" ["self", "tabsize"] (mbd 14 3) (msc 14 3))
    (hh : A.handled = none) (hroom : A.depth < recursionLimit) (w : WS) (ts : Int) (hl : w.cnt.length ≤ 100) (h2 : 1 ≤ ts) (h3 : ts ≤ 1000) : CallR D A (.ref f) [wsV C w, .int ts] (.int (ilOf w ts)) := by
  refine CallR.def M.fn P hh hroom [0, 1] 6 rfl (fun c F => ?_) (by decide +kernel) (by decide +kernel) (by decide +kernel) (by decide +kernel) rfl (by decide +kernel) rfl rfl
  refine Exs.cons (Ex.assign (Ev.attr (i := 1) X W.cls (Ev.nm F.fr 0 rfl rfl) rfl rfl HandV.tup W.norm rfl (fun _ => rfl)) (AsgR.tup (AsgRs.cons (AsgR.nm F.fr 2 rfl rfl (by decide)) (AsgRs.cons (AsgR.nm F.fr 3 rfl rfl (by decide)) AsgRs.nil))) rfl rfl (fun _ => rfl)) ?_
  refine Exs.cons (Ex.st F.fr 4 Ev.int rfl rfl (by decide) (fun _ _ _ => rfl)) ?_
  show Exs c ((fun il : Int => [some (.val (wsV C w)), some (.val (.int ts)), some (.val (.tup (w.cnt.map V.int))), some (.val (.int w.b)), some (.val (.int il)), none]) 0) _ _
  refine Exs.cons (Ex.forF (ilStep ts w.cnt) (fun il : Int => [some (.val (wsV C w)), some (.val (.int ts)), some (.val (.tup (w.cnt.map V.int))), some (.val (.int w.b)), some (.val (.int il)), none]) (xs := (List.range ((w.cnt.length : Int) - ts).toNat).map fun i : Nat => ts + (i : Int)) (s := 0) (φ := V.int) (ItE.cast (ItE.call (Glo.b P F.fr (by decide +kernel) (by simp) (v := .type "range") (by decide +kernel) (by decide) (by decide)) Kpr.type (EvL.cons (Ev.nm F.fr 1 rfl rfl) (EvL.cons (Ev.cast (Ev.call (Glo.b P F.fr (by decide +kernel) (by simp) (v := .builtin "len") (by decide +kernel) (by decide) (by decide)) Kpr.builtin (EvL.cons (Ev.nm F.fr 2 rfl rfl) EvL.nil) (CallR.lenT (by rw [List.length_map]; omega))) (by rw [List.length_map])) EvL.nil)) (IterR.range2 F.hand (by omega) (by omega) (by omega) (by omega))) (ranV_map _ _)) ?_ (fun _ _ => rfl)) ?_
  · intro il i hi
    obtain ⟨k, hk, rfl⟩ := List.mem_map.mp hi
    have hk := List.mem_range.mp hk
    have hx : (w.cnt.map V.int)[(ts + (k : Int)).toNat]? = some (V.int (w.cnt.getD (ts + (k : Int)).toNat 0)) := by
      rw [List.getElem?_map, getD_of (d := 0) (by omega)]; rfl
    refine ⟨_, AsgR.nm F.fr 5 rfl rfl (by decide), ?_⟩
    refine Exs.cast (Exs.drop 5 (Exs.cons (Ex.st F.fr 4 (a := .int (ilStep ts w.cnt il (ts + (k : Int)))) (Ev.bin (Ev.nm F.fr 4 rfl rfl) (Ev.bin (Ev.bin (Ev.nm F.fr 5 rfl rfl) (Ev.nm F.fr 1 rfl rfl) (BinR.div (by omega) (by omega))) (Ev.itemTup (Ev.nm F.fr 2 rfl rfl) (Ev.nm F.fr 5 rfl rfl) (by omega) (by omega) hx) (BinR.mul (IntMulOk.of_left ?_))) BinR.add) rfl rfl (by decide) (fun _ _ _ => rfl)) Exs.nil)) rfl
    have q1 : 0 ≤ (ts + (k : Int)).fdiv ts := Int.fdiv_nonneg (by omega) (by omega)
    have q2 : (ts + (k : Int)).fdiv ts ≤ ts + (k : Int) := by
      rw [Int.fdiv_eq_ediv_of_nonneg _ (by omega)]
      exact Int.ediv_le_self _ (by omega)
    exact intBits_small (by omega) (by omega)
  · exact Exs.ret (Ex.ret (Ev.bin (Ev.nm F.fr 3 rfl rfl) (Ev.bin (Ev.nm F.fr 1 rfl rfl) (Ev.bin (Ev.nm F.fr 4 rfl rfl) (Ev.attr (i := 2) X W.cls (Ev.nm F.fr 0 rfl rfl) rfl rfl HandV.int W.nt rfl (fun _ => rfl)) BinR.add) (BinR.mul (IntMulOk.of_left (intBits_small (by omega) (by omega))))) BinR.add))
end Mine
/-! PJ13 -/
set_option maxRecDepth 10000
namespace Mine
variable {D : Wd} {A : Around} {K : Frag}

/-! Whitespace.less -/
noncomputable def lessR (w v : WS) : Bool :=
  if v.n ≤ w.n then false
  else if w.cnt.length ≤ 1 ∧ v.cnt.length ≤ 1 then decide (w.nt ≤ v.nt)
  else ((List.range ((if longR v > longR w then longR v else longR w) + 1 + 1 - 2).toNat).map fun i : Nat => (2 : Int) + (i : Int)).all fun ts => !decide (ilOf v ts ≤ ilOf w ts)
theorem LoopC.all {c : Cx D} {tgt : Expr} {body : List Stmt} {p : Int → Bool} {R : V → Ro} {a0 : V} :
    ∀ (xs : List Int) (a : V), (∀ a x, x ∈ xs → ∃ ρ₁, AsgR c (R a) tgt (.int x) ρ₁ ∧ Exs c ρ₁ body (if p x then .next (R (.int x)) else .ret (.bool false))) →
      ∃ b, LoopC c tgt body (xs.map V.int) (R a) (if xs.all p then .next (R b) else .ret (.bool false))
  | [], a, _ => ⟨a, rfl⟩
  | x :: xs, a, h => by
    obtain ⟨ρ₁, h1, h2⟩ := h a x (.head _)
    obtain ⟨b, hb⟩ := LoopC.all (a0 := a0) xs (.int x) fun a y hy => h a y (.tail _ hy)
    by_cases q : p x = true
    · rw [if_pos q] at h2
      refine ⟨b, ρ₁, _, h1, h2, ?_⟩
      simpa [q] using hb
    · rw [if_neg q] at h2
      refine ⟨b, ρ₁, _, h1, h2, ?_⟩
      simp [q]
theorem nm_longest (w : WS) : Str.ofString "longest_run_of_spaces" ∉ (wsAtt w).map (·.1) := by
  show Str.ofString "longest_run_of_spaces" ∉ (["is_simple", "norm", "nt", "n", "raw"] : List Str)
  decide
theorem nm_indent (w : WS) : Str.ofString "indent_level" ∉ (wsAtt w).map (·.1) := by
  show Str.ofString "indent_level" ∉ (["is_simple", "norm", "nt", "n", "raw"] : List Str)
  decide
theorem ws_less (P : PG D) {C f fl fi : Addr} (X : K.In D.h₀) (W : WsK K C) (M : MethAt D K C f "less" ["self", "other"] (mbd 14 6) (msc 14 6))
    (ML : MethAt D K C fl "longest_run_of_spaces" ["self"] (mbd 14 2) (msc 14 2)) (MI : MethAt D K C fi "indent_level" ["self", "tabsize"] (mbd 14 3) (msc 14 3))
    (hh : A.handled = none) (hroom : A.depth + 10 < recursionLimit) (w v : WS) (hl : w.cnt.length ≤ 100) (hl2 : v.cnt.length ≤ 100) (hb : 0 ≤ w.b ∧ w.b ≤ 100) (hb2 : 0 ≤ v.b ∧ v.b ≤ 100) : CallR D A (.ref f) [wsV C w, wsV C v] (.bool (lessR w v)) := by
  refine CallR.def M.fn P hh (by omega) [0, 1] 4 rfl (fun c F => ?_) (by decide +kernel) (by decide +kernel) (by decide +kernel) (by decide +kernel) rfl (by decide +kernel) rfl rfl
  unfold lessR
  by_cases c1 : v.n ≤ w.n
  · rw [if_pos c1]
    exact Exs.ret (Ex.if (b := true) (Tst.cast (Tst.cmp (Ev.attr (i := 3) X W.cls (Ev.nm F.fr 0 rfl rfl) rfl rfl HandV.int W.n rfl (fun _ => rfl)) (Ev.attr (i := 3) X W.cls (Ev.nm F.fr 1 rfl rfl) rfl rfl HandV.int W.n rfl (fun _ => rfl)) CmpR.ge) (decide_eq_true c1)) (fun _ => Exs.ret (Ex.ret Ev.bool)) (fun e => by cases e))
  rw [if_neg c1]
  refine Exs.cons (Ex.if (b := false) (Tst.cast (Tst.cmp (Ev.attr (i := 3) X W.cls (Ev.nm F.fr 0 rfl rfl) rfl rfl HandV.int W.n rfl (fun _ => rfl)) (Ev.attr (i := 3) X W.cls (Ev.nm F.fr 1 rfl rfl) rfl rfl HandV.int W.n rfl (fun _ => rfl)) CmpR.ge) (decide_eq_false c1)) (fun e => by cases e) (fun _ => Exs.nil)) ?_
  by_cases c2 : w.cnt.length ≤ 1 ∧ v.cnt.length ≤ 1
  · rw [if_pos c2]
    exact Exs.ret (Ex.if (b := true) (Tst.cast (Tst.and2 (Tst.ofBool (Ev.attr (i := 0) X W.cls (Ev.nm F.fr 0 rfl rfl) rfl rfl HandV.bool W.simple rfl (fun _ => rfl))) (fun _ => Tst.ofBool (Ev.attr (i := 0) X W.cls (Ev.nm F.fr 1 rfl rfl) rfl rfl HandV.bool W.simple rfl (fun _ => rfl)))) (by simp [c2.1, c2.2]))
      (fun _ => Exs.ret (Ex.ret (Ev.cmp (Ev.attr (i := 2) X W.cls (Ev.nm F.fr 0 rfl rfl) rfl rfl HandV.int W.nt rfl (fun _ => rfl)) (Ev.attr (i := 2) X W.cls (Ev.nm F.fr 1 rfl rfl) rfl rfl HandV.int W.nt rfl (fun _ => rfl)) CmpR.le))) (fun e => by cases e))
  rw [if_neg c2]
  refine Exs.cons (Ex.if (b := false) (Tst.cast (Tst.and2 (Tst.ofBool (Ev.attr (i := 0) X W.cls (Ev.nm F.fr 0 rfl rfl) rfl rfl HandV.bool W.simple rfl (fun _ => rfl))) (fun _ => Tst.ofBool (Ev.attr (i := 0) X W.cls (Ev.nm F.fr 1 rfl rfl) rfl rfl HandV.bool W.simple rfl (fun _ => rfl)))) (by rw [← Bool.decide_and]; exact decide_eq_false c2)) (fun e => by cases e) (fun _ => Exs.nil)) ?_
  have lw : -1 ≤ longR w ∧ longR w ≤ 100 := by unfold longR; split <;> omega
  have lv : -1 ≤ longR v ∧ longR v ≤ 100 := by unfold longR; split <;> omega
  generalize hm : (if longR v > longR w then longR v else longR w) = m
  have lm : -1 ≤ m ∧ m ≤ 100 := by subst hm; split <;> omega
  refine Exs.cons (Ex.st F.fr 2 (a := .int (m + 1)) (Ev.bin (Ev.call (Glo.b P F.fr (by decide +kernel) (by simp) (v := .builtin "max") (by decide +kernel) (by decide) (by decide)) Kpr.builtin (EvL.cons (Ev.meth0 X W.cls (Ev.nm F.fr 0 rfl rfl) (nm_longest _) ML.find ML.typ ML.fn.kpr (ws_longest P X W ML F.hand (by rw [F.depth]; omega) w hl) (fun _ => ⟨_, rfl⟩)) (EvL.cons (Ev.meth0 X W.cls (Ev.nm F.fr 1 rfl rfl) (nm_longest _) ML.find ML.typ ML.fn.kpr (ws_longest P X W ML F.hand (by rw [F.depth]; omega) v hl2) (fun _ => ⟨_, rfl⟩)) EvL.nil)) (hm ▸ CallR.max2 F.hand)) Ev.int BinR.add) rfl rfl (by decide) (fun _ _ _ => rfl)) ?_
  generalize hxs : ((List.range (m + 1 + 1 - 2).toNat).map fun i : Nat => (2 : Int) + (i : Int)) = xs
  obtain ⟨b, hb⟩ := LoopC.all (c := c) (tgt := forT ((mbd 14 6).getD 3 (.Pass ⟨0, 0, 0, 0⟩))) (body := forB ((mbd 14 6).getD 3 (.Pass ⟨0, 0, 0, 0⟩))) (p := fun ts => !decide (ilOf v ts ≤ ilOf w ts)) (R := fun a => [some (.val (wsV C w)), some (.val (wsV C v)), some (.val (.int (m + 1))), match a with | .none => none | a => some (.val a)]) (a0 := .none) xs .none (fun a ts hts => by
    subst hxs
    obtain ⟨k, hk, rfl⟩ := List.mem_map.mp hts
    have hk := List.mem_range.mp hk
    refine ⟨_, AsgR.nm F.fr 3 rfl rfl (by decide), ?_⟩
    by_cases c3 : ilOf v (2 + (k : Int)) ≤ ilOf w (2 + (k : Int))
    · simp only [c3, decide_true, Bool.not_true]
      exact Exs.ret (Ex.if (b := true) (Tst.cast (Tst.cmp (Ev.meth X W.cls (Ev.nm F.fr 0 rfl rfl) (nm_indent _) MI.find MI.typ MI.fn.kpr (EvL.cons (Ev.nm F.fr 3 rfl rfl) EvL.nil) (ws_indent P X W MI F.hand (by rw [F.depth]; omega) w _ hl (by omega) (by omega)) (fun _ _ => rfl) (fun _ => ⟨_, rfl⟩)) (Ev.meth X W.cls (Ev.nm F.fr 1 rfl rfl) (nm_indent _) MI.find MI.typ MI.fn.kpr (EvL.cons (Ev.nm F.fr 3 rfl rfl) EvL.nil) (ws_indent P X W MI F.hand (by rw [F.depth]; omega) v _ hl2 (by omega) (by omega)) (fun _ _ => rfl) (fun _ => ⟨_, rfl⟩)) CmpR.ge) (decide_eq_true c3)) (fun _ => Exs.ret (Ex.ret Ev.bool)) (fun e => by cases e))
    · simp only [c3, decide_false, Bool.not_false, if_true]
      exact Exs.cast (Exs.cons (Ex.if (b := false) (Tst.cast (Tst.cmp (Ev.meth X W.cls (Ev.nm F.fr 0 rfl rfl) (nm_indent _) MI.find MI.typ MI.fn.kpr (EvL.cons (Ev.nm F.fr 3 rfl rfl) EvL.nil) (ws_indent P X W MI F.hand (by rw [F.depth]; omega) w _ hl (by omega) (by omega)) (fun _ _ => rfl) (fun _ => ⟨_, rfl⟩)) (Ev.meth X W.cls (Ev.nm F.fr 1 rfl rfl) (nm_indent _) MI.find MI.typ MI.fn.kpr (EvL.cons (Ev.nm F.fr 3 rfl rfl) EvL.nil) (ws_indent P X W MI F.hand (by rw [F.depth]; omega) v _ hl2 (by omega) (by omega)) (fun _ _ => rfl) (fun _ => ⟨_, rfl⟩)) CmpR.ge) (decide_eq_false c3)) (fun e => by cases e) (fun _ => Exs.nil)) Exs.nil) rfl)
  have rng : ranV 2 (m + 1 + 1 - 2).toNat = xs.map V.int := by rw [ranV_map, hxs]
  by_cases ca : xs.all (fun ts => !decide (ilOf v ts ≤ ilOf w ts)) = true
  · rw [if_pos ca] at hb
    rw [ca]
    exact Exs.cons (Ex.for (ItE.cast (ItE.call (Glo.b P F.fr (by decide +kernel) (by simp) (v := .type "range") (by decide +kernel) (by decide) (by decide)) Kpr.type (EvL.cons Ev.int (EvL.cons (Ev.bin (Ev.nm F.fr 2 rfl rfl) Ev.int BinR.add) EvL.nil)) (IterR.range2 F.hand (by omega) (by omega) (by omega) (by omega))) rng) hb) (Exs.ret (Ex.ret Ev.bool))
  · rw [if_neg ca] at hb
    rw [Bool.eq_false_iff.mpr ca]
    exact Exs.ret (Ex.for (ItE.cast (ItE.call (Glo.b P F.fr (by decide +kernel) (by simp) (v := .type "range") (by decide +kernel) (by decide) (by decide)) Kpr.type (EvL.cons Ev.int (EvL.cons (Ev.bin (Ev.nm F.fr 2 rfl rfl) Ev.int BinR.add) EvL.nil)) (IterR.range2 F.hand (by omega) (by omega) (by omega) (by omega))) rng) hb)
end Mine
/-! PJ14 -/
set_option maxRecDepth 10000
namespace Mine
variable {D : Wd} {A : Around} {K : Frag}
theorem Fn.to {c c2 : Cx D} {l : List (Str × NameKind)} (F : Fn c A l) (e1 : c2.env = c.env) (e2 : c2.A = c.A) (e3 : c2.names = c.names) (e4 : c2.kinds = c.kinds) : Fn c2 A l :=
  ⟨⟨e3.trans F.fr.names, e4.trans F.fr.kinds, by rw [e1]; exact F.fr.glob⟩, by rw [e2]; exact F.around, by rw [e1]; exact F.notI, by rw [e2]; exact F.hand, by rw [e2]; exact F.depth, by rw [e2]; exact F.units⟩
theorem replicate_flat1 {n : Nat} : (List.replicate n ([.int 0] : List V)).flatten = (List.replicate n (0 : Int)).map V.int := by
  induction n with
  | zero => rfl
  | succ n ih => rw [List.replicate_succ, List.flatten_cons, ih]; rfl
noncomputable def grown (cnt : List Int) (b : Int) : List Int := if (cnt.length : Int) ≤ b then cnt ++ List.replicate (b - cnt.length + 1).toNat 0 else cnt
noncomputable def bump (cnt : List Int) (b : Int) : List Int := (grown cnt b).set b.toNat ((grown cnt b).getD b.toNat 0 + 1)
noncomputable def scanW : List Nat → List Int → Int → Int → Int → List Int × Int × Int × Int
  | [], cnt, b, n, nt => (cnt, b, n, nt)
  | ch :: r, cnt, b, n, nt => if (⟨#[ch]⟩ : Str) == " " then scanW r cnt (b + 1) (n + 1) nt else if (⟨#[ch]⟩ : Str) == "\t" then scanW r (bump cnt b) 0 (n + 1) (nt + 1) else (cnt, b, n, nt)
noncomputable def wsR (sv wv : V) (st : List Int × Int × Int × Int) (o : Option V) : Ro := [some (.val sv), some (.val wv), some (.val (.str " ")), some (.val (.str "\t")), some (.own (.list (st.1.map V.int))), some (.val (.int st.2.1)), some (.val (.int st.2.2.1)), some (.val (.int st.2.2.2)), o.map Slot.val]
theorem grown_length (cnt : List Int) (b : Int) (hb : 0 ≤ b) : b < (grown cnt b).length := by
  unfold grown; split
  · simp; omega
  · omega
theorem grown_le (cnt : List Int) (b : Int) (h : cnt.length ≤ 200) (hb2 : b ≤ 100) : (grown cnt b).length ≤ 200 := by
  unfold grown; split
  · simp; omega
  · omega
theorem ws_loop (P : PG D) {c : Cx D} (F : Fn c A (msc 14 1).names) (sv wv : V) : ∀ (l : List Nat) (cnt : List Int) (b n nt : Int) (o : Option V), 0 ≤ b → b + l.length ≤ 100 → cnt.length ≤ 200 →
    ∃ o', LoopC c (forT ((mbd 14 1).getD 4 (.Pass ⟨0, 0, 0, 0⟩))) (forB ((mbd 14 1).getD 4 (.Pass ⟨0, 0, 0, 0⟩))) (l.map fun ch => V.str ⟨#[ch]⟩) (wsR sv wv (cnt, b, n, nt) o) (.next (wsR sv wv (scanW l cnt b n nt) o'))
  | [], cnt, b, n, nt, o, _, _, _ => ⟨o, rfl⟩
  | ch :: r, cnt, b, n, nt, o, h0, h1, h2 => by
    have hN := F.fr.names
    simp only [List.length_cons] at h1
    unfold scanW
    by_cases c1 : ((⟨#[ch]⟩ : Str) == " ") = true
    · rw [if_pos c1]
      obtain ⟨o', ih⟩ := ws_loop P F sv wv r cnt (b + 1) (n + 1) nt (some (.str ⟨#[ch]⟩)) (by omega) (by omega) h2
      refine ⟨o', _, .next (wsR sv wv (cnt, b + 1, n + 1, nt) (some (.str ⟨#[ch]⟩))), AsgR.nm F.fr 8 rfl rfl (by decide), ?_, ih⟩
      exact Exs.cons (Ex.if (b := true) (Tst.cast (Tst.cmp (Ev.nm F.fr 8 rfl rfl) (Ev.nm F.fr 2 rfl rfl) CmpR.eqStr) c1) (fun _ => Exs.cons (Ex.st F.fr 6 (Ev.bin (Ev.nm F.fr 6 rfl rfl) Ev.int BinR.add) rfl rfl (by decide) (fun _ _ _ => rfl)) (Exs.cons (Ex.st F.fr 5 (Ev.bin (Ev.nm F.fr 5 rfl rfl) Ev.int BinR.add) rfl rfl (by decide) (fun _ _ _ => rfl)) Exs.nil)) (fun e => by cases e)) Exs.nil
    · rw [if_neg c1]
      by_cases c2 : ((⟨#[ch]⟩ : Str) == "\t") = true
      · rw [if_pos c2]
        have g1 := grown_length cnt b h0
        have g2 := grown_le cnt b h2 (by omega)
        obtain ⟨o', ih⟩ := ws_loop P F sv wv r (bump cnt b) 0 (n + 1) (nt + 1) (some (.str ⟨#[ch]⟩)) (by omega) (by omega) (by unfold bump; rw [List.length_set]; exact g2)
        refine ⟨o', _, .next (wsR sv wv (bump cnt b, 0, n + 1, nt + 1) (some (.str ⟨#[ch]⟩))), AsgR.nm F.fr 8 rfl rfl (by decide), ?_, ih⟩
        refine Exs.cons (Ex.if (b := false) (Tst.cast (Tst.cmp (Ev.nm F.fr 8 rfl rfl) (Ev.nm F.fr 2 rfl rfl) CmpR.eqStr) (Bool.eq_false_iff.mpr c1)) (fun e => by cases e) (fun _ => Exs.cons (Ex.if (b := true) (Tst.cast (Tst.cmp (Ev.nm F.fr 8 rfl rfl) (Ev.nm F.fr 3 rfl rfl) CmpR.eqStr) c2) (fun _ => ?_) (fun e => by cases e)) Exs.nil)) Exs.nil
        refine Exs.cons (Ex.st F.fr 6 (Ev.bin (Ev.nm F.fr 6 rfl rfl) Ev.int BinR.add) rfl rfl (by decide) (fun _ _ _ => rfl)) ?_
        refine Exs.cons (Ex.st F.fr 7 (Ev.bin (Ev.nm F.fr 7 rfl rfl) Ev.int BinR.add) rfl rfl (by decide) (fun _ _ _ => rfl)) ?_
        have len : ∀ {ρ : Ro} {pos np p2 : Pos}, ρ[4]? = some (some (.own (.list (cnt.map V.int)))) → Sole ρ 4 → Ev c ρ (.Call (.Name "len" np) [.Name "count" p2] [] pos) (.int cnt.length) := fun {ρ pos np p2} hr hso => by
          have := Ev.lenD (pos := pos) (np := np) (Glo.b P F.fr (x := "len") (by decide +kernel) (by simp) (v := .builtin "len") (by decide +kernel) (by decide) (by decide)) (EvD.nm (pos := p2) F.fr 4 rfl hr hso) (by rw [List.length_map]; omega)
          rwa [List.length_map] at this
        refine Exs.cons (ρ' := wsR sv wv (grown cnt b, b, n + 1, nt + 1) (some (.str ⟨#[ch]⟩))) ?_ ?_
        · by_cases c3 : (cnt.length : Int) ≤ b
          · refine Ex.if (b := true) (Tst.cast (Tst.cmp (Ev.nm F.fr 5 rfl rfl) (len rfl (sole_of rfl)) CmpR.ge) (decide_eq_true c3)) (fun _ => ?_) (fun e => by cases e)
            refine Exs.cast (Exs.cons (Ex.stO F.fr 4 (EvO.addD P.sm (EvD.nm F.fr 4 rfl rfl (sole_of rfl)) (Ev.bin (Ev.list (EvL.cons Ev.int EvL.nil)) (Ev.bin (Ev.bin (Ev.nm F.fr 5 rfl rfl) (len rfl (sole_of rfl)) BinR.sub) Ev.int BinR.add) (BinR.mulList (by show (0 : Int) ≤ b - cnt.length + 1; omega) (by show b - (cnt.length : Int) + 1 ≤ 100; omega) (by simp))) (by rw [replicate_flat1]; simp [sizeLine_eq]; omega)) rfl rfl (by decide) (fun _ _ _ => rfl)) Exs.nil) ?_
            unfold grown
            rw [if_pos c3, replicate_flat1]
            simp [wsR]
          · refine Ex.if (b := false) (Tst.cast (Tst.cmp (Ev.nm F.fr 5 rfl rfl) (len rfl (sole_of rfl)) CmpR.ge) (decide_eq_false c3)) (fun e => by cases e) (fun _ => Exs.cast Exs.nil ?_)
            unfold grown
            rw [if_neg c3]; rfl
        have hx : ((grown cnt b).map V.int)[b.toNat]? = some (V.int ((grown cnt b).getD b.toNat 0)) := by
          rw [List.getElem?_map, getD_of (d := 0) (by omega)]; rfl
        refine Exs.cons (Ex.setIdx (i := 4) (by rw [hN]; rfl) rfl (sole_of rfl) (Ev.bin (Ev.item (EvD.nm F.fr 4 rfl rfl (sole_of rfl)) (Ev.nm F.fr 5 rfl rfl) h0 (by show b < 2 ^ 63; omega) hx) Ev.int BinR.add) (Ev.nm F.fr 5 rfl rfl) h0 (by rw [List.length_map]; exact g1) (by rw [List.length_map]; show (grown cnt b).length ≤ 10000; omega)) ?_
        refine Exs.cast (Exs.cons (Ex.st F.fr 5 Ev.int rfl rfl (by decide) (fun _ _ _ => rfl)) Exs.nil) ?_
        simp [wsR, bump, List.map_set]
      · rw [if_neg c2]
        refine ⟨some (.str ⟨#[ch]⟩), _, .brk (wsR sv wv (cnt, b, n, nt) (some (.str ⟨#[ch]⟩))), AsgR.nm F.fr 8 rfl rfl (by decide), ?_, rfl⟩
        exact Exs.brk (Ex.if (b := false) (Tst.cast (Tst.cmp (Ev.nm F.fr 8 rfl rfl) (Ev.nm F.fr 2 rfl rfl) CmpR.eqStr) (Bool.eq_false_iff.mpr c1)) (fun e => by cases e) (fun _ => Exs.brk (Ex.if (b := false) (Tst.cast (Tst.cmp (Ev.nm F.fr 8 rfl rfl) (Ev.nm F.fr 3 rfl rfl) CmpR.eqStr) (Bool.eq_false_iff.mpr c2)) (fun e => by cases e) (fun _ => Exs.brk Ex.break))))
theorem sole_wsR {sv wv : V} {st : List Int × Int × Int × Int} {o : Option V} : Sole (wsR sv wv st o) 4 := by
  cases o <;> exact sole_of rfl
end Mine
/-! PJ15 -/
set_option maxRecDepth 10000
namespace Mine
variable {D : Wd} {A : Around} {K : Frag}
structure WsI (K : Frag) (C : Addr) : Prop extends WsK K C where
  traw : takerIn K C "raw" = some none
  tn : takerIn K C "n" = some none
  tnt : takerIn K C "nt" = some none
  tnorm : takerIn K C "norm" = some none
  tsimple : takerIn K C "is_simple" = some none
  reads : readsIn K C (.type "type") = true
  S : ∃ t, findCls K (.ref C) (.type "type") "S" = some (.val (.str " " t))
  T : ∃ t, findCls K (.ref C) (.type "type") "T" = some (.val (.str "\t" t))
noncomputable def wsOf (x : Str) : WS := let r := scanW x.cps.toList [] 0 0 0; ⟨x, r.1, r.2.1, r.2.2.1, r.2.2.2⟩
theorem scanW_len : ∀ (l : List Nat) (cnt : List Int) (b n nt : Int), 0 ≤ b → b + l.length ≤ 100 → cnt.length ≤ 200 → (scanW l cnt b n nt).1.length ≤ 200
  | [], _, _, _, _, _, _, h => h
  | ch :: r, cnt, b, n, nt, h0, h1, h2 => by
    simp only [List.length_cons] at h1
    unfold scanW
    split
    · exact scanW_len r cnt _ _ _ (by omega) (by omega) h2
    · split
      · exact scanW_len r _ _ _ _ (by omega) (by omega) (by unfold bump; rw [List.length_set]; exact grown_le cnt b h2 (by omega))
      · exact h2
theorem make_whitespace (P : PG D) {f : Addr} (X : K.In D.h₀) (W : WsI K (P.adr 14)) (M : MethAt D K (P.adr 14) f "__init__" ["self", "ws"] (mbd 14 1) (msc 14 1)) (n14 : P.nm 14 = "Whitespace")
    (hh : A.handled = none) (hroom : A.depth + 10 < recursionLimit) (w : Str) (hw : w.cps.size ≤ 90) : CallR D A (.ref (P.adr 14)) [.str w] (wsV (P.adr 14) (wsOf w)) := by
  refine CallR.make (att := wsAtt (wsOf w)) X W.cls M.fn P.gd M.find M.typ hh hroom rfl (by show (["is_simple", "norm", "nt", "n", "raw"] : List Str).Nodup; decide) (by show 5 ≤ 500; decide) (fun rest => ⟨1, 1, rfl, by decide, rfl, by decide⟩) (fun B c x dx h1 h2 h3 F => ?_) (by decide +kernel) (by decide +kernel) rfl (by decide +kernel) rfl rfl
  rw [bindRo_all, show (["self", "ws"] : List Str).map (fun x => (nkN (msc 14 1).names).idxOf x) = [0, 1] by decide +kernel, show (nk (msc 14 1).names).length = 9 by decide +kernel]
  have slf : ∀ {c2 : Cx D} {r : Ro} {p : Pos}, Fn c2 B (msc 14 1).names → r[0]? = some (some (.val (.raw (.ref x)))) → Ev c2 r (.Name "self" p) (.raw (.ref x)) := fun F2 h => Ev.nm F2.fr 0 rfl h
  refine IniR.store (K := K) X W.cls (Ev.nm F.fr 1 rfl rfl) (fun c2 e1 e2 e3 e4 => slf (F.to e1 e2 e3 e4) rfl) W.traw (by decide) rfl rfl fun c2 e1 e2 e3 e4 => ?_
  have F2 := F.to e1 e2 e3 e4
  refine IniR.look (f := "raw") (w := w) rfl fun HA => ?_
  obtain ⟨t1, hS⟩ := W.S
  obtain ⟨t2, hT⟩ := W.T
  refine IniR.cons (Ex.swap2 (i := 2) (j := 3) (EvL.cons (Ev.clsAttr X (Glo.t P F2.fr 14 (by decide +kernel) n14 (by decide) (by decide)) W.reads hS) (EvL.cons (Ev.clsAttr X (Glo.t P F2.fr 14 (by decide +kernel) n14 (by decide) (by decide)) W.reads hT) EvL.nil)) (by rw [F2.fr.names]; rfl) (by rw [F2.fr.kinds]; rfl) (by rw [F2.fr.names]; rfl) (by rw [F2.fr.kinds]; rfl) (fun env q1 q2 q3 => by unfold swappedStores; simp [q1, q2, q3, Expr.pos]; rfl)) ?_
  refine IniR.cons (Ex.stO F2.fr 4 (EvO.list P.sm EvL.nil) rfl rfl (by decide) (fun _ _ _ => rfl)) ?_
  refine IniR.cons (Ex.set3 Ev.int (AsgR.nm F2.fr 5 rfl rfl (by decide)) (AsgR.nm F2.fr 6 rfl rfl (by decide)) (AsgR.nm F2.fr 7 rfl rfl (by decide))) ?_
  obtain ⟨o', lp⟩ := ws_loop P F2 (.raw (.ref x)) (.str w) w.cps.toList [] 0 0 0 none (by omega) (by simp; omega) (by simp)
  have hlen := scanW_len w.cps.toList [] 0 0 0 (by omega) (by simp; omega) (by simp)
  refine IniR.cons (Ex.for (ItE.str (Ev.attrRaw X W.cls HA (slf F2 rfl) W.raw rfl)) lp (fun _ _ => rfl)) ?_
  generalize hst : scanW w.cps.toList [] 0 0 0 = st at hlen
  refine IniR.store (K := K) X W.cls (Ev.nm F2.fr 6 rfl rfl) (fun c3 e1 e2 e3 e4 => slf (F2.to e1 e2 e3 e4) rfl) W.tn (by simp) rfl rfl fun c3 e1 e2 e3 e4 => ?_
  have F3 := F2.to e1 e2 e3 e4
  refine IniR.store (K := K) X W.cls (Ev.nm F3.fr 7 rfl rfl) (fun c3 e1 e2 e3 e4 => slf (F3.to e1 e2 e3 e4) rfl) W.tnt (by simp) rfl rfl fun c4 e1 e2 e3 e4 => ?_
  have F4 := F3.to e1 e2 e3 e4
  refine IniR.store (K := K) X W.cls (Ev.tup (EvL.cons (Ev.tupD (Glo.b P F4.fr (by decide +kernel) (by simp) (v := .type "tuple") (by decide +kernel) (by decide) (by decide)) (EvD.nm F4.fr 4 rfl rfl sole_wsR) (by rw [List.length_map, sizeLine_eq]; omega)) (EvL.cons (Ev.nm F4.fr 5 rfl rfl) EvL.nil)) (by simp [sizeLine_eq])) (fun c3 e1 e2 e3 e4 => slf (F4.to e1 e2 e3 e4) rfl) W.tnorm (by simp) rfl rfl fun c5 e1 e2 e3 e4 => ?_
  have F5 := F4.to e1 e2 e3 e4
  refine IniR.store (K := K) X W.cls (Ev.cast (b := .bool (decide (st.1.length ≤ 1))) (Ev.cmp (Ev.lenD (Glo.b P F5.fr (by decide +kernel) (by simp) (v := .builtin "len") (by decide +kernel) (by decide) (by decide)) (EvD.nm F5.fr 4 rfl rfl sole_wsR) (by rw [List.length_map]; omega)) Ev.int CmpR.le) (by rw [List.length_map]; exact congrArg V.bool (decide_eq_decide.mpr (by omega)))) (fun c3 e1 e2 e3 e4 => slf (F5.to e1 e2 e3 e4) rfl) W.tsimple (by simp) rfl rfl fun c6 e1 e2 e3 e4 => ?_
  have := IniR.nil (c := c6) (ρ := wsR (.raw (.ref x)) (.str w) st o') (x := x) (dx := dx) (C := P.adr 14) (att := wsAtt (wsOf w))
  unfold wsAtt wsOf at this
  rw [hst] at this
  simpa [wsAtt, wsOf, hst] using this
end Mine
/-! PJ16 -/
set_option maxRecDepth 10000
namespace Mine
variable {D : Wd} {A : Around} {K : Frag}

structure Lw (D : Wd) (K : Frag) where
  P : PG D
  X : K.In D.h₀
  f3 : FnAt D (P.adr 3) ["a", "b", "n"] (bd 3) (sc 3)
  f5 : FnAt D (P.adr 5) ["a", "n"] (bd 5) (sc 5)
  f6 : FnAt D (P.adr 6) ["digits", "n"] (bd 6) (sc 6)
  f7 : FnAt D (P.adr 7) ["a", "b"] (bd 7) (sc 7)
  f10 : FnAt D (P.adr 10) ["target", "source"] (bd 10) (sc 10)
  f11 : FnAt D (P.adr 11) ["target", "source"] (bd 11) (sc 11)
  f12 : FnAt D (P.adr 12) ["callers"] (bd 12) (sc 12)
  f16 : FnAt D (P.adr 16) ["drawn"] (bd 16) (sc 16)
  f17 : FnAt D (P.adr 17) ["lead"] (bd 17) (sc 17)
  f18 : FnAt D (P.adr 18) ["below"] (bd 18) (sc 18)
  f19 : FnAt D (P.adr 19) ["below", "step"] (bd 19) (sc 19)
  f20 : FnAt D (P.adr 20) ["need", "width"] (bd 20) (sc 20)
  n3 : P.nm 3 = "_div2n1n"
  n5 : P.nm 5 = "_int2digits"
  n6 : P.nm 6 = "_digits2int"
  n7 : P.nm 7 = "_divmod_pos"
  n9 : P.nm 9 = "TupleComp"
  n10 : P.nm 10 = "add_func_stats"
  n11 : P.nm 11 = "add_callers"
  n12 : P.nm 12 = "count_calls"
  n14 : P.nm 14 = "Whitespace"
  n16 : P.nm 16 = "_law_lead"
  n17 : P.nm 17 = "_law_columns"
  n18 : P.nm 18 = "_law_orders"
  n19 : P.nm 19 = "_law_numberings"
  n20 : P.nm 20 = "_law_gathered"
  lim : ∃ t, D.mg "_DIV_LIMIT" = some (.int 4000 t)
  N5 : NestAt D (P.adr 5) (mpos 5 1) "_int2digits.<locals>.inner" "_int2digits"
  N6 : NestAt D (P.adr 6) (mpos 6 0) "_digits2int.<locals>.inner" "_digits2int"
  k9 : keepIn K (.ref (P.adr 9)) = true
  c9 : ClsF K (P.adr 9)
  i9 : ∃ f, MethAt D K (P.adr 9) f "__init__" ["self", "comp_select_list"] (mbd 9 0) (msc 9 0)
  m9 : ∃ f, MethAt D K (P.adr 9) f "compare" ["self", "left", "right"] (mbd 9 1) (msc 9 1)
  t9 : takerIn K (P.adr 9) "comp_select_list" = some none
  a9 : findIn K (.ref (P.adr 9)) "comp_select_list" = some none
  k14 : keepIn K (.ref (P.adr 14)) = true
  c14 : WsI K (P.adr 14)
  i14 : ∃ f, MethAt D K (P.adr 14) f "__init__" ["self", "ws"] (mbd 14 1) (msc 14 1)
  m14l : ∃ f, MethAt D K (P.adr 14) f "longest_run_of_spaces" ["self"] (mbd 14 2) (msc 14 2)
  m14i : ∃ f, MethAt D K (P.adr 14) f "indent_level" ["self", "tabsize"] (mbd 14 3) (msc 14 3)
  m14s : ∃ f, MethAt D K (P.adr 14) f "less" ["self", "other"] (mbd 14 6) (msc 14 6)

theorem Kpr.cls {C : Value} (X : K.In D.h₀) (hk : keepIn K C = true) : Kpr D C := fun h hh => keeps_K hk h (X.keeps hh)

theorem Ex.to {c : Cx D} {ρ ρ' ρ2 : Ro} {st : Stmt} (h : Ex c ρ st (.next ρ')) (e : ρ' = ρ2) : Ex c ρ st (.next ρ2) := e ▸ h

/-! the law's frame: its slots by their numbers -/
noncomputable def lst (l : List (Nat × Slot)) : Ro := l.foldl (fun ρ p => ρ.set p.1 (some p.2)) (List.replicate 30 none)

/-! the pure side -/
noncomputable def wl (x : Str) : WS := wsOf (x ++ "x\t ")
noncomputable def leadOk (x : Str) : Bool := decide (x.cps.size ≤ 20) && decide ((wl x).cnt.length ≤ 100) && decide (0 ≤ (wl x).b) && decide ((wl x).b ≤ 100) && [1, 2, 3, 4].map (ilOf (wl x)) == colsOf x
noncomputable def base : List Int := [16, 96, 64, 80]
noncomputable def drawnOf (ns : List Int) : List Int := [0, 1, 2, 3].map fun k : Int => base.getD k.toNat 0 + (pickG ns (some k) none (some 4)).sum
noncomputable def leadsOf (ns : List Int) : List Str := (drawnOf ns).map fun x => leadR (x.fmod 192)
noncomputable def wid (ns : List Int) : Int := 12 + (ns.length : Int).fmod 8
noncomputable def fst4 (ns : List Int) : Int := ns.sum.fmod 4
noncomputable def way2 (ns : List Int) : Int := 1 - 2 * (ns.sum.fdiv 4).fmod 2
noncomputable def rowsOf (L : List (List Int)) : List (List Int) := [0, 1, 2, 3].map fun k : Int => L.getD k.toNat [] ++ [k]

theorem getL4 {α : Type} {L : List α} (h : L.length = 4) (d : α) {k : Int} (hk : k ∈ ([0, 1, 2, 3] : List Int)) {φ : α → V} : (L.map φ)[k.toNat]? = some (φ (L.getD k.toNat d)) := by
  have h2 : k.toNat < L.length := by simp at hk; omega
  rw [List.getElem?_map, getD_of (d := d) h2]; rfl
theorem mem4 {k : Int} (hk : k ∈ ([0, 1, 2, 3] : List Int)) : 0 ≤ k ∧ k < 2 ^ 63 ∧ k.toNat < 4 := by simp at hk; omega
theorem getD_mem' {α : Type} {L : List α} {i : Nat} {d : α} (h : i < L.length) : L.getD i d ∈ L := by
  rw [List.getD_eq_getElem?_getD, List.getElem?_eq_getElem h]; exact List.getElem_mem h

noncomputable def wsLV (C : Addr) (L : List Str) : V := .list (L.map fun x => wsV C (wl x))
noncomputable def st1 (Y : Lw D K) (ns : List Int) : Ro := lst [(0, .val (lV ns)), (2, .val (.int (wid ns))), (5, .val (wsLV (Y.P.adr 14) (leadsOf ns))), (6, .val (.list (LL (rowsOf ((leadsOf ns).map colsOf))))), (27, .val (.list (LL ((leadsOf ns).map colsOf)))), (28, .val (.int (fst4 ns))), (29, .val (.int (way2 ns)))]

theorem law_p1 (Y : Lw D K) {c : Cx D} (F : Fn c A (sc 21).names) (hu : A.units + 100 < cLine) (hd : A.depth + 400 < recursionLimit) (ns : List Int) (hlen : ns.length ≤ 63) (hok : ∀ x ∈ leadsOf ns, leadOk x = true) {o : Out}
    (t : Exs c (st1 Y ns) ((bd 21).drop 10) o) : Exs c (lst [(0, .val (lV ns))]) (bd 21) o := by
  have P := Y.P
  have ll : (leadsOf ns).length = 4 := by unfold leadsOf drawnOf; simp
  have lc : ((leadsOf ns).map colsOf).length = 4 := by rw [List.length_map]; exact ll
  refine Exs.cons (Ex.st F.fr 1 (Ev.call (Glo.b Y.P F.fr (by decide +kernel) (by simp) (v := .builtin "sum") (by decide +kernel) (by decide) (by decide)) Kpr.builtin (EvL.cons (Ev.nm F.fr 0 rfl rfl) EvL.nil) (CallR.sumI F.hand)) rfl rfl (by decide) (fun _ _ _ => rfl)) ?_
  refine Exs.cons (Ex.st F.fr 2 (a := .int (wid ns)) (Ev.bin Ev.int (Ev.bin (Ev.call (Glo.b Y.P F.fr (by decide +kernel) (by simp) (v := .builtin "len") (by decide +kernel) (by decide) (by decide)) Kpr.builtin (EvL.cons (Ev.nm F.fr 0 rfl rfl) EvL.nil) (CallR.lenI (by omega))) Ev.int (BinR.mod (by decide))) BinR.add) rfl rfl (by decide) (fun _ _ _ => rfl)) ?_
  refine Exs.cons (Ex.st F.fr 28 (a := .int (fst4 ns)) (Ev.bin (Ev.nm F.fr 1 rfl rfl) Ev.int (BinR.mod (by decide))) rfl rfl (by decide) (fun _ _ _ => rfl)) ?_
  refine Exs.cons (Ex.drop 1 (Ex.st F.fr 29 (a := .int (way2 ns)) (Ev.bin Ev.int (Ev.bin Ev.int (Ev.bin (Ev.bin (Ev.nm F.fr 1 rfl rfl) Ev.int (BinR.div (by decide) (by decide))) Ev.int (BinR.mod (by decide))) (BinR.mul (IntMulOk.of_left (intBits_small (by decide) (by decide))))) BinR.sub) rfl rfl (by decide) (fun _ _ _ => rfl))) ?_
  show Exs c (lst [(0, .val (lV ns)), (2, .val (.int (wid ns))), (28, .val (.int (fst4 ns))), (29, .val (.int (way2 ns)))]) _ _
  refine Exs.cons (Ex.lcU Y.P F.fr 3 [none, none, some 0] (φ := V.int) (zs := [0, 1, 2, 3]) (f := fun k => some (V.int (base.getD k.toNat 0 + (pickG ns (some k) none (some 4)).sum))) (noOwn_of rfl) (ItE.call (Glo.b Y.P F.fr (by decide +kernel) (by simp) (v := .type "range") (by decide +kernel) (by decide) (by decide)) Kpr.type (EvL.cons Ev.int EvL.nil) (IterR.range1 F.hand (by decide) (by decide))) (by simp) (fun c' F' hA k hk => ?_) rfl rfl (by decide +kernel) (by decide +kernel) (by decide +kernel) rfl (by decide +kernel) (fun _ _ => rfl)) ?_
  · obtain ⟨k1, k2, k3⟩ := mem4 hk
    refine Turn1.s F' 1 (noOwn_pick _) (Ev.bin (Ev.item (EvD.list (Ev.list (EvL.cons Ev.int (EvL.cons Ev.int (EvL.cons Ev.int (EvL.cons Ev.int EvL.nil)))))) (Ev.nm F' 1 rfl rfl) k1 k2 (getL4 (L := base) (φ := V.int) rfl 0 hk)) (Ev.call (Glo.b Y.P F' (by decide +kernel) (by simp) (v := .builtin "sum") (by decide +kernel) (by decide) (by decide)) Kpr.builtin (EvL.cons (Ev.cast (b := lV (pickG ns (some k) none (some 4))) (Ev.sliceStep (nl := some k) (nh := none) (k := 4) (Ev.nm F' 2 rfl rfl) (Ev.nm F' 1 rfl rfl) trivial Ev.int (by decide) (by rw [List.length_map]; omega)) (congrArg V.list (pickV_map ns V.int _ _ _))) EvL.nil) (CallR.sumI (by rw [hA]; exact F.hand))) BinR.add) rfl rfl (by decide) rfl
  show Exs c (lst [(0, .val (lV ns)), (2, .val (.int (wid ns))), (28, .val (.int (fst4 ns))), (29, .val (.int (way2 ns))), (3, .val (lV (drawnOf ns)))]) _ _
  have hdl : (drawnOf ns).length = 4 := by unfold drawnOf; simp
  refine Exs.cons (Ex.to (ρ2 := lst [(0, .val (lV ns)), (2, .val (.int (wid ns))), (28, .val (.int (fst4 ns))), (29, .val (.int (way2 ns))), (4, .val (.list ((leadsOf ns).map V.str)))]) (Ex.drop 3 (Ex.lcU Y.P F.fr 4 [none, none] (φ := V.int) (zs := drawnOf ns) (f := fun x => some (V.str (leadR (x.fmod 192)))) (noOwn_of rfl) (ItE.list (Ev.nm F.fr 3 rfl rfl)) ?_ (fun c' F' hA x hx => ?_) rfl rfl (by decide +kernel) (by decide +kernel) (by decide +kernel) rfl (by decide +kernel) (fun _ _ => rfl))) ?_) ?_
  · exact Nat.le_trans (List.length_filterMap_le _ _) (by omega)
  · exact Turn1.s F' 1 (noOwn_pick _) (Ev.call (Glo.t Y.P F' 16 (by decide +kernel) Y.n16 (by decide) (by decide)) Y.f16.kpr (EvL.cons (Ev.nm F' 1 rfl rfl) EvL.nil) (law_lead Y.P Y.f16 (by rw [hA]; exact F.hand) (by rw [hA, F.depth]; omega) x)) rfl rfl (by decide) rfl
  · rw [fm_some]
    have : (drawnOf ns).map (fun x => V.str (leadR (x.fmod 192))) = (leadsOf ns).map V.str := by unfold leadsOf; rw [List.map_map]; rfl
    rw [this]; rfl
  refine Exs.cons (Ex.stC F.fr 27 (Ev.cast (b := .list (LL ((leadsOf ns).map colsOf))) (Ev.lc Y.P F.fr [none, none] (φ := V.str) (zs := leadsOf ns) (f := fun x => some (lV (colsOf x))) (ItE.list (Ev.nm F.fr 4 rfl rfl)) ?_ (fun c' F' hA x hx => ?_) (by decide +kernel) (by decide +kernel) rfl (by decide +kernel) (fun _ _ => rfl)) ?_) rfl rfl) ?_
  · exact Nat.le_trans (List.length_filterMap_le _ _) (by omega)
  · exact Turn1.s F' 1 (noOwn_pick _) (Ev.call (Glo.t Y.P F' 17 (by decide +kernel) Y.n17 (by decide) (by decide)) Y.f17.kpr (EvL.cons (Ev.nm F' 1 rfl rfl) EvL.nil) (law_columns Y.P Y.f17 (by rw [hA]; exact F.hand) (by rw [hA, F.depth]; omega) x)) rfl rfl (by decide) rfl
  · rw [fm_some, LL_eq, List.map_map]; rfl
  obtain ⟨fi, Mi⟩ := Y.i14
  obtain ⟨fl, Ml⟩ := Y.m14i
  have ok5 : ∀ x ∈ leadsOf ns, x.cps.size ≤ 20 ∧ (wl x).cnt.length ≤ 100 ∧ 0 ≤ (wl x).b ∧ (wl x).b ≤ 100 ∧ [1, 2, 3, 4].map (ilOf (wl x)) = colsOf x := fun x hx => by
    have := hok x hx
    unfold leadOk at this
    simp only [Bool.and_eq_true, decide_eq_true_eq, beq_iff_eq] at this
    obtain ⟨⟨⟨⟨a, b⟩, c⟩, d⟩, e⟩ := this
    exact ⟨a, b, c, d, e⟩
  have addx : ∀ x : Str, (x ++ ("x\t " : Str)).cps.size = x.cps.size + 3 := fun x => Str.length_append ..
  refine Exs.cons (Ex.to (ρ2 := lst [(0, .val (lV ns)), (2, .val (.int (wid ns))), (28, .val (.int (fst4 ns))), (29, .val (.int (way2 ns))), (27, .val (.list (LL ((leadsOf ns).map colsOf)))), (5, .val (wsLV (Y.P.adr 14) (leadsOf ns)))]) (Ex.drop 4 (Ex.stC F.fr 5 (Ev.cast (b := wsLV (Y.P.adr 14) (leadsOf ns)) (Ev.lc Y.P F.fr [none, none] (φ := V.str) (zs := leadsOf ns) (f := fun x => some (wsV (Y.P.adr 14) (wl x))) (ItE.list (Ev.nm F.fr 4 rfl rfl)) ?_ (fun c' F' hA x hx => ?_) (by decide +kernel) (by decide +kernel) rfl (by decide +kernel) (fun _ _ => rfl)) ?_) rfl rfl)) rfl) ?_
  · exact Nat.le_trans (List.length_filterMap_le _ _) (by omega)
  · exact Turn1.s F' 1 (noOwn_pick _) (Ev.call (Glo.t Y.P F' 14 (by decide +kernel) Y.n14 (by decide) (by decide)) (Kpr.cls Y.X Y.k14) (EvL.cons (Ev.bin (Ev.nm F' 1 rfl rfl) Ev.str (BinR.addStr (by
      have h1 := (ok5 x hx).1
      have h2 : x.length = x.cps.size := rfl
      have h3 : ("x\t " : Str).length = 3 := by decide
      rw [sizeLine_eq, h2, h3]; omega))) EvL.nil) (make_whitespace Y.P Y.X Y.c14 Mi Y.n14 (by rw [hA]; exact F.hand) (by rw [hA, F.depth]; omega) (x ++ "x\t ") (by rw [addx]; have := (ok5 x hx).1; omega))) rfl rfl (by decide) rfl
  · rw [fm_some]; rfl
  have inner : ∀ k ∈ ([0, 1, 2, 3] : List Int), ([1, 2, 3, 4] : List Int).map (ilOf (wl ((leadsOf ns).getD k.toNat ""))) = ((leadsOf ns).map colsOf).getD k.toNat [] := fun k hk => by
    have h2 : k.toNat < (leadsOf ns).length := by rw [ll]; exact (mem4 hk).2.2
    have e1 : ((leadsOf ns).map colsOf).getD k.toNat [] = colsOf ((leadsOf ns).getD k.toNat "") := by
      rw [List.getD_eq_getElem?_getD, List.getElem?_map, getD_of (d := ("" : Str)) h2]; rfl
    rw [e1]
    exact (ok5 _ (getD_mem' h2)).2.2.2.2
  refine Exs.cons (Ex.to (ρ2 := st1 Y ns) (Ex.lcU Y.P F.fr 6 [none, none, some 5] (φ := V.int) (zs := [0, 1, 2, 3]) (f := fun k => some (lV (((leadsOf ns).map colsOf).getD k.toNat [] ++ [k]))) (noOwn_of rfl) (ItE.call (Glo.b Y.P F.fr (by decide +kernel) (by simp) (v := .type "range") (by decide +kernel) (by decide) (by decide)) Kpr.type (EvL.cons Ev.int EvL.nil) (IterR.range1 F.hand (by decide) (by decide))) (by simp) (fun c' F' hA k hk => ?_) rfl rfl (by decide +kernel) (by decide +kernel) (by decide +kernel) rfl (by decide +kernel) (fun _ _ => rfl)) ?_) ?_
  · obtain ⟨k1, k2, k3⟩ := mem4 hk
    have h2 : k.toNat < (leadsOf ns).length := by rw [ll]; exact k3
    have ok := ok5 _ (getD_mem' (d := ("" : Str)) h2)
    refine Turn1.s F' 1 (noOwn_pick _) (Ev.cast (b := lV (((leadsOf ns).map colsOf).getD k.toNat [] ++ [k])) (Ev.bin (Ev.cast (b := lV (((leadsOf ns).map colsOf).getD k.toNat [])) (Ev.lc Y.P F' [none, none, some 1, some 2] (φ := V.int) (zs := [1, 2, 3, 4]) (f := fun z => some (V.int (ilOf (wl ((leadsOf ns).getD k.toNat "")) z))) (ItE.call (Glo.b Y.P F' (by decide +kernel) (by simp) (v := .type "range") (by decide +kernel) (by decide) (by decide)) Kpr.type (EvL.cons Ev.int (EvL.cons Ev.int EvL.nil)) (IterR.range2 (by rw [hA]; exact F.hand) (by decide) (by decide) (by decide) (by decide))) (by simp) (fun c2 F2 hA2 z hz => ?_) (by decide +kernel) (by decide +kernel) rfl (by decide +kernel) (fun _ _ => rfl)) ?_) (Ev.list (EvL.cons (Ev.nm F' 1 rfl rfl) EvL.nil)) (BinR.addList ?_)) ?_) rfl rfl (by decide) rfl
    · have hz' : 1 ≤ z ∧ z ≤ 4 := by simp at hz; omega
      exact Turn1.s F2 1 (noOwn_pick _) (Ev.meth Y.X Y.c14.cls (Ev.item (EvD.list (Ev.nm F2 3 rfl rfl)) (Ev.nm F2 2 rfl rfl) k1 k2 (getL4 ll "" hk)) (nm_indent _) Ml.find Ml.typ Ml.fn.kpr (EvL.cons (Ev.nm F2 1 rfl rfl) EvL.nil) (ws_indent Y.P Y.X Y.c14.toWsK Ml (by rw [hA2, hA]; exact F.hand) (by rw [hA2, hA, F.depth]; omega) _ z ok.2.1 hz'.1 (by omega)) (fun _ _ => rfl) (fun _ => ⟨_, rfl⟩)) rfl rfl (by decide) rfl
    · rw [← inner k hk, fm_some]; rfl
    · rw [← inner k hk]; simp [sizeLine_eq]
    · simp [lV]
  · rw [fm_some]; rfl
  refine Exs.cons (Ex.if (b := false) (Tst.cast (Tst.cmp (Ev.nm F.fr 6 rfl rfl) (Ev.cast (b := .list (LL (rowsOf ((leadsOf ns).map colsOf)))) (Ev.lc Y.P F.fr [none, none, some 27] (φ := V.int) (zs := [0, 1, 2, 3]) (f := fun k => some (lV (((leadsOf ns).map colsOf).getD k.toNat [] ++ [k]))) (ItE.call (Glo.b Y.P F.fr (by decide +kernel) (by simp) (v := .type "range") (by decide +kernel) (by decide) (by decide)) Kpr.type (EvL.cons Ev.int EvL.nil) (IterR.range1 F.hand (by decide) (by decide))) (by simp) (fun c' F' hA k hk => ?_) (by decide +kernel) (by decide +kernel) rfl (by decide +kernel) (fun _ _ => rfl)) ?_) (CmpR.neLL (by rw [F.units]; omega))) (by simp)) (fun e => by cases e) (fun _ => Exs.nil)) t
  · obtain ⟨k1, k2, k3⟩ := mem4 hk
    exact Turn1.s F' 1 (noOwn_pick _) (Ev.cast (b := lV (((leadsOf ns).map colsOf).getD k.toNat [] ++ [k])) (Ev.bin (Ev.item (EvD.list (Ev.nm F' 2 rfl rfl)) (Ev.nm F' 1 rfl rfl) k1 k2 (getL4 lc [] hk)) (Ev.list (EvL.cons (Ev.nm F' 1 rfl rfl) EvL.nil)) (BinR.addList (by rw [← inner k hk]; simp [sizeLine_eq]))) (by simp [lV])) rfl rfl (by decide) rfl
  · rw [fm_some]; rfl
end Mine
/-! PJ17 -/
set_option maxRecDepth 10000
namespace Mine
variable {D : Wd} {A : Around} {K : Frag}

theorem CallV.defE (P : PG D) {ps : Arguments} {body : Expr} {sc : Scope} {clos : List (Str × Addr)} {q : Str} (ns : List Str) (vs : List V) (pn : List Str) {as : List V} {a : V} (idxs : List (Option Nat)) (is : List Nat) (hh : A.handled = none) (hroom : A.depth < recursionLimit) (hl : pn.length = as.length) (hns : ns.length = vs.length)
    (hbind : ∀ fd : FuncData, fd.params = ps → fd.defaults = .none → fd.kwdefaults = .none → ∀ vs : List Value, vs.length = pn.length → bindArgs fd ⟨vs, []⟩ = pure (pn.zip vs))
    (hb : ∀ c : Cx D, FnC c A sc.names clos → Ev c (setAll is as (extAt idxs vs)) body a)
    (hi : (pn.map fun x => (nkN sc.names).idxOf x) = is) (hx : extIdx ns sc.names = idxs) (hf : sc.names.all (fun p => p.2 != .free || ns.contains p.1) = true)
    (ho : okNames sc.names = true) (hp : okBinds sc.names pn = true) (hk : sc.kind = .function)
    (hco : sc.isCoroutine = false) (hgen : sc.isGenerator = false) : CallV D A (.fn ps (.expr body) sc clos q) clos (ns.zip vs) as a :=
  CallV.ofE P.gd hh hroom hl hbind (fun c F => by rw [bindRo_all, hi, extRo_at hx hns hf]; exact hb c F) ho hp hk (fun x hx => by
    rw [lookup_zip hns]
    have := List.all_eq_true.mp hf _ hx
    rw [if_pos (by simpa using this)]
    have hm : x ∈ ns := by simpa using this
    have hlt : ns.idxOf x < vs.length := by rw [← hns]; exact List.idxOf_lt_length_of_mem hm
    exact ⟨vs[ns.idxOf x], List.getElem?_eq_getElem hlt⟩) hco hgen

noncomputable def whT : Stmt → Expr
  | .While t _ _ _ => t
  | _ => .Constant .none 0 ⟨0, 0, 0, 0⟩
noncomputable def whB : Stmt → List Stmt
  | .While _ b _ _ => b
  | _ => []
noncomputable def pass0 : Stmt := .Pass ⟨0, 0, 0, 0⟩
noncomputable def lamOf : Stmt → Expr
  | .If (.Compare _ _ [.Call _ _ [⟨_, l, _⟩] _] _) _ _ _ => l
  | _ => .Constant .none 0 ⟨0, 0, 0, 0⟩
noncomputable def lamPos : Pos := (lamOf ((bd 21).getD 13 pass0)).pos

/-! the order -/
noncomputable def selOf (fi wy : Int) : List (Int × Int) := [(fi, 1), (4, wy)]
noncomputable def ltO (rows : List (List Int)) (fi wy a p : Int) : Bool := decide ((cmpO (selOf fi wy) (rows.getD a.toNat []) (rows.getD p.toNat [])).getD 0 < 0)
noncomputable def spotOf (q : Int → Bool) : List Int → Nat
  | [] => 0
  | a :: r => if q a = true then spotOf q r + 1 else 0
noncomputable def insO (q : Int → Int → Bool) (ord : List Int) (p : Int) : List Int := ord.take (spotOf (q · p) ord) ++ p :: ord.drop (spotOf (q · p) ord)
noncomputable def ordO (q : Int → Int → Bool) : List Int := [0, 1, 2, 3].foldl (insO q) []
theorem spotOf_le (q : Int → Bool) : ∀ l : List Int, spotOf q l ≤ l.length
  | [] => Nat.le_refl _
  | a :: r => by
    unfold spotOf
    split
    · have := spotOf_le q r; simp; omega
    · exact Nat.zero_le _
theorem insO_len (q : Int → Int → Bool) (ord : List Int) (p : Int) : (insO q ord p).length = ord.length + 1 := by
  have := spotOf_le (q · p) ord
  unfold insO; simp; omega
theorem insO_mem {q : Int → Int → Bool} {ord : List Int} {p x : Int} (h : x ∈ insO q ord p) : x = p ∨ x ∈ ord := by
  unfold insO at h
  rcases List.mem_append.mp h with h | h
  · exact .inr (List.mem_of_mem_take h)
  · rcases List.mem_cons.mp h with rfl | h
    · exact .inl rfl
    · exact .inr (List.mem_of_mem_drop h)

noncomputable def keysOf (cols : List (List Int)) (fi wy : Int) : List (Int × Int) := [0, 1, 2, 3].map fun k : Int => ((cols.getD k.toNat []).getD fi.toNat 0, wy * k)

noncomputable def lpS (Y : Lw D K) (ns : List Int) (a9 a10 : Option Slot) (ord : List Int) : Ro :=
  [some (.val (lV ns)), none, some (.val (.int (wid ns))), none, none, some (.val (wsLV (Y.P.adr 14) (leadsOf ns))), some (.val (.list (LL (rowsOf ((leadsOf ns).map colsOf))))), some (.val (tcV (Y.P.adr 9) (selV (selOf (fst4 ns) (way2 ns))))), some (.own (lV ord)), a9, a10,
   none, none, none, none, none, none, none, none, none, none, none, none, none, none, none, none, some (.val (.list (LL ((leadsOf ns).map colsOf)))), some (.val (.int (fst4 ns))), some (.val (.int (way2 ns)))]

theorem rows_len {L : List (List Int)} (hL : L.length = 4) (h4 : ∀ l ∈ L, l.length = 4) : ∀ k ∈ ([0, 1, 2, 3] : List Int), ((rowsOf L).getD k.toNat []).length = 5 := fun k hk => by
  obtain ⟨k1, k2, k3⟩ := mem4 hk
  have h2 : k.toNat < L.length := by omega
  have : (rowsOf L).getD k.toNat [] = L.getD k.toNat [] ++ [k] := by
    unfold rowsOf
    simp at hk
    rcases hk with rfl | rfl | rfl | rfl <;> rfl
  rw [this, List.length_append, h4 _ (getD_mem' h2)]; rfl
theorem cols_len4 (x : Str) : (colsOf x).length = 4 := by unfold colsOf; simp
theorem fst4_lt (ns : List Int) : 0 ≤ fst4 ns ∧ fst4 ns < 4 := fmod_bound _ (by decide)
theorem way2_or (ns : List Int) : way2 ns = 1 ∨ way2 ns = -1 := by
  unfold way2
  have := fmod_bound (ns.sum.fdiv 4) (m := 2) (by decide)
  omega

theorem ord_while (Y : Lw D K) {c : Cx D} (F : Fn c A (sc 21).names) (hd : A.depth + 400 < recursionLimit) (ns ord : List Int) (p : Int) (hp : p ∈ ([0, 1, 2, 3] : List Int)) (ho : ∀ x ∈ ord, x ∈ ([0, 1, 2, 3] : List Int)) (hol : ord.length ≤ 4) :
    ∀ (m spot : Nat), spot + m = ord.length → WhileC c (whT ((forB ((bd 21).getD 12 pass0)).getD 1 pass0)) (whB ((forB ((bd 21).getD 12 pass0)).getD 1 pass0)) (m + 1) (lpS Y ns (some (.val (.int p))) (some (.val (.int spot))) ord)
      (.next (lpS Y ns (some (.val (.int p))) (some (.val (.int ((spot + spotOf (ltO (rowsOf ((leadsOf ns).map colsOf)) (fst4 ns) (way2 ns) · p) (ord.drop spot) : Nat) : Int)))) ord)) := by
  obtain ⟨fc, Mc⟩ := Y.m9
  have ll : (leadsOf ns).length = 4 := by unfold leadsOf drawnOf; simp
  have lc : ((leadsOf ns).map colsOf).length = 4 := by rw [List.length_map]; exact ll
  have rl := rows_len lc (fun l hl => by obtain ⟨x, _, rfl⟩ := List.mem_map.mp hl; exact cols_len4 x)
  have rlen : (rowsOf ((leadsOf ns).map colsOf)).length = 4 := by unfold rowsOf; simp
  have hf := fst4_lt ns
  have sel_ok : ∀ a ∈ ([0, 1, 2, 3] : List Int), ∀ q ∈ selOf (fst4 ns) (way2 ns), 0 ≤ q.1 ∧ q.1 < ((rowsOf ((leadsOf ns).map colsOf)).getD a.toNat []).length ∧ q.1 < ((rowsOf ((leadsOf ns).map colsOf)).getD p.toNat []).length ∧ q.1 < 1000 := fun a ha q hq => by
    rw [rl a ha, rl p hp]
    unfold selOf at hq
    simp only [List.mem_cons, List.not_mem_nil, or_false] at hq
    rcases hq with rfl | rfl
    · exact ⟨hf.1, by show fst4 ns < 5; omega, by show fst4 ns < 5; omega, by show fst4 ns < 1000; omega⟩
    · exact ⟨by show (0 : Int) ≤ 4; decide, by show (4 : Int) < 5; decide, by show (4 : Int) < 5; decide, by show (4 : Int) < 1000; decide⟩
  intro m
  induction m with
  | zero =>
    intro spot hs
    have : ord.drop spot = [] := List.drop_eq_nil_of_le (by omega)
    rw [this]
    refine ⟨false, Tst.cast (Tst.and2 (b₁ := false) (b₂ := false) (Tst.cast (Tst.cmp (Ev.nm F.fr 10 rfl rfl) (Ev.lenD (Glo.b Y.P F.fr (by decide +kernel) (by simp) (v := .builtin "len") (by decide +kernel) (by decide) (by decide)) (EvD.nm F.fr 8 rfl rfl (sole_of rfl)) (by rw [List.length_map]; omega)) CmpR.lt) (by rw [List.length_map]; exact decide_eq_false (by omega))) (fun e => by cases e)) rfl, fun _ => ?_, fun e => by cases e⟩
    simp [spotOf]
  | succ m ih =>
    intro spot hs
    have hlt : spot < ord.length := by omega
    have hdr : ord.drop spot = ord.getD spot 0 :: ord.drop (spot + 1) := by
      rw [List.drop_eq_getElem_cons hlt, List.getD_eq_getElem?_getD, List.getElem?_eq_getElem hlt]; rfl
    have ha : ord.getD spot 0 ∈ ([0, 1, 2, 3] : List Int) := ho _ (getD_mem' hlt)
    have hmem := mem4 ha
    have hmemp := mem4 hp
    have hT : Tst c (lpS Y ns (some (.val (.int p))) (some (.val (.int spot))) ord) (whT ((forB ((bd 21).getD 12 pass0)).getD 1 pass0)) (ltO (rowsOf ((leadsOf ns).map colsOf)) (fst4 ns) (way2 ns) (ord.getD spot 0) p) := by
      refine Tst.cast (b := true && ltO (rowsOf ((leadsOf ns).map colsOf)) (fst4 ns) (way2 ns) (ord.getD spot 0) p) (Tst.and2 (b₁ := true) ?_ (fun _ => ?_)) (Bool.true_and _)
      · exact Tst.cast (Tst.cmp (Ev.nm F.fr 10 rfl rfl) (Ev.lenD (Glo.b Y.P F.fr (by decide +kernel) (by simp) (v := .builtin "len") (by decide +kernel) (by decide) (by decide)) (EvD.nm F.fr 8 rfl rfl (sole_of rfl)) (by rw [List.length_map]; omega)) CmpR.lt) (by rw [List.length_map]; exact decide_eq_true (by omega))
      · refine Tst.cmp (a := .int ((cmpO (selOf (fst4 ns) (way2 ns)) ((rowsOf ((leadsOf ns).map colsOf)).getD (ord.getD spot 0).toNat []) ((rowsOf ((leadsOf ns).map colsOf)).getD p.toNat [])).getD 0)) (b := .int 0) (z := ltO (rowsOf ((leadsOf ns).map colsOf)) (fst4 ns) (way2 ns) (ord.getD spot 0) p) ?_ Ev.int CmpR.lt
        refine Ev.meth Y.X Y.c9 (Ev.nm F.fr 7 rfl rfl) (by show Str.ofString "compare" ∉ (["comp_select_list"] : List Str); decide) Mc.find Mc.typ Mc.fn.kpr (EvL.cons (a := lV ((rowsOf ((leadsOf ns).map colsOf)).getD (ord.getD spot 0).toNat [])) ?_ (EvL.cons (a := lV ((rowsOf ((leadsOf ns).map colsOf)).getD p.toNat [])) ?_ EvL.nil)) (tc_compare Y.P Y.X Y.c9 Mc Y.a9 F.hand (by rw [F.depth]; omega) (selOf (fst4 ns) (way2 ns)) _ _ (sel_ok _ ha)) (fun _ _ => rfl) (fun _ => ⟨_, rfl⟩)
        · refine Ev.item (n := ord.getD spot 0) (EvD.list (Ev.nm F.fr 6 rfl rfl)) (Ev.item (n := (spot : Int)) (EvD.nm F.fr 8 rfl rfl (sole_of rfl)) (Ev.nm F.fr 10 rfl rfl) (by omega) (by omega) ?_) hmem.1 hmem.2.1 (getL4 rlen [] ha)
          rw [List.getElem?_map, Int.toNat_natCast, getD_of (d := 0) hlt]; rfl
        · exact Ev.item (EvD.list (Ev.nm F.fr 6 rfl rfl)) (Ev.nm F.fr 9 rfl rfl) hmemp.1 hmemp.2.1 (getL4 rlen [] hp)
    refine ⟨_, hT, fun e => ?_, fun e => ?_⟩
    · rw [hdr]
      unfold spotOf
      rw [if_neg (by rw [e]; decide)]; rfl
    · refine ⟨.next (lpS Y ns (some (.val (.int p))) (some (.val (.int ((spot + 1 : Nat) : Int)))) ord), ?_, ?_⟩
      · refine Exs.cons ?_ Exs.nil
        refine Ex.to (ρ' := (lpS Y ns (some (.val (.int p))) (some (.val (.int spot))) ord).set 10 (some (.val (.int ((spot + 1 : Nat) : Int))))) ?_ rfl
        refine Ex.st F.fr 10 ?_ rfl rfl (by decide) (fun _ _ _ => rfl)
        refine Ev.cast (a := .int ((spot : Int) + 1)) ?_ (by rw [Int.natCast_add]; rfl)
        refine Ev.bin (a := .int (spot : Int)) (b := .int 1) ?_ Ev.int BinR.add
        exact Ev.nm F.fr 10 rfl rfl
      have := ih (spot + 1) (by omega)
      rw [hdr]
      unfold spotOf
      rw [if_pos e, show spot + (spotOf (fun x => ltO (rowsOf ((leadsOf ns).map colsOf)) (fst4 ns) (way2 ns) x p) (ord.drop (spot + 1)) + 1) = spot + 1 + spotOf (fun x => ltO (rowsOf ((leadsOf ns).map colsOf)) (fst4 ns) (way2 ns) x p) (ord.drop (spot + 1)) by omega]
      exact this
end Mine
/-! PJ18 -/
set_option maxRecDepth 10000
namespace Mine
variable {D : Wd} {A : Around} {K : Frag}

theorem Exs.weak {c : Cx D} {ρ ρ' : Ro} {ss : List Stmt} {o : Out} (h : Sub ρ' ρ) (t : Exs c ρ' ss o) : Exs c ρ ss o := .mk fun G s E S => t.run G s E (S.forget h)
theorem Sub.none {ρ : Ro} (i : Nat) : Sub (ρ.set i none) ρ := fun j sl q => by
  rw [List.getElem?_set] at q
  split at q
  · split at q <;> cases q
  · exact q
theorem Exs.less {c : Cx D} {ρ : Ro} {ss : List Stmt} {o : Out} : ∀ (is : List Nat), Exs c (is.foldl (fun ρ i => ρ.set i none) ρ) ss o → Exs c ρ ss o
  | is, t => by
    refine Exs.weak ?_ t
    clear t
    induction is generalizing ρ with
    | nil => exact Sub.refl
    | cons i is ih => exact Sub.trans ih (Sub.none i)

noncomputable def lamScope : Scope := match lamOf ((bd 21).getD 13 pass0) with | .Lambda _ _ s _ => s | _ => default
noncomputable def lamArgs : Arguments := match lamOf ((bd 21).getD 13 pass0) with | .Lambda a _ _ _ => a | _ => { posonlyargs := [], args := [], vararg := none, kwonlyargs := [], kw_defaults := [], kwarg := none, defaults := [] }
noncomputable def lamBody : Expr := match lamOf ((bd 21).getD 13 pass0) with | .Lambda _ b _ _ => b | _ => .Constant .none 0 ⟨0, 0, 0, 0⟩
noncomputable def sst2 (Y : Lw D K) (ns ord : List Int) : Ro :=
  [some (.val (lV ns)), none, some (.val (.int (wid ns))), none, none, some (.val (wsLV (Y.P.adr 14) (leadsOf ns))), none, none, some (.val (lV ord)), none, none,
   none, none, none, none, none, none, none, none, none, none, none, none, none, none, none, none, some (.val (.list (LL ((leadsOf ns).map colsOf)))), none, none]

theorem ordI (q : Int → Int → Bool) (ord : List Int) (p : Int) (r : List Int) (h : ord.length + (p :: r).length = 4 ∧ ∀ x ∈ ord, x ∈ ([0, 1, 2, 3] : List Int)) (hp : p ∈ ([0, 1, 2, 3] : List Int)) : (insO q ord p).length + r.length = 4 ∧ ∀ x ∈ insO q ord p, x ∈ ([0, 1, 2, 3] : List Int) := by
  refine ⟨by rw [insO_len]; have := h.1; simp at this; omega, fun x hx => ?_⟩
  rcases insO_mem hx with rfl | hx
  · exact hp
  · exact h.2 x hx

theorem law_p2 (Y : Lw D K) {c : Cx D} (F : Fn c A (sc 21).names) (hu : A.units + 100 < cLine) (hd : A.depth + 400 < recursionLimit) (ns : List Int) {cA T : Addr} (hcode : c.env.code = .ref cA) (hqual : c.env.qual = "law" ++ ".<locals>.") (C : CodeHd D.h₀ cA T) (B : D.h₀.BuiltinsAt D.mg T)
    (hti : (T, lamPos, ("law.<locals>.<lambda>" : Str)) ∈ D.ti) (hnd : (D.ti.map (·.1)).Nodup) {p : Array Nat}
    (hp : goT 4 (fun i j => lexLt ((keysOf ((leadsOf ns).map colsOf) (fst4 ns) (way2 ns)).getD i (0, 0)) ((keysOf ((leadsOf ns).map colsOf) (fst4 ns) (way2 ns)).getD j (0, 0))) (kas_sort 4) = some p) (hpn : ∀ i ∈ p.toList, i < 4)
    (hpe : (p.toList.map fun i : Nat => (i : Int)) = ordO (ltO (rowsOf ((leadsOf ns).map colsOf)) (fst4 ns) (way2 ns))) {o : Out}
    (t : Exs c (sst2 Y ns (ordO (ltO (rowsOf ((leadsOf ns).map colsOf)) (fst4 ns) (way2 ns)))) ((bd 21).drop 14) o) : Exs c (st1 Y ns) ((bd 21).drop 10) o := by
  obtain ⟨fI, MI⟩ := Y.i9
  have ll : (leadsOf ns).length = 4 := by unfold leadsOf drawnOf; simp
  have lc : ((leadsOf ns).map colsOf).length = 4 := by rw [List.length_map]; exact ll
  have h4 : ∀ l ∈ (leadsOf ns).map colsOf, l.length = 4 := fun l hl => by obtain ⟨x, _, rfl⟩ := List.mem_map.mp hl; exact cols_len4 x
  have hf := fst4_lt ns
  have hw := way2_or ns
  refine Exs.cons (Ex.st F.fr 7 (a := tcV (Y.P.adr 9) (selV (selOf (fst4 ns) (way2 ns)))) (Ev.call (Glo.t Y.P F.fr 9 (by decide +kernel) Y.n9 (by decide) (by decide)) (Kpr.cls Y.X Y.k9) (EvL.cons (Ev.tup (EvL.cons (Ev.tup (EvL.cons (Ev.nm F.fr 28 rfl rfl) (EvL.cons Ev.int EvL.nil)) (by simp [sizeLine_eq])) (EvL.cons (Ev.tup (EvL.cons Ev.int (EvL.cons (Ev.nm F.fr 29 rfl rfl) EvL.nil)) (by simp [sizeLine_eq])) EvL.nil)) (by simp [sizeLine_eq])) EvL.nil) (make_tuplecomp Y.P Y.X Y.c9 MI Y.t9 F.hand (by rw [F.depth]; omega) _)) rfl rfl (by decide) (fun _ _ _ => rfl)) ?_
  refine Exs.cons (Ex.stO F.fr 8 (EvO.list Y.P.sm EvL.nil) rfl rfl (by decide) (fun _ _ _ => rfl)) ?_
  show Exs c (lpS Y ns none none []) _ _
  generalize hq : ltO (rowsOf ((leadsOf ns).map colsOf)) (fst4 ns) (way2 ns) = q at hpe t
  refine Exs.cons (Ex.forI (insO q) (lpS Y ns none none) (fun r ord => ord.length + r.length = 4 ∧ ∀ x ∈ ord, x ∈ ([0, 1, 2, 3] : List Int)) (xs := [0, 1, 2, 3]) (s := []) (φ := V.int) ⟨rfl, by simp⟩ (ItE.call (Glo.b Y.P F.fr (by decide +kernel) (by simp) (v := .type "range") (by decide +kernel) (by decide) (by decide)) Kpr.type (EvL.cons Ev.int EvL.nil) (IterR.range1 F.hand (by decide) (by decide))) ?_ (fun _ _ => rfl)) ?_
  · intro ord p r hp hI
    refine ⟨ordI q ord p r hI hp, lpS Y ns (some (.val (.int p))) none ord, AsgR.nm F.fr 9 rfl rfl (by decide), ?_⟩
    have hol : ord.length ≤ 3 := by have := hI.1; simp at this; omega
    refine Exs.cast (Exs.drop 10 (Exs.drop 9 (ρ' := lpS Y ns (some (.val (.int p))) (some (.val (.int ((spotOf (q · p) ord : Nat) : Int)))) (insO q ord p)) ?_)) rfl
    refine Exs.cons (Ex.to (ρ2 := lpS Y ns (some (.val (.int p))) (some (.val (.int ((0 : Nat) : Int)))) ord) (Ex.st F.fr 10 Ev.int rfl rfl (by decide) (fun _ _ _ => rfl)) rfl) ?_
    have hw := ord_while Y F hd ns ord p hp hI.2 (by omega) ord.length 0 (by omega)
    rw [hq, Nat.zero_add, List.drop_zero] at hw
    refine Exs.cons (Ex.while _ hw) ?_
    have hs := spotOf_le (fun x => q x p) ord
    refine Exs.cons (Ex.to (Ex.insert (i := 8) (l := ord.map V.int) (n := ((spotOf (fun x => q x p) ord : Nat) : Int)) (a := .int p) (by rw [F.fr.names]; rfl) rfl (sole_of rfl) (EvL.cons (Ev.nm F.fr 10 rfl rfl) (EvL.cons (Ev.nm F.fr 9 rfl rfl) EvL.nil)) (by rw [List.length_map]; omega) (by omega) (by rw [List.length_map]; omega) rfl F.notI) ?_) Exs.nil
    have : (ord.map V.int).take (((spotOf (fun x => q x p) ord : Nat) : Int)).toNat ++ V.int p :: (ord.map V.int).drop (((spotOf (fun x => q x p) ord : Nat) : Int)).toNat = (insO q ord p).map V.int := by
      rw [Int.toNat_natCast]; unfold insO; simp [List.map_take, List.map_drop]
    rw [this]; rfl
  show Exs c (lpS Y ns none none (ordO q)) _ _
  refine Exs.freeze (i := 8) (x := "order") (a := lV (ordO q)) (by rw [F.fr.names]; rfl) rfl (sole_of rfl) ?_
  have hcall : ∀ clos : List (Str × Addr), (∀ x ∈ freeNames (lamScope).names, clos.lookup x = c.env.cells.lookup x) → ∃ xs, ClosOk c ((lpS Y ns none none (ordO q)).set 8 (some (.val (lV (ordO q))))) clos xs ∧
      ∀ (i : Nat) (z : Int × Int), (keysOf ((leadsOf ns).map colsOf) (fst4 ns) (way2 ns))[i]? = some z → CallV D c.A.in1.in1 (.fn lamArgs (.expr lamBody) lamScope clos "law.<locals>.<lambda>") clos xs [.int i] (pairV z) := by
    intro clos hclos
    refine ⟨(["columns", "first", "way"] : List Str).zip [.list (LL ((leadsOf ns).map colsOf)), .int (fst4 ns), .int (way2 ns)], fun p hp => ?_, fun i z hz => ?_⟩
    · have hN := F.fr.names
      have hK := F.fr.kinds
      simp only [List.zip_cons_cons, List.zip_nil_right, List.mem_cons, List.not_mem_nil, or_false] at hp
      rcases hp with rfl | rfl | rfl
      · exact ⟨27, .own, by rw [hN]; rfl, by rw [hK]; rfl, by decide, rfl, hclos "columns" (by decide +kernel)⟩
      · exact ⟨28, .own, by rw [hN]; rfl, by rw [hK]; rfl, by decide, rfl, hclos "first" (by decide +kernel)⟩
      · exact ⟨29, .own, by rw [hN]; rfl, by rw [hK]; rfl, by decide, rfl, hclos "way" (by decide +kernel)⟩
    · have hi4 : (i : Int) ∈ ([0, 1, 2, 3] : List Int) ∧ z = ((((leadsOf ns).map colsOf).getD i []).getD (fst4 ns).toNat 0, way2 ns * (i : Int)) := by
        have hlt : i < 4 := by
          have := (List.getElem?_eq_some_iff.mp hz).1
          unfold keysOf at this; simpa using this
        have : i = 0 ∨ i = 1 ∨ i = 2 ∨ i = 3 := by omega
        rcases this with rfl | rfl | rfl | rfl <;> (cases hz; exact ⟨by simp, rfl⟩)
      obtain ⟨him, rfl⟩ := hi4
      have hmem := mem4 him
      have hil : i < ((leadsOf ns).map colsOf).length := by rw [lc]; have := hmem.2.2; rwa [Int.toNat_natCast] at this
      refine CallV.defE Y.P ["columns", "first", "way"] [.list (LL ((leadsOf ns).map colsOf)), .int (fst4 ns), .int (way2 ns)] ["k"] [none, some 0, some 1, some 2] [0] F.hand (by show c.A.depth < _; rw [F.depth]; omega) rfl rfl ?_ (fun c2 F2 => ?_) (by decide +kernel) (by decide +kernel) (by decide +kernel) (by decide +kernel) (by decide +kernel) rfl rfl rfl
      · intro fd e1 e2 e3 vs hv
        obtain ⟨v, rfl⟩ : ∃ v, vs = [v] := by
          match vs, hv with
          | [v], _ => exact ⟨v, rfl⟩
        obtain ⟨f1, f2, f3, f4, f5, f6, f7, f8, f9, f10, f11, f12, f13, f14, f15⟩ := fd
        simp only at e1 e2 e3
        subst e1 e2 e3
        rfl
      · show Ev c2 [some (.val (.int i)), some (.val (.list (LL ((leadsOf ns).map colsOf)))), some (.val (.int (fst4 ns))), some (.val (.int (way2 ns)))] _ _
        refine Ev.tup (EvL.cons (a := .int ((((leadsOf ns).map colsOf).getD i []).getD (fst4 ns).toNat 0)) ?_ (EvL.cons (a := .int (way2 ns * (i : Int))) ?_ EvL.nil)) (by simp [sizeLine_eq])
        · refine Ev.item (n := fst4 ns) (l := (((leadsOf ns).map colsOf).getD i []).map V.int) (EvD.list (Ev.item (n := (i : Int)) (EvD.list (Ev.nm F2.fn.fr 1 rfl rfl)) (Ev.nm F2.fn.fr 0 rfl rfl) hmem.1 hmem.2.1 (by have := getL4 (φ := lV) lc [] him; rw [Int.toNat_natCast] at this; exact this))) (Ev.nm F2.fn.fr 2 rfl rfl) hf.1 (by omega) ?_
          rw [List.getElem?_map, getD_of (d := 0) (by rw [h4 _ (getD_mem' hil)]; omega)]; rfl
        · refine Ev.bin (Ev.nm F2.fn.fr 3 rfl rfl) (Ev.nm F2.fn.fr 0 rfl rfl) (BinR.mul (IntMulOk.of_right (intBits_small (by omega) (by have := hmem.2.2; omega))))
  refine Exs.cons (Ex.if (b := false) (Tst.cast (Tst.cmp (Ev.nm F.fr 8 rfl rfl) (Ev.sortedRange (n := 4) (x := "sorted") (y := "range") (zs := keysOf ((leadsOf ns).map colsOf) (fst4 ns) (way2 ns)) (p := p) Y.P.gd Y.P.sm F.hand (Glo.b Y.P F.fr (by decide +kernel) (by simp) (by decide +kernel) (by decide) (by decide)) (Glo.b Y.P F.fr (by decide +kernel) (by simp) (by decide +kernel) (by decide) (by decide)) (EvL.cons Ev.int EvL.nil)
    hti hnd hcode C B (by rw [F.fr.names, F.fr.kinds]; decide +kernel) (by rw [hqual]; decide +kernel) rfl rfl (by decide) (by decide) hp hpn hcall) (CmpR.neInts (by rw [F.units]; omega))) (by rw [hpe]; simp)) (fun e => by cases e) (fun _ => Exs.nil)) ?_
  refine Exs.less [6, 7, 28, 29] t
end Mine
/-! PJ19 -/
set_option maxRecDepth 10000
namespace Mine
variable {D : Wd} {A : Around} {K : Frag}

noncomputable abbrev I4 : List Int := [0, 1, 2, 3]
noncomputable def strict (xs ys : List Int) : Bool := (I4.filter fun n => decide (ys.getD n.toNat 0 ≤ xs.getD n.toNat 0)) == []
noncomputable def seenOf (cols : List (List Int)) (ord : List Int) : List (List Int) := ord.map fun k => cols.getD k.toNat []
noncomputable def belowOf (seen : List (List Int)) : List (List Int) := I4.map fun e => I4.filter fun j => strict (seen.getD j.toNat []) (seen.getD e.toNat [])
noncomputable def needOf (bs : List (List Int)) : List Int := I4.map fun e : Int => ((bs.getD e.toNat []).map fun j : Int => (2 : Int) ^ j.toNat).sum

theorem bits4 : ∀ b0 b1 b2 b3 : Bool, digVal [if b0 then 1 else 0, if b1 then 1 else 0, if b2 then 1 else 0, if b3 then 1 else 0] 1 = ((I4.filter fun j => [b0, b1, b2, b3].getD j.toNat false).map fun j : Int => (2 : Int) ^ j.toNat).sum := by decide +kernel
theorem bits4' (q : Int → Bool) : digVal (I4.map fun j => if q j then 1 else 0) 1 = ((I4.filter q).map fun j : Int => (2 : Int) ^ j.toNat).sum := by
  have h := bits4 (q 0) (q 1) (q 2) (q 3)
  have e : I4.filter (fun j => [q 0, q 1, q 2, q 3].getD j.toNat false) = I4.filter q := by
    apply List.filter_congr
    intro j hj
    simp at hj
    rcases hj with rfl | rfl | rfl | rfl <;> rfl
  rw [e] at h
  exact h
theorem list4 {α : Type} {l : List α} (h : l.length = 4) : ∃ a b c d, l = [a, b, c, d] := by
  match l, h with
  | [a, b, c, d], _ => exact ⟨a, b, c, d, rfl⟩
theorem need_eq (seen : List (List Int)) (h : seen.length = 4) : (seen.map fun e => digVal (seen.map fun j => if strict j e then 1 else 0) 1) = needOf (belowOf seen) := by
  obtain ⟨a, b, c, d, rfl⟩ := list4 h
  have e : ∀ x : List Int, digVal (([a, b, c, d] : List (List Int)).map fun j => if strict j x then 1 else 0) 1 = ((I4.filter fun j => strict ([a, b, c, d].getD j.toNat []) x).map fun j : Int => (2 : Int) ^ j.toNat).sum := fun x => bits4' fun j => strict ([a, b, c, d].getD j.toNat []) x
  simp only [List.map_cons, List.map_nil] at e ⊢
  rw [e a, e b, e c, e d]; rfl

noncomputable def sst3 (w : Int) (bs : List (List Int)) : Ro :=
  [none, none, some (.val (.int w)), none, none, none, none, none, none, none, none, none, some (.val (.list (LL bs))), some (.val (lV (needOf bs))),
   none, none, none, none, none, none, none, none, none, none, none, none, none, none, none, none]

set_option maxHeartbeats 1000000 in
theorem law_p3 (Y : Lw D K) {c : Cx D} (F : Fn c A (sc 21).names) (hu : A.units + 100 < cLine) (hd : A.depth + 400 < recursionLimit) (ns ord : List Int) (hok : ∀ x ∈ leadsOf ns, leadOk x = true) (hol : ord.length = 4) (ho : ∀ x ∈ ord, x ∈ I4)
    (hless : ∀ x ∈ leadsOf ns, ∀ y ∈ leadsOf ns, lessR (wl x) (wl y) = strict (colsOf x) (colsOf y)) {o : Out}
    (t : Exs c (sst3 (wid ns) (belowOf (seenOf ((leadsOf ns).map colsOf) ord))) ((bd 21).drop 18) o) : Exs c (sst2 Y ns ord) ((bd 21).drop 14) o := by
  obtain ⟨fs, Ms⟩ := Y.m14s
  obtain ⟨fl, Ml⟩ := Y.m14l
  obtain ⟨fi, Mi⟩ := Y.m14i
  have ll : (leadsOf ns).length = 4 := by unfold leadsOf drawnOf; simp
  have lc : ((leadsOf ns).map colsOf).length = 4 := by rw [List.length_map]; exact ll
  have h4 : ∀ l ∈ (leadsOf ns).map colsOf, l.length = 4 := fun l hl => by obtain ⟨x, _, rfl⟩ := List.mem_map.mp hl; exact cols_len4 x
  have ok5 : ∀ x ∈ leadsOf ns, (wl x).cnt.length ≤ 100 ∧ 0 ≤ (wl x).b ∧ (wl x).b ≤ 100 := fun x hx => by
    have := hok x hx
    unfold leadOk at this
    simp only [Bool.and_eq_true, decide_eq_true_eq, beq_iff_eq] at this
    obtain ⟨⟨⟨⟨a, b⟩, c⟩, d⟩, e⟩ := this
    exact ⟨b, c, d⟩
  generalize hcols : (leadsOf ns).map colsOf = cols at *
  generalize hseen : seenOf cols ord = seen at *
  have hsl : seen.length = 4 := by rw [← hseen]; unfold seenOf; rw [List.length_map]; exact hol
  have hs4 : ∀ l ∈ seen, l.length = 4 := fun l hl => by
    rw [← hseen] at hl
    unfold seenOf at hl
    obtain ⟨k, hk, rfl⟩ := List.mem_map.mp hl
    exact h4 _ (getD_mem' (by rw [lc]; exact (mem4 (ho k hk)).2.2))
  show Exs c [some (.val (lV ns)), none, some (.val (.int (wid ns))), none, none, some (.val (wsLV (Y.P.adr 14) (leadsOf ns))), none, none, some (.val (lV ord)), none, none,
   none, none, none, none, none, none, none, none, none, none, none, none, none, none, none, none, some (.val (.list (LL ((leadsOf ns).map colsOf)))), none, none] _ _
  rw [hcols]
  refine Exs.cons (Ex.stC F.fr 11 (Ev.cast (b := .list (LL seen)) (Ev.lc Y.P F.fr [none, none, some 27] (φ := V.int) (zs := ord) (f := fun k => some (lV (cols.getD k.toNat []))) (ItE.list (Ev.nm F.fr 8 rfl rfl)) ?_ (fun c' F' hA k hk => ?_) (by decide +kernel) (by decide +kernel) rfl (by decide +kernel) (fun _ _ => rfl)) ?_) rfl rfl) ?_
  · exact Nat.le_trans (List.length_filterMap_le _ _) (by omega)
  · have hm := mem4 (ho k hk)
    exact Turn1.s F' 1 (noOwn_pick _) (Ev.item (EvD.list (Ev.nm F' 2 rfl rfl)) (Ev.nm F' 1 rfl rfl) hm.1 hm.2.1 (getL4 (φ := lV) lc [] (ho k hk))) rfl rfl (by decide) rfl
  · rw [fm_some, ← hseen, LL_eq]; unfold seenOf; rw [List.map_map]; rfl
  refine Exs.cons (Ex.stC F.fr 12 (Ev.cast (b := .list (LL (belowOf seen))) (Ev.lc Y.P F.fr [none, none, some 11] (φ := V.int) (zs := I4) (f := fun e => some (lV (I4.filter fun j => strict (seen.getD j.toNat []) (seen.getD e.toNat [])))) (ItE.call (Glo.b Y.P F.fr (by decide +kernel) (by simp) (v := .type "range") (by decide +kernel) (by decide) (by decide)) Kpr.type (EvL.cons Ev.int EvL.nil) (IterR.range1 F.hand (by decide) (by decide))) (by simp) (fun c' F' hA e he => ?_) (by decide +kernel) (by decide +kernel) rfl (by decide +kernel) (fun _ _ => rfl)) ?_) rfl rfl) ?_
  · have hme := mem4 he
    refine Turn1.s F' 1 (noOwn_pick _) (Ev.cast (Ev.lc Y.P F' [none, none, some 1, some 2] (φ := V.int) (zs := I4) (f := fun j => if strict (seen.getD j.toNat []) (seen.getD e.toNat []) = true then some (V.int j) else none) (ItE.call (Glo.b Y.P F' (by decide +kernel) (by simp) (v := .type "range") (by decide +kernel) (by decide) (by decide)) Kpr.type (EvL.cons Ev.int EvL.nil) (IterR.range1 (by rw [hA]; exact F.hand) (by decide) (by decide))) (Nat.le_trans (List.length_filterMap_le _ _) (by decide)) (fun c2 F2 hA2 j hj => ?_) (by decide +kernel) (by decide +kernel) rfl (by decide +kernel) (fun _ _ => rfl)) ?_) rfl rfl (by decide) rfl
    · have hmj := mem4 hj
      refine Turn1.t F2 1 (noOwn_pick _) (Tst.cmp (Ev.cast (b := lV (I4.filter fun n => decide ((seen.getD e.toNat []).getD n.toNat 0 ≤ (seen.getD j.toNat []).getD n.toNat 0))) (Ev.lc Y.P F2 [none, none, some 2, some 1, some 3] (φ := V.int) (zs := I4) (f := fun n => if decide ((seen.getD e.toNat []).getD n.toNat 0 ≤ (seen.getD j.toNat []).getD n.toNat 0) = true then some (V.int n) else none) (ItE.call (Glo.b Y.P F2 (by decide +kernel) (by simp) (v := .type "range") (by decide +kernel) (by decide) (by decide)) Kpr.type (EvL.cons Ev.int EvL.nil) (IterR.range1 (by rw [hA2, hA]; exact F.hand) (by decide) (by decide))) (Nat.le_trans (List.length_filterMap_le _ _) (by decide)) (fun c3 F3 hA3 n hn => ?_) (by decide +kernel) (by decide +kernel) rfl (by decide +kernel) (fun _ _ => rfl)) ?_) (Ev.list EvL.nil) (CmpR.eqInts (ms := []) (by rw [hA2, hA, F.units]; omega))) (fun _ => Ev.nm F2 1 rfl rfl) rfl rfl (by decide) rfl
      · have hmn := mem4 hn
        have g : ∀ x ∈ I4, ((seen.getD x.toNat []).map V.int)[n.toNat]? = some (V.int ((seen.getD x.toNat []).getD n.toNat 0)) := fun x hx => getL4 (hs4 _ (getD_mem' (by rw [hsl]; exact (mem4 hx).2.2))) 0 hn
        exact Turn1.t F3 1 (noOwn_pick _) (Tst.cmp (Ev.item (EvD.list (Ev.item (EvD.list (Ev.nm F3 4 rfl rfl)) (Ev.nm F3 3 rfl rfl) hmj.1 hmj.2.1 (getL4 (φ := lV) hsl [] hj))) (Ev.nm F3 1 rfl rfl) hmn.1 hmn.2.1 (g j hj)) (Ev.item (EvD.list (Ev.item (EvD.list (Ev.nm F3 4 rfl rfl)) (Ev.nm F3 2 rfl rfl) hme.1 hme.2.1 (getL4 (φ := lV) hsl [] he))) (Ev.nm F3 1 rfl rfl) hmn.1 hmn.2.1 (g e he)) CmpR.ge) (fun _ => Ev.nm F3 1 rfl rfl) rfl rfl (by decide) rfl
      · rw [fm_if]; rfl
    · rw [fm_if]; rfl
  · rw [fm_some, LL_eq]; unfold belowOf; rw [List.map_map]; rfl
  have hneed : (ord.map fun e => digVal (ord.map fun j => if strict (cols.getD j.toNat []) (cols.getD e.toNat []) then 1 else 0) 1) = needOf (belowOf seen) := by
    rw [← need_eq seen hsl, ← hseen]
    unfold seenOf
    rw [List.map_map]
    apply List.map_congr_left
    intro e _
    simp only [Function.comp_apply, List.map_map]
    rfl
  refine Exs.cons (Ex.to (ρ2 := [some (.val (lV ns)), none, some (.val (.int (wid ns))), none, none, some (.val (wsLV (Y.P.adr 14) (leadsOf ns))), none, none, some (.val (lV ord)), none, none,
   some (.val (.list (LL seen))), some (.val (.list (LL (belowOf seen)))), some (.val (lV (needOf (belowOf seen)))), none, none, none, none, none, none, none, none, none, none, none, none, none, some (.val (.list (LL cols))), none, none]) (Ex.lcU Y.P F.fr 13 [none, none, some 8, some 5] (φ := V.int) (zs := ord) (f := fun e => some (V.int (digVal (ord.map fun j => if strict (cols.getD j.toNat []) (cols.getD e.toNat []) then 1 else 0) 1))) (noOwn_of rfl) (ItE.list (Ev.nm F.fr 8 rfl rfl)) ?_ (fun c' F' hA e he => ?_) rfl rfl (by decide +kernel) (by decide +kernel) (by decide +kernel) rfl (by decide +kernel) (fun _ _ => rfl)) ?_) ?_
  · exact Nat.le_trans (List.length_filterMap_le _ _) (by omega)
  · have hme := mem4 (ho e he)
    have okd : okDig (ord.map fun j => if strict (cols.getD j.toNat []) (cols.getD e.toNat []) then 1 else 0) 1 := by
      have e1 : (ord.map fun j => if strict (cols.getD j.toNat []) (cols.getD e.toNat []) then (1 : Int) else 0) = cI (ord.map fun j => if strict (cols.getD j.toNat []) (cols.getD e.toNat []) then 1 else 0) := by
        unfold cI; rw [List.map_map]
        apply List.map_congr_left
        intro j _
        simp only [Function.comp_apply]
        split <;> rfl
      rw [e1]
      have h1 : ((1 : Nat) : Int) = 1 := rfl
      rw [← h1]
      refine okDig_of 1 _ (by decide) (by rw [List.length_map]; omega) fun d hd => ?_
      obtain ⟨j, _, rfl⟩ := List.mem_map.mp hd
      split <;> decide
    have hcd := digits2int (A := c'.A) Y.P Y.f6 Y.N6 (by rw [hA]; exact F.hand) (by rw [hA, F.depth]; omega) (ord.map fun j => if strict (cols.getD j.toNat []) (cols.getD e.toNat []) then 1 else 0) 1 (by decide) (by rw [List.length_map]; omega) (by exact okd)
    refine Turn1.s F' 1 (noOwn_pick _) ?_ rfl rfl (by decide) rfl
    refine Ev.call (Glo.t Y.P F' 6 (by decide +kernel) Y.n6 (by decide) (by decide)) Y.f6.kpr ?_ hcd
    refine EvL.cons ?_ (EvL.cons Ev.int EvL.nil)
    · refine Ev.cast (Ev.lc Y.P F' [none, none, some 1, some 3] (φ := V.int) (zs := ord) (f := fun j => some (V.int (if strict (cols.getD j.toNat []) (cols.getD e.toNat []) then 1 else 0))) (ItE.list (Ev.nm F' 2 rfl rfl)) (Nat.le_trans (List.length_filterMap_le _ _) (by omega)) (fun c2 F2 hA2 j hj => ?_) (by decide +kernel) (by decide +kernel) rfl (by decide +kernel) (fun _ _ => rfl)) ?_
      · have hmj := mem4 (ho j hj)
        have hlj : j.toNat < (leadsOf ns).length := by rw [ll]; exact hmj.2.2
        have hle : e.toNat < (leadsOf ns).length := by rw [ll]; exact hme.2.2
        have cj : cols.getD j.toNat [] = colsOf ((leadsOf ns).getD j.toNat ("" : Str)) := by rw [← hcols, List.getD_eq_getElem?_getD, List.getElem?_map, getD_of (d := ("" : Str)) hlj]; rfl
        have ce : cols.getD e.toNat [] = colsOf ((leadsOf ns).getD e.toNat ("" : Str)) := by rw [← hcols, List.getD_eq_getElem?_getD, List.getElem?_map, getD_of (d := ("" : Str)) hle]; rfl
        have mj := getD_mem' (d := ("" : Str)) hlj
        have me := getD_mem' (d := ("" : Str)) hle
        have hls : lessR (wl ((leadsOf ns).getD j.toNat ("" : Str))) (wl ((leadsOf ns).getD e.toNat ("" : Str))) = strict (cols.getD j.toNat []) (cols.getD e.toNat []) := by rw [cj, ce]; exact hless _ mj _ me
        have okj := ok5 _ mj
        have oke := ok5 _ me
        refine Turn1.s F2 1 (noOwn_pick _) (Ev.cast (Ev.ite (b := strict (cols.getD j.toNat []) (cols.getD e.toNat [])) (a₁ := .int 1) (a₂ := .int 0) (Tst.ofBool ?_) (fun _ => Ev.int) (fun _ => Ev.int)) (by cases strict (cols.getD j.toNat []) (cols.getD e.toNat []) <;> rfl)) rfl rfl (by decide) rfl
        rw [← hls]
        exact Ev.meth Y.X Y.c14.cls (Ev.item (EvD.list (Ev.nm F2 3 rfl rfl)) (Ev.nm F2 1 rfl rfl) hmj.1 hmj.2.1 (getL4 ll "" (ho j hj))) (by show Str.ofString "less" ∉ (["is_simple", "norm", "nt", "n", "raw"] : List Str); decide) Ms.find Ms.typ Ms.fn.kpr (EvL.cons (Ev.item (EvD.list (Ev.nm F2 3 rfl rfl)) (Ev.nm F2 2 rfl rfl) hme.1 hme.2.1 (getL4 ll "" (ho e he))) EvL.nil) (ws_less Y.P Y.X Y.c14.toWsK Ms Ml Mi (by rw [hA2, hA]; exact F.hand) (by rw [hA2, hA, F.depth]; omega) _ _ okj.1 oke.1 okj.2 oke.2) (fun _ _ => rfl) (fun _ => ⟨_, rfl⟩)
      · rw [fm_some]; simp [lV]
  · have e0 : (ord.filterMap fun e => some (V.int (digVal (ord.map fun j => if strict (cols.getD j.toNat []) (cols.getD e.toNat []) then 1 else 0) 1))) = (needOf (belowOf seen)).map V.int := by
      rw [← hneed, fm_some, List.map_map]; rfl
    rw [e0]; rfl
  have bl : (belowOf seen).length = 4 := by unfold belowOf; simp
  refine Exs.cons (Ex.if (b := false) (Tst.cast (Tst.cmp (Ev.nm F.fr 13 rfl rfl) (Ev.cast (b := lV (needOf (belowOf seen))) (Ev.lc Y.P F.fr [none, none, some 12] (φ := V.int) (zs := I4) (f := fun e => some (V.int ((((belowOf seen).getD e.toNat []).map fun j : Int => (2 : Int) ^ j.toNat).sum))) (ItE.call (Glo.b Y.P F.fr (by decide +kernel) (by simp) (v := .type "range") (by decide +kernel) (by decide) (by decide)) Kpr.type (EvL.cons Ev.int EvL.nil) (IterR.range1 F.hand (by decide) (by decide))) (by simp) (fun c' F' hA e he => ?_) (by decide +kernel) (by decide +kernel) rfl (by decide +kernel) (fun _ _ => rfl)) ?_) (CmpR.neInts (by rw [F.units]; omega))) (by simp)) (fun e => by cases e) (fun _ => Exs.nil)) (Exs.less [0, 5, 8, 11, 27] t)
  · have hme := mem4 he
    have hb := getD_mem' (d := ([] : List Int)) (by rw [bl]; exact hme.2.2 : e.toNat < (belowOf seen).length)
    have hb2 : ∀ b ∈ belowOf seen, b.length ≤ 4 ∧ ∀ j ∈ b, j ∈ I4 := fun b hb => by
      unfold belowOf at hb
      obtain ⟨e, _, rfl⟩ := List.mem_map.mp hb
      exact ⟨List.length_filter_le _ I4, fun j hj => (List.mem_filter.mp hj).1⟩
    refine Turn1.s F' 1 (noOwn_pick _) (Ev.call (Glo.b Y.P F' (by decide +kernel) (by simp) (v := .builtin "sum") (by decide +kernel) (by decide) (by decide)) Kpr.builtin (EvL.cons (a := lV (((belowOf seen).getD e.toNat []).map fun j : Int => (2 : Int) ^ j.toNat)) (Ev.cast (Ev.lc Y.P F' [none, none] (φ := V.int) (zs := (belowOf seen).getD e.toNat []) (f := fun j => some (V.int ((2 : Int) ^ j.toNat))) (ItE.list (Ev.item (EvD.list (Ev.nm F' 2 rfl rfl)) (Ev.nm F' 1 rfl rfl) hme.1 hme.2.1 (getL4 (φ := lV) bl [] he))) (Nat.le_trans (List.length_filterMap_le _ _) (by have := (hb2 _ hb).1; omega)) (fun c2 F2 hA2 j hj => ?_) (by decide +kernel) (by decide +kernel) rfl (by decide +kernel) (fun _ _ => rfl)) ?_) EvL.nil) (CallR.sumI (by rw [hA]; exact F.hand))) rfl rfl (by decide) rfl
    · have hmj := mem4 ((hb2 _ hb).2 j hj)
      exact Turn1.s F2 1 (noOwn_pick _) (Ev.bin Ev.int (Ev.nm F2 1 rfl rfl) (BinR.pow hmj.1 (by
        have : (Builtin.Int.intBits 2 : Int) = 2 := by decide +kernel
        rw [this]; have := hmj.2.2; omega))) rfl rfl (by decide) rfl
    · rw [fm_some]; simp [lV]
  · rw [fm_some]; simp [needOf, lV]
end Mine
/-! PJ20 -/
set_option maxRecDepth 10000
namespace Mine
variable {D : Wd} {A : Around} {K : Frag}

noncomputable def lastsOf (ms : List (Int × Int)) (w : Nat) (e : Int) : Int := ((ms.filter fun p => p.1 == e).map fun p => (2 : Int) ^ ((w : Int) * p.2).toNat).sum
noncomputable def figsOf (ms : List (Int × Int)) : List Int := I4.map fun k : Int => ((ms.filter fun p => p.2 == k).length : Int)
noncomputable def lastK (ms : List (Int × Int)) (w : Nat) : List Int := I4.filter fun e => decide (0 < lastsOf ms w e)
noncomputable def divOk (bs : List (List Int)) (w : Nat) (tn : List Nat) (step : Int) : Prop :=
  ∃ nn : List Nat, numsOf bs step = cI nn ∧ tn.length = 4 ∧ nn.length = 4 ∧ (∀ d ∈ tn, d < 2 ^ w) ∧ (∀ d ∈ nn, d < 2 ^ w) ∧
    dvN tn w * 2 ^ (5 * w) / (2 ^ w - 1) ^ 5 = dvN nn w
structure Plain (bs : List (List Int)) (w : Nat) (x : Ent) : Prop where
  len : bs.length = 4
  few : ∀ b ∈ bs, b.length ≤ 100
  low : ∀ e : Nat, e < 4 → ∀ j ∈ bs.getD e [], 0 ≤ j ∧ j < (e : Int)
  w0 : 12 ≤ w ∧ w ≤ 19
  mlen : (marksOf bs).length ≤ 100
  mfew : ∀ p ∈ marksOf bs, 0 ≤ p.2 ∧ p.2 ≤ 3
  run : ∃ b, gRun (needOf bs) w = some b ∧ lookE b 15 = some x
  many : x.1 = ((marksOf bs).length : Int)
  call : (x.2.2.length == (lastK (marksOf bs) w).length && allIn (lastK (marksOf bs) w) ((lastK (marksOf bs) w).map (lastsOf (marksOf bs) w)) x.2.2) = true
  figs : ∃ (fN : Nat) (tn : List Nat), x.2.1 = fN ∧ i2dN fN w ≤ 100 ∧ (digs w (i2dN fN w) fN ++ [0, 0, 0]).take 4 = figsOf (marksOf bs) ∧ figsOf (marksOf bs) = cI tn ∧ divOk bs w tn 1 ∧ divOk bs w tn.reverse 0

theorem zip_fs : ∀ l : List (Int × Int), (l.map (·.1)).zip (l.map (·.2)) = l
  | [] => rfl
  | (a, b) :: l => by rw [List.map_cons, List.map_cons, List.zip_cons_cons, zip_fs l]
theorem lookD_map {ks : List Int} {f : Int → V} {e : Int} (h : e ∈ ks) : lookD ks (ks.map f) e = some (f e) := by
  unfold lookD
  induction ks with
  | nil => cases h
  | cons k ks ih =>
    rw [List.map_cons, List.zip_cons_cons, List.find?_cons]
    by_cases q : k = e
    · subst q; simp
    · rcases List.mem_cons.mp h with r | r
      · exact absurd r.symm q
      · simp only [q, decide_false]; exact ih r
theorem fm_ifD {ks : List Int} {q : Int → Bool} {f : Int → V} : ks.filterMap (fun e => if q e = true then some (e, f e) else none) = (ks.filter q).map fun e => (e, f e) := by
  induction ks with
  | nil => rfl
  | cons k ks ih => rw [List.filterMap_cons, List.filter_cons, ih]; cases q k <;> simp

theorem pickG_take4 {l : List Int} (h : 4 ≤ l.length) : pickG l none (some 4) none = l.take 4 := by
  have e : sliceBounds none (some 4) none l.length = (0, 4, 1) := by
    unfold sliceBounds
    have : max 0 (min 4 (l.length : Int)) = 4 := by omega
    simp [this]
  have e2 : sliceRange 0 4 1 = [0, 1, 2, 3] := by decide +kernel
  unfold pickG
  rw [e, e2]
  match l, h with
  | a :: b :: c :: d :: r, _ => rfl
theorem TestsR.ite {c : Cx D} {ρ : Ro} {e : Expr} {b : Bool} {v : V} (h : Tst c ρ e b) : TestsR c ρ [e] (if b = true then some v else none).isSome := by cases b <;> exact TestsR.one h
noncomputable def sst4 (w : Nat) (bs : List (List Int)) (fg : List Int) : Ro :=
  [none, none, some (.val (.int w)), none, none, none, none, none, none, none, none, none, some (.val (.list (LL bs))), none,
   none, none, none, none, none, none, none, some (.val (lV fg)), none, none, none, none, none, none, none, none]

set_option maxHeartbeats 2000000 in
theorem law_p4 (Y : Lw D K) {c : Cx D} (F : Fn c A (sc 21).names) (hu : A.units + 200 < cLine) (hd : A.depth + 400 < recursionLimit) (bs : List (List Int)) (w : Nat) (x : Ent) (H : Plain bs w x) {o : Out}
    (t : Exs c (sst4 w bs (figsOf (marksOf bs))) ((bd 21).drop 24) o) : Exs c (sst3 w bs) ((bd 21).drop 18) o := by
  obtain ⟨b, hrun, hlook⟩ := H.run
  obtain ⟨fN, tn, hf, hfi, hfig, hcI, _, _⟩ := H.figs
  have hw := H.w0
  have hmlen := H.mlen
  have hmfew := H.mfew
  have hmany := H.many
  have hcall := H.call
  refine Exs.cons (Ex.st F.fr 14 (Ev.call (Glo.t Y.P F.fr 18 (by decide +kernel) Y.n18 (by decide) (by decide)) Y.f18.kpr (EvL.cons (Ev.nm F.fr 12 rfl rfl) EvL.nil) (law_orders Y.P Y.f18 F.hand (by rw [F.depth]; omega) (by rw [F.units]; omega) bs H.len H.few)) rfl rfl (by decide) (fun _ _ _ => rfl)) ?_
  refine Exs.cons (Ex.assign (Ev.call (Glo.t Y.P F.fr 20 (by decide +kernel) Y.n20 (by decide) (by decide)) Y.f20.kpr (EvL.cons (Ev.nm F.fr 13 rfl rfl) (EvL.cons (Ev.nm F.fr 2 rfl rfl) EvL.nil)) (law_gathered Y.P Y.f20 Y.f10 Y.f11 Y.f12 Y.n11 Y.n10 Y.n12 F.hand (by rw [F.depth]; omega) (needOf bs) (w : Int) (by unfold needOf; simp) (by omega) b x hrun hlook))
    (AsgR.tup (AsgRs.cons (AsgR.nm F.fr 15 rfl rfl (by decide)) (AsgRs.cons (AsgR.nm F.fr 16 rfl rfl (by decide)) (AsgRs.cons (AsgR.nm F.fr 17 rfl rfl (by decide)) (AsgRs.cons (AsgR.nm F.fr 18 rfl rfl (by decide)) (AsgRs.cons (AsgR.nm F.fr 19 rfl rfl (by decide)) AsgRs.nil)))))) rfl rfl (fun _ => rfl)) ?_
  refine Exs.less [13, 17, 18] ?_
  generalize hms : marksOf bs = ms at *
  show Exs c [none, none, some (.val (.int w)), none, none, none, none, none, none, none, none, none, some (.val (.list (LL bs))), none,
   some (.val (.list (ms.map markV))), some (.val (.int x.1)), some (.val (.int x.2.1)), none, none, some (.val (.dict (x.2.2.map (·.1)) ((x.2.2.map (·.2)).map V.int))), none, none, none, none, none, none, none, none, none, none] _ _
  rw [hmany, hf]
  have h2 : (Builtin.Int.intBits 2 : Int) = 2 := by decide +kernel
  refine Exs.cons (Ex.stC F.fr 20 (a := .dict I4 (I4.map fun e => V.int (lastsOf ms w e))) (Ev.cast (Ev.dc Y.P F.fr [none, none, some 14, some 2] (φ := V.int) (zs := I4) (f := fun e => some (e, V.int (lastsOf ms w e))) (ItE.call (Glo.b Y.P F.fr (by decide +kernel) (by simp) (v := .type "range") (by decide +kernel) (by decide) (by decide)) Kpr.type (EvL.cons Ev.int EvL.nil) (IterR.range1 F.hand (by decide) (by decide))) (by simp) (by rw [fm_some, List.map_map]; show (I4.map fun e => e).Nodup; decide) (fun c' F' hA e he => ?_) (by decide +kernel) (by decide +kernel) rfl (by decide +kernel) (fun _ _ => rfl)) ?_) rfl rfl) ?_
  · refine TurnD.s F' 1 (noOwn_pick _) (Ev.nm F' 1 rfl rfl) ?_ rfl rfl (by decide) rfl
    refine Ev.call (Glo.b Y.P F' (by decide +kernel) (by simp) (v := .builtin "sum") (by decide +kernel) (by decide) (by decide)) Kpr.builtin (EvL.cons (a := lV ((ms.filter fun p => p.1 == e).map fun p => (2 : Int) ^ ((w : Int) * p.2).toNat)) ?_ EvL.nil) (CallR.sumI (by rw [hA]; exact F.hand))
    refine Ev.cast (Ev.lc Y.P F' [none, none, none, some 1, some 3] (φ := markV) (zs := ms) (f := fun p => if (p.1 == e) = true then some (V.int ((2 : Int) ^ ((w : Int) * p.2).toNat)) else none) (ItE.list (Ev.nm F' 2 rfl rfl)) (Nat.le_trans (List.length_filterMap_le _ _) (by omega)) (fun c2 F2 hA2 p hp => ?_) (by decide +kernel) (by decide +kernel) rfl (by decide +kernel) (fun _ _ => rfl)) ?_
    · have hp2 := hmfew p hp
      have hwp : 0 ≤ (w : Int) * p.2 ∧ (w : Int) * p.2 ≤ 57 := ⟨Int.mul_nonneg (by omega) hp2.1, by
        have : (w : Int) * p.2 ≤ 19 * 3 := Int.mul_le_mul (by omega) hp2.2 hp2.1 (by decide)
        omega⟩
      refine ⟨_, AsgR.tup (AsgRs.cons (AsgR.nm F2 1 rfl rfl (by decide)) (AsgRs.cons (AsgR.nm F2 2 rfl rfl (by decide)) AsgRs.nil)), Sub.trans (Sub.set rfl) (Sub.set rfl), ((noOwn_pick _).set _ _).set _ _, ?_, fun a ea => ?_⟩
      · exact TestsR.ite (Tst.cmp (Ev.nm F2 1 rfl rfl) (Ev.nm F2 3 rfl rfl) CmpR.eq)
      · cases q : (p.1 == e) with
        | false => simp [q] at ea
        | true =>
          simp only [q, if_true, Option.some.injEq] at ea
          subst ea
          exact Ev.bin Ev.int (Ev.bin (Ev.nm F2 4 rfl rfl) (Ev.nm F2 2 rfl rfl) (BinR.mul (IntMulOk.of_left (intBits_small (by omega) (by omega))))) (BinR.pow hwp.1 (by rw [h2]; omega))
    · rw [fm_if]; simp [lV]
  · rw [fm_some, List.map_map, List.map_map]; rfl
  have hlk : ∀ e ∈ I4, lookD I4 (I4.map fun e => V.int (lastsOf ms w e)) e = some (V.int (lastsOf ms w e)) := fun e he => lookD_map he
  refine Exs.cons (Ex.if (b := false) (Tst.cast (b := false || false) (Tst.or2 (b₁ := false) (b₂ := false) ?_ (fun _ => ?_)) rfl) (fun e => by cases e) (fun _ => Exs.nil)) ?_
  · refine Tst.cast (Tst.cmp (Ev.nm F.fr 15 rfl rfl) (Ev.call (Glo.b Y.P F.fr (by decide +kernel) (by simp) (v := .builtin "len") (by decide +kernel) (by decide) (by decide)) Kpr.builtin (EvL.cons (Ev.nm F.fr 14 rfl rfl) EvL.nil) (CallR.len (by rw [List.length_map]; omega))) CmpR.ne) (by simp)
  · refine Tst.cast (Tst.cmp (a := .dict (x.2.2.map (·.1)) ((x.2.2.map (·.2)).map V.int)) (b := .dict (lastK ms w) (((lastK ms w).map (lastsOf ms w)).map V.int)) (Ev.nm F.fr 19 rfl rfl) (Ev.cast (Ev.dc Y.P F.fr [none, none, some 20] (φ := V.int) (zs := I4) (f := fun e => if decide (0 < lastsOf ms w e) = true then some (e, V.int (lastsOf ms w e)) else none) (ItE.call (Glo.b Y.P F.fr (by decide +kernel) (by simp) (v := .type "range") (by decide +kernel) (by decide) (by decide)) Kpr.type (EvL.cons Ev.int EvL.nil) (IterR.range1 F.hand (by decide) (by decide))) (Nat.le_trans (List.length_filterMap_le _ _) (by decide)) ?_ (fun c' F' hA e he => ?_) (by decide +kernel) (by decide +kernel) rfl (by decide +kernel) (fun _ _ => rfl)) ?_) (CmpR.neDict (by rw [F.units]; omega) (by simp) (by simp))) ?_
    · rw [fm_ifD (f := fun e => V.int (lastsOf ms w e)), List.map_map]
      show ((I4.filter fun e => decide (0 < lastsOf ms w e)).map fun e => e).Nodup
      rw [List.map_id']
      exact List.Nodup.sublist (List.filter_sublist ..) (by decide)
    · refine TurnD.t F' 1 (noOwn_pick _) (Tst.cmp (Ev.itemD (EvD.dict (Ev.nm F' 2 rfl rfl)) (Ev.nm F' 1 rfl rfl) (hlk e he)) Ev.int CmpR.gt) (fun _ => Ev.nm F' 1 rfl rfl) (fun _ => Ev.itemD (EvD.dict (Ev.nm F' 2 rfl rfl)) (Ev.nm F' 1 rfl rfl) (hlk e he)) rfl rfl (by decide) rfl
    · rw [fm_ifD (f := fun e => V.int (lastsOf ms w e)), List.map_map, List.map_map]
      show V.dict ((I4.filter fun e => decide (0 < lastsOf ms w e)).map fun e => e) ((I4.filter fun e => decide (0 < lastsOf ms w e)).map fun e => V.int (lastsOf ms w e)) = _
      rw [List.map_id', List.map_map]; rfl
    · rw [zip_fs, List.length_map, hcall]; rfl
  have fl : (figsOf ms).length = 4 := by unfold figsOf; simp
  refine Exs.cons (Ex.st F.fr 21 (a := lV (figsOf ms)) (Ev.cast (Ev.slice (nl := none) (nh := some 4) (l := (digs w (i2dN fN w) fN ++ [0, 0, 0]).map V.int) (Ev.cast (Ev.bin (Ev.call (Glo.t Y.P F.fr 5 (by decide +kernel) Y.n5 (by decide) (by decide)) Y.f5.kpr (EvL.cons (Ev.nm F.fr 16 rfl rfl) (EvL.cons (Ev.nm F.fr 2 rfl rfl) EvL.nil)) (int2digits Y.P Y.f5 Y.N5 F.hand (by rw [F.depth]; omega) fN w (by omega) hfi)) (Ev.list (EvL.cons Ev.int (EvL.cons Ev.int (EvL.cons Ev.int EvL.nil)))) (BinR.addList (by rw [List.length_map, digs_length, sizeLine_eq]; simp; omega))) (by simp [lV])) trivial Ev.int (by rw [List.length_map, List.length_append, digs_length]; simp; omega)) ?_) rfl rfl (by decide) (fun _ _ _ => rfl)) ?_
  · rw [pickV_map, pickG_take4, hfig]
    · rfl
    · have := congrArg List.length hfig
      rw [fl, List.length_take] at this
      omega
  refine Exs.cons (Ex.if (b := false) (Tst.cast (Tst.cmp (Ev.nm F.fr 21 rfl rfl) (Ev.cast (b := lV (figsOf ms)) (Ev.lc Y.P F.fr [none, none, some 14] (φ := V.int) (zs := I4) (f := fun k => some (V.int ((ms.filter fun p => p.2 == k).length : Int))) (ItE.call (Glo.b Y.P F.fr (by decide +kernel) (by simp) (v := .type "range") (by decide +kernel) (by decide) (by decide)) Kpr.type (EvL.cons Ev.int EvL.nil) (IterR.range1 F.hand (by decide) (by decide))) (by simp) (fun c' F' hA k hk => ?_) (by decide +kernel) (by decide +kernel) rfl (by decide +kernel) (fun _ _ => rfl)) ?_) (CmpR.neInts (by rw [F.units]; omega))) (by simp)) (fun e => by cases e) (fun _ => Exs.nil)) ?_
  · refine Turn1.s F' 1 (noOwn_pick _) (Ev.call (Glo.b Y.P F' (by decide +kernel) (by simp) (v := .builtin "len") (by decide +kernel) (by decide) (by decide)) Kpr.builtin (EvL.cons (a := lV ((ms.filter fun p => p.2 == k).map (·.2))) ?_ EvL.nil) ?_) rfl rfl (by decide) rfl
    · refine Ev.cast (Ev.lc Y.P F' [none, none, none, some 1] (φ := markV) (zs := ms) (f := fun p => if (p.2 == k) = true then some (V.int p.2) else none) (ItE.list (Ev.nm F' 2 rfl rfl)) (Nat.le_trans (List.length_filterMap_le _ _) (by omega)) (fun c2 F2 hA2 p hp => ?_) (by decide +kernel) (by decide +kernel) rfl (by decide +kernel) (fun _ _ => rfl)) ?_
      · refine ⟨_, AsgR.tup (AsgRs.cons (AsgR.nm F2 1 rfl rfl (by decide)) (AsgRs.cons (AsgR.nm F2 2 rfl rfl (by decide)) AsgRs.nil)), Sub.trans (Sub.set rfl) (Sub.set rfl), ((noOwn_pick _).set _ _).set _ _, ?_, fun a ea => ?_⟩
        · exact TestsR.ite (Tst.cmp (Ev.nm F2 2 rfl rfl) (Ev.nm F2 3 rfl rfl) CmpR.eq)
        · cases q : (p.2 == k) with
          | false => simp [q] at ea
          | true =>
            simp only [q, if_true, Option.some.injEq] at ea
            subst ea
            exact Ev.nm F2 2 rfl rfl
      · rw [fm_if]; simp [lV]
    · have := CallR.lenI (D := D) (A := c'.A) (ns := (ms.filter fun p => p.2 == k).map (·.2)) (by rw [List.length_map]; exact Nat.lt_of_le_of_lt (List.length_filter_le _ _) (by omega))
      rwa [List.length_map] at this
  · rw [fm_some]; simp [figsOf, lV]
  exact Exs.less [14, 15, 16, 19, 20] t
end Mine
/-! PJ21 -/
set_option maxRecDepth 10000
namespace Mine
variable {D : Wd} {A : Around} {K : Frag}

theorem mulOk_sum {a b : Int} (h : Builtin.Int.intBits a + Builtin.Int.intBits b ≤ 10000) : IntMulOk a b := by
  have : Builtin.Int.intTooBig (Builtin.Int.intBits a + Builtin.Int.intBits b) = false := by
    have h2 : 10000 ≤ bitsLine := by decide +kernel
    exact decide_eq_false (by omega)
  unfold IntMulOk
  rw [this]; simp
theorem by_facts {w : Nat} (hw : 12 ≤ w ∧ w ≤ 19) : 0 < (2 ^ w - 1) ^ 5 ∧ 12 ≤ Builtin.Int.intBits (((2 ^ w - 1) ^ 5 : Nat) : Int) ∧ Builtin.Int.intBits (((2 ^ w - 1) ^ 5 : Nat) : Int) ≤ 95 ∧ Builtin.Int.intBits ((2 ^ w - 1 : Nat) : Int) ≤ 19 := by
  have : w = 12 ∨ w = 13 ∨ w = 14 ∨ w = 15 ∨ w = 16 ∨ w = 17 ∨ w = 18 ∨ w = 19 := by omega
  rcases this with rfl | rfl | rfl | rfl | rfl | rfl | rfl | rfl <;> decide +kernel
theorem pickG_rev {l : List Int} (h : l.length = 4) : pickG l none none (some (-1)) = l.reverse := by
  obtain ⟨a, b, c, d, rfl⟩ := list4 h
  have e : sliceBounds none none (some (-1)) 4 = (3, -1, -1) := by decide +kernel
  have e2 : sliceRange 3 (-1) (-1) = [3, 2, 1, 0] := by decide +kernel
  rw [pickG_nat _ _ _ _ (n := 4) rfl, e, e2]; rfl

noncomputable def sst5 (w : Nat) (bs : List (List Int)) (fg : List Int) (a b c d : Option Slot) : Ro :=
  [none, none, some (.val (.int w)), none, none, none, none, none, none, none, none, none, some (.val (.list (LL bs))), none,
   none, none, none, none, none, none, none, some (.val (lV fg)), some (.val (.int (((2 ^ w - 1) ^ 5 : Nat) : Int))), a, b, c, d, none, none, none]
noncomputable def loop5 : Stmt := (bd 21).getD 25 pass0

theorem cI_nat (l : List Nat) : cI l = l.map fun x : Nat => (x : Int) := rfl
theorem dvN4 {w : Nat} {l : List Nat} (hl : l.length = 4) (h : ∀ d ∈ l, d < 2 ^ w) : dvN l w < 2 ^ (w * 4) := by
  have := dvN_lt w l h
  rwa [hl] at this

set_option maxHeartbeats 1000000 in
theorem law_turn (Y : Lw D K) {c : Cx D} (F : Fn c A (sc 21).names) (hu : A.units + 200 < cLine) (hd : A.depth + 400 < recursionLimit) (bs : List (List Int)) (w : Nat) (hw : 12 ≤ w ∧ w ≤ 19) (hl : bs.length = 4) (hf : ∀ b ∈ bs, b.length ≤ 100) (hlow : ∀ e : Nat, e < 4 → ∀ j ∈ bs.getD e [], 0 ≤ j ∧ j < (e : Int)) (fg : List Int) (tn : List Nat) (step : Int) (H : divOk bs w tn step) :
    Exs c (sst5 w bs fg (some (.val (lV (cI tn)))) (some (.val (.int step))) none none) (forB loop5) (.next (sst5 w bs fg none none none none)) := by
  obtain ⟨nn, e1, tl, nl, tlt, nlt, hdiv⟩ := H
  obtain ⟨b0, b1, b2, b3⟩ := by_facts hw
  have ht4 := dvN4 tl tlt
  have hn4 := dvN4 nl nlt
  have hw76 : w * 4 ≤ 76 := by omega
  have bt := natAbs_lt_intBits ht4
  have bn := natAbs_lt_intBits hn4
  have hov : dvN tn w * 2 ^ (5 * w) < 2 ^ (w * 4 + 5 * w) := by
    rw [Nat.pow_add]
    exact Nat.mul_lt_mul_of_pos_right ht4 (Nat.two_pow_pos _)
  have bo := natAbs_lt_intBits hov
  refine Exs.cast (ρ := _) (Exs.drop 26 (Exs.drop 25 (Exs.drop 24 (Exs.drop 23 (ρ' := sst5 w bs fg (some (.val (lV (cI tn)))) (some (.val (.int step))) (some (.val (.int ((dvN tn w * 2 ^ (5 * w) : Nat) : Int)))) (some (.val (.int (dvN nn w : Int))))) ?_)))) rfl
  refine Exs.cons (Ex.to (ρ2 := sst5 w bs fg (some (.val (lV (cI tn)))) (some (.val (.int step))) (some (.val (.int ((dvN tn w * 2 ^ (5 * w) : Nat) : Int)))) none) (Ex.st F.fr 25 (a := .int ((dvN tn w * 2 ^ (5 * w) : Nat) : Int)) ?_ rfl rfl (by decide) (fun _ _ _ => rfl)) rfl) ?_
  · refine Ev.cast (a := .int ((dvN tn w : Int) * 2 ^ ((5 : Int) * (w : Int)).toNat)) (Ev.bin (a := .int (dvN tn w : Int)) (b := .int ((5 : Int) * (w : Int))) ?_ ?_ (BinR.shl (by omega) (by omega))) ?_
    · refine Ev.call (Glo.t Y.P F.fr 6 (by decide +kernel) Y.n6 (by decide) (by decide)) Y.f6.kpr (EvL.cons (Ev.nm F.fr 23 rfl rfl) (EvL.cons (Ev.nm F.fr 2 rfl rfl) EvL.nil)) ?_
      rw [← digVal_dvN]
      exact digits2int Y.P Y.f6 Y.N6 F.hand (by rw [F.depth]; omega) (cI tn) (w : Int) (by omega) (by unfold cI; rw [List.length_map]; omega) (okDig_of w tn (by omega) (by omega) tlt)
    · exact Ev.bin Ev.int (Ev.nm F.fr 2 rfl rfl) (BinR.mul (IntMulOk.of_left (intBits_small (by decide) (by decide))))
    · rw [show ((5 : Int) * (w : Int)).toNat = 5 * w by omega, Int.natCast_mul, Int.natCast_pow]; rfl
  refine Exs.cons (Ex.to (ρ2 := sst5 w bs fg (some (.val (lV (cI tn)))) (some (.val (.int step))) (some (.val (.int ((dvN tn w * 2 ^ (5 * w) : Nat) : Int)))) (some (.val (.int (dvN nn w : Int))))) (Ex.st F.fr 26 (a := .int (dvN nn w : Int)) ?_ rfl rfl (by decide) (fun _ _ _ => rfl)) rfl) ?_
  · refine Ev.call (Glo.t Y.P F.fr 6 (by decide +kernel) Y.n6 (by decide) (by decide)) Y.f6.kpr (EvL.cons (a := lV (cI nn)) ?_ (EvL.cons (Ev.nm F.fr 2 rfl rfl) EvL.nil)) ?_
    · refine Ev.call (Glo.t Y.P F.fr 19 (by decide +kernel) Y.n19 (by decide) (by decide)) Y.f19.kpr (EvL.cons (Ev.nm F.fr 12 rfl rfl) (EvL.cons (Ev.nm F.fr 24 rfl rfl) EvL.nil)) ?_
      rw [← e1]
      exact law_numberings Y.P Y.f19 F.hand (by rw [F.depth]; omega) bs step hl hf hlow
    · rw [← digVal_dvN]
      exact digits2int Y.P Y.f6 Y.N6 F.hand (by rw [F.depth]; omega) (cI nn) (w : Int) (by omega) (by unfold cI; rw [List.length_map]; omega) (okDig_of w nn (by omega) (by omega) nlt)
  refine Exs.cons (Ex.if (b := false) ?_ (fun e => by cases e) (fun _ => Exs.nil)) Exs.nil
  have hdm := Nat.div_add_mod (dvN tn w * 2 ^ (5 * w)) ((2 ^ w - 1) ^ 5)
  rw [hdiv] at hdm
  have hm : i2dN (dvN tn w * 2 ^ (5 * w)) (Builtin.Int.intBits (((2 ^ w - 1) ^ 5 : Nat) : Int)) ≤ 100 := by
    unfold i2dN
    refine Nat.le_trans (Nat.div_le_div_left b1 (by decide)) ?_
    refine Nat.le_trans (Nat.div_le_div_right (c := 12) (show _ ≤ 1200 by omega)) (by decide)
  refine Tst.cast (Tst.cmp (Ev.call (Glo.t Y.P F.fr 7 (by decide +kernel) Y.n7 (by decide) (by decide)) Y.f7.kpr (EvL.cons (Ev.nm F.fr 25 rfl rfl) (EvL.cons (Ev.nm F.fr 22 rfl rfl) EvL.nil)) (divmod_pos Y.P Y.f7 Y.f5 Y.N5 Y.f6 Y.N6 Y.f3 Y.lim Y.n3 Y.n5 Y.n6 F.hand (by rw [F.depth]; omega) (dvN tn w * 2 ^ (5 * w)) ((2 ^ w - 1) ^ 5) _ b0 rfl ⟨by omega, by omega⟩ hm))
    (Ev.cast (b := .tup ([(dvN nn w : Int), (((dvN tn w * 2 ^ (5 * w)) % (2 ^ w - 1) ^ 5 : Nat) : Int)].map V.int)) (Ev.tup (EvL.cons (Ev.nm F.fr 26 rfl rfl) (EvL.cons (Ev.bin (Ev.nm F.fr 25 rfl rfl) (Ev.bin (Ev.nm F.fr 26 rfl rfl) (Ev.nm F.fr 22 rfl rfl) (BinR.mul (mulOk_sum (by omega)))) BinR.sub) EvL.nil)) (by simp [sizeLine_eq])) ?_) (CmpR.neTup (by rw [F.units]; omega))) ?_
  · have : ((dvN tn w * 2 ^ (5 * w) : Nat) : Int) - (dvN nn w : Int) * (((2 ^ w - 1) ^ 5 : Nat) : Int) = (((dvN tn w * 2 ^ (5 * w)) % (2 ^ w - 1) ^ 5 : Nat) : Int) := by
      rw [← Int.natCast_mul, Nat.mul_comm (dvN nn w)]
      omega
    rw [this]; rfl
  · rw [hdiv]; simp
end Mine
/-! PJ22 -/
set_option maxRecDepth 10000
namespace Mine
variable {D : Wd} {A : Around} {K : Frag}

theorem law_p5 (Y : Lw D K) {c : Cx D} (F : Fn c A (sc 21).names) (hu : A.units + 200 < cLine) (hd : A.depth + 400 < recursionLimit) (bs : List (List Int)) (w : Nat) (x : Ent) (H : Plain bs w x) :
    Exs c (sst4 w bs (figsOf (marksOf bs))) ((bd 21).drop 24) (.ret (.bool true)) := by
  obtain ⟨fN, tn, hf, hfi, hfig, hcI, d1, d0⟩ := H.figs
  have hw := H.w0
  have hlen := H.len
  have hfew := H.few
  have hlow := H.low
  obtain ⟨b0, b1, b2, b3⟩ := by_facts hw
  rw [hcI]
  have tl : tn.length = 4 := by obtain ⟨_, _, h, _⟩ := d1; exact h
  have h2 : (Builtin.Int.intBits 2 : Int) = 2 := by decide +kernel
  have hp : (1 : Nat) ≤ 2 ^ w := Nat.one_le_two_pow
  refine Exs.cons (Ex.to (ρ2 := sst5 w bs (cI tn) none none none none) (Ex.st F.fr 22 (a := .int (((2 ^ w - 1) ^ 5 : Nat) : Int)) (Ev.cast (a := .int (((2 ^ w - 1 : Nat) : Int) ^ (5 : Int).toNat)) (Ev.bin (Ev.cast (b := .int ((2 ^ w - 1 : Nat) : Int)) (Ev.bin (Ev.bin Ev.int (Ev.nm F.fr 2 rfl rfl) (BinR.pow (by omega) (by rw [h2]; omega))) Ev.int BinR.sub) ?_) Ev.int (BinR.pow (by decide) (by omega))) ?_) rfl rfl (by decide) (fun _ _ _ => rfl)) rfl) ?_
  · rw [Int.toNat_natCast, Int.natCast_sub hp, Int.natCast_pow]; rfl
  · rw [Int.natCast_pow]; rfl
  refine Exs.cons (ρ' := sst5 w bs (cI tn) none none none none) (Ex.for (xs := [.tup [lV (cI tn), .int 1], .tup [lV (cI tn.reverse), .int 0]]) (ItE.list (Ev.list (EvL.cons (Ev.tup (EvL.cons (Ev.nm F.fr 21 rfl rfl) (EvL.cons Ev.int EvL.nil)) (by simp [sizeLine_eq])) (EvL.cons (Ev.tup (EvL.cons (Ev.cast (b := lV (cI tn.reverse)) (Ev.sliceStep (nl := none) (nh := none) (k := -1) (l := (cI tn).map V.int) (Ev.nm F.fr 21 rfl rfl) trivial trivial (Ev.neg Ev.int) (by decide) (by rw [List.length_map]; unfold cI; rw [List.length_map]; omega)) ?_) (EvL.cons Ev.int EvL.nil)) (by simp [sizeLine_eq])) EvL.nil)))) ?_) ?_
  · rw [pickV_map, pickG_rev (by unfold cI; rw [List.length_map]; omega)]
    unfold cI lV; simp [List.map_reverse]
  · refine ⟨sst5 w bs (cI tn) (some (.val (lV (cI tn)))) (some (.val (.int 1))) none none, .next (sst5 w bs (cI tn) none none none none), AsgR.tup (AsgRs.cons (AsgR.nm F.fr 23 rfl rfl (by decide)) (AsgRs.cons (AsgR.nm F.fr 24 rfl rfl (by decide)) AsgRs.nil)), law_turn Y F hu hd bs w hw hlen hfew hlow (cI tn) tn 1 d1, ?_⟩
    exact ⟨sst5 w bs (cI tn) (some (.val (lV (cI tn.reverse)))) (some (.val (.int 0))) none none, .next (sst5 w bs (cI tn) none none none none), AsgR.tup (AsgRs.cons (AsgR.nm F.fr 23 rfl rfl (by decide)) (AsgRs.cons (AsgR.nm F.fr 24 rfl rfl (by decide)) AsgRs.nil)), law_turn Y F hu hd bs w hw hlen hfew hlow (cI tn) tn.reverse 0 d0, rfl⟩
  · exact Exs.ret (Ex.ret Ev.bool)

structure Asked (ns : List Int) (p : Array Nat) (w : Nat) (x : Ent) : Prop where
  len : ns.length ≤ 63
  ok : ∀ x ∈ leadsOf ns, leadOk x = true
  srt : goT 4 (fun i j => lexLt ((keysOf ((leadsOf ns).map colsOf) (fst4 ns) (way2 ns)).getD i (0, 0)) ((keysOf ((leadsOf ns).map colsOf) (fst4 ns) (way2 ns)).getD j (0, 0))) (kas_sort 4) = some p
  plt : ∀ i ∈ p.toList, i < 4
  pord : (p.toList.map fun i : Nat => (i : Int)) = ordO (ltO (rowsOf ((leadsOf ns).map colsOf)) (fst4 ns) (way2 ns))
  olen : (ordO (ltO (rowsOf ((leadsOf ns).map colsOf)) (fst4 ns) (way2 ns))).length = 4
  less : ∀ x ∈ leadsOf ns, ∀ y ∈ leadsOf ns, lessR (wl x) (wl y) = strict (colsOf x) (colsOf y)
  wid : wid ns = (w : Int)
  plain : Plain (belowOf (seenOf ((leadsOf ns).map colsOf) (ordO (ltO (rowsOf ((leadsOf ns).map colsOf)) (fst4 ns) (way2 ns))))) w x

theorem law_body (Y : Lw D K) {c : Cx D} (F : Fn c A (sc 21).names) (hu : A.units + 200 < cLine) (hd : A.depth + 400 < recursionLimit) (ns : List Int) {cA T : Addr} (hcode : c.env.code = .ref cA) (hqual : c.env.qual = "law" ++ ".<locals>.") (C : CodeHd D.h₀ cA T) (B : D.h₀.BuiltinsAt D.mg T)
    (hti : (T, lamPos, ("law.<locals>.<lambda>" : Str)) ∈ D.ti) (hnd : (D.ti.map (·.1)).Nodup) {p : Array Nat} {w : Nat} {x : Ent} (H : Asked ns p w x) : Exs c (setAll [0] [lV ns] (List.replicate 30 none)) (bd 21) (.ret (.bool true)) := by
  refine law_p1 Y F (by omega) hd ns H.len H.ok ?_
  refine law_p2 Y F (by omega) hd ns hcode hqual C B hti hnd H.srt H.plt H.pord ?_
  refine law_p3 Y F (by omega) hd ns _ H.ok H.olen (fun x hx => ?_) H.less ?_
  · rw [← H.pord] at hx
    obtain ⟨i, hi, rfl⟩ := List.mem_map.mp hx
    have := H.plt i hi
    have : i = 0 ∨ i = 1 ∨ i = 2 ∨ i = 3 := by omega
    rcases this with rfl | rfl | rfl | rfl <;> simp
  rw [H.wid]
  exact law_p4 Y F hu hd _ w x H.plain (law_p5 Y F hu hd _ w x H.plain)
end Mine
/-! PK1 -/
set_option maxRecDepth 100000
namespace Mine

/-! the leads: 192 rests, 60 kinds -/
noncomputable def dat (r : Nat) : WS :=
  let a : Int := (r % 4 : Nat)
  let b : Int := (r / 4 % 4 : Nat)
  let c := r / 16 % 3
  let d := r / 48
  if c = 0 then ⟨"", [], d, d, 0⟩ else if c = 1 then ⟨"", bump [] a, d, a + 1 + d, 1⟩ else ⟨"", bump (bump [] a) b, d, a + b + 2 + d, 2⟩
noncomputable def can (r : Nat) : Nat :=
  let a := r % 4
  let b := r / 4 % 4
  let c := r / 16 % 3
  let d := r / 48
  if c = 0 then 48 * d else if c = 1 then 48 * d + 16 + a else 48 * d + 32 + (if a ≤ b then a + 4 * b else b + 4 * a)
noncomputable def canL : List Nat := [0, 1, 2, 3].flatMap fun d => [0, 16, 17, 18, 19, 32, 36, 37, 40, 41, 42, 44, 45, 46, 47].map fun x => 48 * d + x
noncomputable def sameW (w v : WS) : Bool := w.cnt == v.cnt && w.b == v.b && w.n == v.n && w.nt == v.nt
theorem lead_facts : ∀ r : Fin 192, (leadOk (leadR (r.val : Int)) && sameW (wl (leadR (r.val : Int))) (dat (can r.val)) && canL.contains (can r.val)) = true := by decide +kernel
noncomputable def colsW (w : WS) : List Int := [1, 2, 3, 4].map (ilOf w)
noncomputable def leadTab : List (WS × List Int) := canL.map fun r => (dat r, colsW (dat r))
theorem pairs_facts : (leadTab.all fun w => leadTab.all fun v => lessR w.1 v.1 == strict w.2 v.2) = true := by decide +kernel

theorem same_of {w v : WS} (h : sameW w v = true) : w = ⟨w.raw, v.cnt, v.b, v.n, v.nt⟩ := by
  unfold sameW at h
  simp only [Bool.and_eq_true, beq_iff_eq] at h
  obtain ⟨⟨⟨h1, h2⟩, h3⟩, h4⟩ := h
  cases w; cases v
  simp only at h1 h2 h3 h4
  subst h1 h2 h3 h4; rfl
theorem lead_at {ns : List Int} {x : Str} (h : x ∈ leadsOf ns) : ∃ r : Fin 192, x = leadR (r.val : Int) := by
  unfold leadsOf at h
  obtain ⟨y, _, rfl⟩ := List.mem_map.mp h
  obtain ⟨h0, h1⟩ := fmod_bound y (m := 192) (by decide)
  refine ⟨⟨(y.fmod 192).toNat, by omega⟩, ?_⟩
  rw [Int.toNat_of_nonneg h0]
theorem leads_ok {ns : List Int} {x : Str} (h : x ∈ leadsOf ns) : leadOk x = true := by
  obtain ⟨r, rfl⟩ := lead_at h
  have := lead_facts r
  simp only [Bool.and_eq_true] at this
  exact this.1.1
theorem lead_tab {ns : List Int} {x : Str} (h : x ∈ leadsOf ns) : ∃ r ∈ canL, wl x = ⟨(wl x).raw, (dat r).cnt, (dat r).b, (dat r).n, (dat r).nt⟩ ∧ colsOf x = colsW (dat r) := by
  have ok := leads_ok h
  obtain ⟨r, rfl⟩ := lead_at h
  have f := lead_facts r
  simp only [Bool.and_eq_true, List.contains_iff_mem] at f
  have e := same_of f.1.2
  refine ⟨can r.val, f.2, e, ?_⟩
  unfold leadOk at ok
  simp only [Bool.and_eq_true, beq_iff_eq] at ok
  rw [← ok.2, e]; rfl
theorem leads_less {ns : List Int} {x y : Str} (hx : x ∈ leadsOf ns) (hy : y ∈ leadsOf ns) : lessR (wl x) (wl y) = strict (colsOf x) (colsOf y) := by
  obtain ⟨r, hr, e1, e2⟩ := lead_tab hx
  obtain ⟨s, hs, e3, e4⟩ := lead_tab hy
  rw [e2, e4, e1, e3]
  have := List.all_eq_true.mp pairs_facts (dat r, colsW (dat r)) (List.mem_map.mpr ⟨r, hr, rfl⟩)
  have := List.all_eq_true.mp this (dat s, colsW (dat s)) (List.mem_map.mpr ⟨s, hs, rfl⟩)
  exact beq_iff_eq.mp this
end Mine
/-! PK2 -/
set_option maxRecDepth 100000
namespace Mine

/-! the order: a tournament of four that is transitive -/
noncomputable def LB (b01 b02 b03 b12 b13 b23 : Bool) (i j : Nat) : Bool :=
  match i, j with
  | 0, 1 => b01 | 1, 0 => !b01 | 0, 2 => b02 | 2, 0 => !b02 | 0, 3 => b03 | 3, 0 => !b03 | 1, 2 => b12 | 2, 1 => !b12 | 1, 3 => b13 | 3, 1 => !b13 | 2, 3 => b23 | 3, 2 => !b23 | _, _ => false
noncomputable def trans4 (L : Nat → Nat → Bool) : Bool := [0, 1, 2, 3].all fun i => [0, 1, 2, 3].all fun j => [0, 1, 2, 3].all fun k => !(L i j && L j k) || L i k
noncomputable def ordB (L : Nat → Nat → Bool) : List Int := ordO fun a p => L a.toNat p.toNat
noncomputable def chkO (L : Nat → Nat → Bool) : Bool := match goT 4 L (kas_sort 4) with
  | some p => p.toList.all (fun i => decide (i < 4)) && (p.toList.map fun i : Nat => (i : Int)) == ordB L && (ordB L).length == 4 &&
      [0, 1, 2, 3].all fun e => [0, 1, 2, 3].all fun j => !(decide (e < j) && L ((ordB L).getD j 0).toNat ((ordB L).getD e 0).toNat)
  | none => false
theorem tourn : ∀ b01 b02 b03 b12 b13 b23 : Bool, (!trans4 (LB b01 b02 b03 b12 b13 b23) || chkO (LB b01 b02 b03 b12 b13 b23)) = true := by decide +kernel

theorem goT_congr {α : Type} {n : Nat} {l l' : Nat → Nat → Bool} (h : ∀ i j, i < n → j < n → l i j = l' i j) : ∀ t : KasT α, goT n l t = goT n l' t
  | .ret a => rfl
  | .ask i j k => by
    unfold goT
    by_cases c : i < n ∧ j < n
    · rw [if_pos c, if_pos c, h i j c.1 c.2]
      exact goT_congr h _
    · rw [if_neg c, if_neg c]
theorem spotOf_congr {q q' : Int → Bool} : ∀ l : List Int, (∀ a ∈ l, q a = q' a) → spotOf q l = spotOf q' l
  | [], _ => rfl
  | a :: r, h => by
    unfold spotOf
    rw [h a (.head _), spotOf_congr r fun x hx => h x (.tail _ hx)]
theorem ordO_congr {q q' : Int → Int → Bool} (h : ∀ a ∈ I4, ∀ p ∈ I4, q a p = q' a p) : ordO q = ordO q' := by
  have go : ∀ (r ord : List Int), (∀ x ∈ r, x ∈ I4) → (∀ x ∈ ord, x ∈ I4) → r.foldl (insO q) ord = r.foldl (insO q') ord := by
    intro r
    induction r with
    | nil => intro ord _ _; rfl
    | cons p r ih =>
      intro ord hr ho
      have hp := hr p (.head _)
      have e : insO q ord p = insO q' ord p := by
        unfold insO
        rw [spotOf_congr (q := (q · p)) (q' := (q' · p)) ord fun a ha => h a (ho a ha) p hp]
      rw [List.foldl_cons, List.foldl_cons, e]
      exact ih _ (fun x hx => hr x (.tail _ hx)) fun x hx => by
        rcases insO_mem hx with rfl | hx
        · exact hp
        · exact ho x hx
  exact go _ _ (fun x hx => hx) (by simp)

theorem lexLt_not {a b : Int × Int} (h : a.2 ≠ b.2) : lexLt b a = !lexLt a b := by
  unfold lexLt
  by_cases c : a.1 = b.1
  · rw [if_pos c, if_pos c.symm, if_neg h, if_neg h.symm]
    by_cases d : a.2 < b.2
    · simp [d]; omega
    · simp [d]; omega
  · rw [if_neg c, if_neg fun q => c q.symm]
    by_cases d : a.1 < b.1
    · simp [d]; omega
    · simp [d]; omega
theorem lexLt_self (a : Int × Int) : lexLt a a = false := by unfold lexLt; simp
theorem lexLt_iff {a b : Int × Int} : lexLt a b = true ↔ a.1 < b.1 ∨ (a.1 = b.1 ∧ a.2 < b.2) := by
  unfold lexLt
  by_cases c : a.1 = b.1
  · rw [if_pos c]
    by_cases d : a.2 = b.2
    · rw [if_pos d]; simp; omega
    · rw [if_neg d]; simp; omega
  · rw [if_neg c]; simp; omega
theorem lexLt_trans {a b c : Int × Int} (h1 : lexLt a b = true) (h2 : lexLt b c = true) : lexLt a c = true := by
  rw [lexLt_iff] at *; omega
theorem LB_of {z : Nat → Int × Int} (hz : ∀ i j, i < 4 → j < 4 → i ≠ j → (z i).2 ≠ (z j).2) {i j : Nat} (hi : i < 4) (hj : j < 4) :
    lexLt (z i) (z j) = LB (lexLt (z 0) (z 1)) (lexLt (z 0) (z 2)) (lexLt (z 0) (z 3)) (lexLt (z 1) (z 2)) (lexLt (z 1) (z 3)) (lexLt (z 2) (z 3)) i j := by
  have n : ∀ i j, i < 4 → j < 4 → i ≠ j → lexLt (z j) (z i) = !lexLt (z i) (z j) := fun i j a b c => lexLt_not (hz i j a b c)
  have hi' : i = 0 ∨ i = 1 ∨ i = 2 ∨ i = 3 := by omega
  have hj' : j = 0 ∨ j = 1 ∨ j = 2 ∨ j = 3 := by omega
  rcases hi' with rfl | rfl | rfl | rfl <;> rcases hj' with rfl | rfl | rfl | rfl <;> first
    | exact lexLt_self _
    | rfl
    | exact n _ _ (by omega) (by omega) (by omega)
theorem trans_of {z : Nat → Int × Int} {L : Nat → Nat → Bool} (h : ∀ i j, i < 4 → j < 4 → lexLt (z i) (z j) = L i j) : trans4 L = true := by
  unfold trans4
  have m : ∀ i ∈ ([0, 1, 2, 3] : List Nat), i < 4 := by intro i hi; simp at hi; omega
  refine List.all_eq_true.mpr fun i hi => List.all_eq_true.mpr fun j hj => List.all_eq_true.mpr fun k hk => ?_
  rw [← h i j (m i hi) (m j hj), ← h j k (m j hj) (m k hk), ← h i k (m i hi) (m k hk)]
  cases e1 : lexLt (z i) (z j) with
  | false => rfl
  | true => cases e2 : lexLt (z j) (z k) with
    | false => rfl
    | true => rw [lexLt_trans e1 e2]; rfl
theorem rows_get {L : List (List Int)} {k : Int} (hk : k ∈ I4) : (rowsOf L).getD k.toNat [] = L.getD k.toNat [] ++ [k] := by
  unfold rowsOf
  simp at hk
  rcases hk with rfl | rfl | rfl | rfl <;> rfl
theorem ltO_lex {cols : List (List Int)} {fi wy : Int} (hl : cols.length = 4) (h4 : ∀ l ∈ cols, l.length = 4) (hf : 0 ≤ fi ∧ fi < 4) (hw : wy = 1 ∨ wy = -1) {a p : Int} (ha : a ∈ I4) (hp : p ∈ I4) :
    ltO (rowsOf cols) fi wy a p = lexLt ((keysOf cols fi wy).getD a.toNat (0, 0)) ((keysOf cols fi wy).getD p.toNat (0, 0)) := by
  have key : ∀ k ∈ I4, (keysOf cols fi wy).getD k.toNat (0, 0) = ((cols.getD k.toNat []).getD fi.toNat 0, wy * k) := fun k hk => by
    unfold keysOf
    simp at hk
    rcases hk with rfl | rfl | rfl | rfl <;> rfl
  have g1 : ∀ k ∈ I4, ((rowsOf cols).getD k.toNat []).getD fi.toNat 0 = (cols.getD k.toNat []).getD fi.toNat 0 := fun k hk => by
    have hlen := h4 _ (getD_mem' (d := ([] : List Int)) (by rw [hl]; exact (mem4 hk).2.2 : k.toNat < cols.length))
    rw [rows_get hk]
    obtain ⟨c0, c1, c2, c3, e⟩ := list4 hlen
    rw [e]
    have : fi.toNat = 0 ∨ fi.toNat = 1 ∨ fi.toNat = 2 ∨ fi.toNat = 3 := by omega
    rcases this with h | h | h | h <;> rw [h] <;> rfl
  have g2 : ∀ k ∈ I4, ((rowsOf cols).getD k.toNat []).getD (4 : Int).toNat 0 = k := fun k hk => by
    have hlen := h4 _ (getD_mem' (d := ([] : List Int)) (by rw [hl]; exact (mem4 hk).2.2 : k.toNat < cols.length))
    rw [rows_get hk]
    obtain ⟨c0, c1, c2, c3, e⟩ := list4 hlen
    rw [e]; rfl
  rw [key a ha, key p hp]
  apply Bool.eq_iff_iff.mpr
  unfold ltO
  rw [lexLt_iff, decide_eq_true_eq]
  unfold selOf
  simp only [cmpO]
  rw [g1 a ha, g1 p hp, g2 a ha, g2 p hp]
  generalize (cols.getD a.toNat []).getD fi.toNat 0 = x
  generalize (cols.getD p.toNat []).getD fi.toNat 0 = y
  show _ ↔ x < y ∨ x = y ∧ wy * a < wy * p
  by_cases c1 : x < y
  · rw [if_pos c1]; simp [c1]
  · rw [if_neg c1]
    by_cases c2 : y < x
    · rw [if_pos c2]; simp; omega
    · rw [if_neg c2]
      have e : x = y := by omega
      rcases hw with rfl | rfl
      · by_cases c3 : a < p
        · rw [if_pos c3]; simp; omega
        · rw [if_neg c3]
          by_cases c4 : p < a
          · rw [if_pos c4]; simp; omega
          · rw [if_neg c4]; simp; omega
      · by_cases c3 : a < p
        · rw [if_pos c3]; simp; omega
        · rw [if_neg c3]
          by_cases c4 : p < a
          · rw [if_pos c4]; simp; omega
          · rw [if_neg c4]; simp; omega

theorem order_facts {cols : List (List Int)} {fi wy : Int} (hl : cols.length = 4) (h4 : ∀ l ∈ cols, l.length = 4) (hf : 0 ≤ fi ∧ fi < 4) (hw : wy = 1 ∨ wy = -1) :
    ∃ p : Array Nat, goT 4 (fun i j => lexLt ((keysOf cols fi wy).getD i (0, 0)) ((keysOf cols fi wy).getD j (0, 0))) (kas_sort 4) = some p ∧ (∀ i ∈ p.toList, i < 4) ∧ (p.toList.map fun i : Nat => (i : Int)) = ordO (ltO (rowsOf cols) fi wy) ∧
      (ordO (ltO (rowsOf cols) fi wy)).length = 4 ∧ ∀ e j : Nat, e < j → j < 4 →
        (cols.getD ((ordO (ltO (rowsOf cols) fi wy)).getD e 0).toNat []).getD fi.toNat 0 ≤ (cols.getD ((ordO (ltO (rowsOf cols) fi wy)).getD j 0).toNat []).getD fi.toNat 0 := by
  have key : ∀ k : Nat, k < 4 → (keysOf cols fi wy).getD k (0, 0) = ((cols.getD k []).getD fi.toNat 0, wy * (k : Int)) := fun k hk => by
    have : k = 0 ∨ k = 1 ∨ k = 2 ∨ k = 3 := by omega
    unfold keysOf
    rcases this with rfl | rfl | rfl | rfl <;> rfl
  generalize hz : (fun i : Nat => (keysOf cols fi wy).getD i (0, 0)) = z
  have hz' : ∀ i, (keysOf cols fi wy).getD i (0, 0) = z i := fun i => congrFun hz i
  have dis : ∀ i j, i < 4 → j < 4 → i ≠ j → (z i).2 ≠ (z j).2 := fun i j hi hj hn => by
    rw [← hz' i, ← hz' j, key i hi, key j hj]
    rcases hw with rfl | rfl <;> (simp only; omega)
  have hL := @LB_of z dis
  generalize hB : LB (lexLt (z 0) (z 1)) (lexLt (z 0) (z 2)) (lexLt (z 0) (z 3)) (lexLt (z 1) (z 2)) (lexLt (z 1) (z 3)) (lexLt (z 2) (z 3)) = L at hL
  have t := tourn (lexLt (z 0) (z 1)) (lexLt (z 0) (z 2)) (lexLt (z 0) (z 3)) (lexLt (z 1) (z 2)) (lexLt (z 1) (z 3)) (lexLt (z 2) (z 3))
  rw [hB, trans_of (z := z) (L := L) fun i j hi hj => hL hi hj] at t
  have t : chkO L = true := by simpa using t
  have hord : ordO (ltO (rowsOf cols) fi wy) = ordB L := ordO_congr fun a ha p hp => by
    rw [ltO_lex hl h4 hf hw ha hp, hz', hz']
    exact hL (mem4 ha).2.2 (mem4 hp).2.2
  have hgo : goT 4 (fun i j => lexLt ((keysOf cols fi wy).getD i (0, 0)) ((keysOf cols fi wy).getD j (0, 0))) (kas_sort 4) = goT 4 L (kas_sort 4) := goT_congr (fun i j hi hj => by rw [hz', hz']; exact hL hi hj) _
  rw [hord, hgo]
  unfold chkO at t
  split at t
  · rename_i p hp
    simp only [Bool.and_eq_true, beq_iff_eq, List.all_eq_true, decide_eq_true_eq] at t
    obtain ⟨⟨⟨t1, t2⟩, t3⟩, t4⟩ := t
    refine ⟨p, hp, t1, t2, t3, fun e j hej hj => ?_⟩
    have hm : ∀ i : Nat, i < 4 → (ordB L).getD i 0 ∈ I4 := fun i hi => by
      have := getD_mem' (d := (0 : Int)) (show i < (ordB L).length by omega)
      rw [← t2] at this
      obtain ⟨k, hk, e⟩ := List.mem_map.mp this
      rw [← t2, ← e]
      have := t1 k hk
      have : k = 0 ∨ k = 1 ∨ k = 2 ∨ k = 3 := by omega
      rcases this with rfl | rfl | rfl | rfl <;> simp
    have me := hm e (by omega)
    have mj := hm j hj
    have h1 : e ∈ ([0, 1, 2, 3] : List Nat) := by have : e = 0 ∨ e = 1 ∨ e = 2 ∨ e = 3 := by omega
                                                  simpa using this
    have h2 : j ∈ ([0, 1, 2, 3] : List Nat) := by have : j = 0 ∨ j = 1 ∨ j = 2 ∨ j = 3 := by omega
                                                  simpa using this
    have h3 := t4 e h1 j h2
    have h4' : L ((ordB L).getD j 0).toNat ((ordB L).getD e 0).toNat = false := by
      simpa [hej] using h3
    rw [← hL (mem4 mj).2.2 (mem4 me).2.2, ← hz', ← hz', key _ (mem4 mj).2.2, key _ (mem4 me).2.2] at h4'
    have h5 : ¬ lexLt ((cols.getD ((ordB L).getD j 0).toNat []).getD fi.toNat 0, wy * (((ordB L).getD j 0).toNat : Int)) ((cols.getD ((ordB L).getD e 0).toNat []).getD fi.toNat 0, wy * (((ordB L).getD e 0).toNat : Int)) = true := by rw [h4']; decide
    rw [lexLt_iff] at h5
    simp only at h5
    omega
  · cases t
end Mine
/-! PK3 -/
set_option maxRecDepth 100000
namespace Mine

/-! sums of powers of 2^w, as lists of their coefficients -/
noncomputable abbrev EntP := Nat × List Nat × List (Int × List Nat)
noncomputable abbrev BkP := List Int × List EntP
noncomputable def addL : List Nat → List Nat → List Nat
  | [], b => b
  | a :: r, [] => a :: r
  | x :: a, y :: b => (x + y) :: addL a b
theorem dvN_cons (d : Nat) (ds : List Nat) (w : Nat) : dvN (d :: ds) w = d + dvN ds w * 2 ^ w := rfl
theorem dvN_addL (w : Nat) : ∀ a b : List Nat, dvN (addL a b) w = dvN a w + dvN b w
  | [], b => by simp [addL, dvN]
  | a :: r, [] => by simp [addL, dvN]
  | x :: a, y :: b => by
    rw [addL, dvN_cons, dvN_cons, dvN_cons, dvN_addL w a b, Nat.add_mul]; omega
noncomputable def evE (w : Nat) (x : EntP) : Ent := ((x.1 : Int), (dvN x.2.1 w : Int), x.2.2.map fun p => (p.1, (dvN p.2 w : Int)))
noncomputable def evB (w : Nat) (b : BkP) : Bk := (b.1, b.2.map (evE w))
noncomputable def lookP (b : BkP) (k : Int) : Option EntP := ((b.1.zip b.2).find? fun p => decide (p.1 = k)).map (·.2)
noncomputable def putP (b : BkP) (k : Int) (x : EntP) : BkP := if k ∈ b.1 then (b.1, b.2.set (b.1.idxOf k) x) else (b.1 ++ [k], b.2 ++ [x])
noncomputable def movedP (e : Int) (p : Int × List Nat) : List Nat := if e < p.1 then 0 :: p.2 else p.2
noncomputable def fallsP (e : Int) (x : EntP) : List Nat := (x.2.2.map (movedP e)).foldl addL []
noncomputable def smallP (p : Int × List Nat) : Bool := decide (p.2.length ≤ 10) && p.2.all fun c => decide (c < 4096)
noncomputable def okP (e : Int) (x old : EntP) : Bool := decide (x.2.2.map (·.1)).Nodup && decide (x.2.2.length ≤ 500) && decide (old.2.2.map (·.1) ++ [e]).Nodup && decide (old.2.2.length ≤ 500) && x.2.2.all smallP
noncomputable def stepP (need : List Int) (mask : Int) (b : BkP) (e : Int) : Option BkP :=
  if gCond need mask e = true then
    match lookP b mask with
    | none => none
    | some x =>
      let old := (lookP b (mask + 2 ^ e.toNat)).getD (0, [], [])
      if okP e x old = true && decide (b.1.length ≤ 5000) then some (putP b (mask + 2 ^ e.toNat) (x.1 + old.1, addL (fallsP e x) old.2.1, old.2.2 ++ [(e, fallsP e x)])) else none
  else some b
noncomputable def maskP (need : List Int) (b : BkP) (mask : Int) : Option BkP :=
  if (lookP b mask).isSome = true then [0, 1, 2, 3].foldlM (stepP need mask) b else some b
noncomputable def runP (need : List Int) : Option BkP := ((List.range 15).map fun i : Nat => (i : Int)).foldlM (maskP need) ([0], [(1, [1], [(-1, [1])])])

theorem lookE_ev (w : Nat) (b : BkP) (k : Int) : lookE (evB w b) k = (lookP b k).map (evE w) := by
  obtain ⟨ks, es⟩ := b
  unfold lookE lookP evB
  simp only
  induction ks generalizing es with
  | nil => simp
  | cons a ks ih =>
    cases es with
    | nil => simp
    | cons x es =>
      simp only [List.map_cons, List.zip_cons_cons, List.find?_cons]
      by_cases q : a = k
      · simp [q]
      · simp only [q, decide_false]; exact ih es
theorem putB_ev (w : Nat) (b : BkP) (k : Int) (x : EntP) : putB (evB w b) k (evE w x) = evB w (putP b k x) := by
  unfold putB putP evB
  by_cases h : k ∈ b.1
  · rw [if_pos h, if_pos h]; simp [List.map_set]
  · rw [if_neg h, if_neg h]; simp
theorem fallsN_ev (w : Nat) (e : Int) (x : EntP) : fallsN (w : Int) e (evE w x) = (dvN (fallsP e x) w : Int) := by
  unfold fallsN fallsP evE
  simp only [List.map_map]
  have m : ∀ p : Int × List Nat, movedN (w : Int) e (p.1, (dvN p.2 w : Int)) = (dvN (movedP e p) w : Int) := fun p => by
    unfold movedN movedP
    by_cases h : e < p.1
    · simp only [h, if_true, Int.toNat_natCast, dvN_cons]
      rw [Nat.zero_add, Int.natCast_mul, Int.natCast_pow]; rfl
    · simp only [h, if_false]; simp
  have go : ∀ (l : List (Int × List Nat)) (a : List Nat), (l.map (movedN (w : Int) e ∘ fun p => (p.1, (dvN p.2 w : Int)))).foldl (· + ·) (dvN a w : Int) = (dvN ((l.map (movedP e)).foldl addL a) w : Int) := by
    intro l
    induction l with
    | nil => intro a; rfl
    | cons p l ih =>
      intro a
      rw [List.map_cons, List.map_cons, List.foldl_cons, List.foldl_cons, ← ih (addL a (movedP e p)), dvN_addL, Int.natCast_add]
      simp only [Function.comp_apply, m]
  have := go x.2.2 []
  simpa [dvN] using this
theorem small_bits {w : Nat} (hw : 12 ≤ w ∧ w ≤ 19) {p : Int × List Nat} (h : smallP p = true) : (Builtin.Int.intBits ((dvN p.2 w : Nat) : Int) : Int) + (w : Int) ≤ 2 ^ 27 := by
  unfold smallP at h
  simp only [Bool.and_eq_true, decide_eq_true_eq, List.all_eq_true] at h
  have h1 := dvN_lt w p.2 fun d hd => Nat.lt_of_lt_of_le (h.2 d hd) (by have := Nat.pow_le_pow_right (n := 2) (by decide) hw.1; exact Nat.le_trans (by decide) this)
  have h2 := natAbs_lt_intBits h1
  have h3 : w * p.2.length ≤ 19 * 10 := Nat.mul_le_mul hw.2 h.1
  have e : (2 : Int) ^ 27 = 134217728 := by decide
  rw [e]; omega
theorem gOk_ev {w : Nat} (hw : 12 ≤ w ∧ w ≤ 19) {e : Int} {x old : EntP} (h : okP e x old = true) : gOk (w : Int) e (evE w x) (evE w old) = true := by
  unfold okP at h
  unfold gOk evE
  simp only [Bool.and_eq_true, decide_eq_true_eq, List.all_eq_true, List.map_map, List.length_map, Function.comp_def] at h ⊢
  obtain ⟨⟨⟨⟨h1, h2⟩, h3⟩, h4⟩, h5⟩ := h
  refine ⟨⟨⟨⟨h1, h2⟩, h3⟩, h4⟩, fun q hq => ?_⟩
  obtain ⟨p, hp, rfl⟩ := List.mem_map.mp hq
  exact small_bits hw (h5 p hp)
theorem stepP_ev {w : Nat} (hw : 12 ≤ w ∧ w ≤ 19) {need : List Int} {mask e : Int} {b b' : BkP} (h : stepP need mask b e = some b') : gStep need (w : Int) mask (evB w b) e = some (evB w b') := by
  unfold stepP at h
  unfold gStep
  by_cases c : gCond need mask e = true
  · rw [if_pos c] at h ⊢
    rw [lookE_ev, lookE_ev]
    cases hx : lookP b mask with
    | none => rw [hx] at h; cases h
    | some x =>
      rw [hx] at h
      simp only [Option.map_some] at h ⊢
      have old : ((lookP b (mask + 2 ^ e.toNat)).map (evE w)).getD (0, 0, []) = evE w ((lookP b (mask + 2 ^ e.toNat)).getD (0, [], [])) := by
        cases lookP b (mask + 2 ^ e.toNat) <;> rfl
      rw [old]
      generalize (lookP b (mask + 2 ^ e.toNat)).getD (0, [], []) = o at h
      split at h
      · rename_i hk
        cases h
        simp only [Bool.and_eq_true, decide_eq_true_eq] at hk
        have hg := gOk_ev hw hk.1
        have hl : (evB w b).1.length ≤ 5000 := hk.2
        rw [if_pos (by simp [hg, hl]), ← putB_ev, fallsN_ev]
        congr 2
        unfold evE
        simp [dvN_addL]
      · cases h
  · rw [if_neg c] at h ⊢
    cases h; rfl
theorem foldlM_ev {α : Type} {ev : BkP → Bk} {f : BkP → α → Option BkP} {f' : Bk → α → Option Bk} (h : ∀ b x b', f b x = some b' → f' (ev b) x = some (ev b')) : ∀ (l : List α) (b b' : BkP), l.foldlM f b = some b' → l.foldlM f' (ev b) = some (ev b')
  | [], b, b', e => by cases e; rfl
  | x :: l, b, b', e => by
    rw [List.foldlM_cons] at e ⊢
    cases q : f b x with
    | none => rw [q] at e; cases e
    | some b1 =>
      rw [q] at e
      rw [h b x b1 q]
      exact foldlM_ev h l b1 b' e
theorem maskP_ev {w : Nat} (hw : 12 ≤ w ∧ w ≤ 19) {need : List Int} {mask : Int} {b b' : BkP} (h : maskP need b mask = some b') : gMask need (w : Int) (evB w b) mask = some (evB w b') := by
  unfold maskP at h
  unfold gMask
  rw [lookE_ev, Option.isSome_map]
  split at h
  · rename_i c
    rw [if_pos c]
    exact foldlM_ev (fun b e b' q => stepP_ev hw q) _ _ _ h
  · rename_i c
    rw [if_neg c]
    cases h; rfl
theorem runP_ev {w : Nat} (hw : 12 ≤ w ∧ w ≤ 19) {need : List Int} {b : BkP} (h : runP need = some b) : gRun need (w : Int) = some (evB w b) := by
  unfold runP at h
  unfold gRun
  have := foldlM_ev (ev := evB w) (f := maskP need) (f' := gMask need (w : Int)) (fun b m b' q => maskP_ev hw q) _ _ _ h
  have e : evB w ([0], [(1, [1], [(-1, [1])])]) = ([0], [(1, 1, [(-1, 1)])]) := by simp [evB, evE, dvN]
  rw [e] at this
  exact this
end Mine
/-! PK4 -/
set_option maxRecDepth 100000
namespace Mine

noncomputable def cnt4 (l : List (Int × Int)) : List Nat := I4.map fun f : Int => (l.filter fun p => p.2 == f).length
noncomputable def pad4 (l : List Nat) : List Nat := (l ++ [0, 0, 0, 0]).take 4
noncomputable def ofLast (ms : List (Int × Int)) (e : Int) : List (Int × Int) := ms.filter fun p => p.1 == e
noncomputable def lastKP (ms : List (Int × Int)) : List Int := I4.filter fun e => !(ofLast ms e).isEmpty
noncomputable def divC (ns : List Int) (tn : List Nat) : Bool :=
  ns == cI (ns.map Int.toNat) && tn.length == 4 && ns.length == 4 && tn.all (fun d => decide (d < 4096)) && (ns.map Int.toNat).all (fun d => decide (d < 4096)) &&
    [12, 13, 14, 15, 16, 17, 18, 19].all fun w => dvN tn w * 2 ^ (5 * w) / (2 ^ w - 1) ^ 5 == dvN (ns.map Int.toNat) w
noncomputable def chkM (ms : List (Int × Int)) (x : EntP) : Bool :=
  decide (0 < ms.length) && decide (ms.length ≤ 100) && ms.all (fun p => decide (0 ≤ p.2) && decide (p.2 ≤ 3)) && x.1 == ms.length && decide (x.2.1.length ≤ 4) && pad4 x.2.1 == cnt4 ms &&
    x.2.2.length == (lastKP ms).length && x.2.2.all fun p => (lastKP ms).contains p.1 && decide (p.2.length ≤ 4) && pad4 p.2 == cnt4 (ofLast ms p.1)
noncomputable def chkS (bs : List (List Int)) : Bool := bs.length == 4 && bs.all (fun b => decide (b.length ≤ 100)) && [0, 1, 2, 3].all fun e : Nat => (bs.getD e []).all fun j => decide (0 ≤ j) && decide (j < (e : Int))
noncomputable def chkR (bs : List (List Int)) : Bool := chkS bs && (match runP (needOf bs) with
  | some b => (match lookP b 15 with
    | some x => chkM (marksOf bs) x
    | none => false)
  | none => false) && divC (numsOf bs 1) (cnt4 (marksOf bs)) && divC (numsOf bs 0) (cnt4 (marksOf bs)).reverse

theorem dvN_pad {l : List Nat} (h : l.length ≤ 4) (w : Nat) : dvN (pad4 l) w = dvN l w := by
  match l, h with
  | [], _ => simp [pad4, dvN]
  | [a], _ => simp [pad4, dvN]
  | [a, b], _ => simp [pad4, dvN]
  | [a, b, c], _ => simp [pad4, dvN]
  | [a, b, c, d], _ => simp [pad4, dvN]
theorem cnt4_val (l : List (Int × Int)) (w : Nat) (h : ∀ p ∈ l, 0 ≤ p.2 ∧ p.2 ≤ 3) : (l.map fun p => (2 : Int) ^ ((w : Int) * p.2).toNat).sum = (dvN (cnt4 l) w : Int) := by
  induction l with
  | nil => simp [cnt4, dvN]
  | cons p l ih =>
    have hp := h p (.head _)
    have ih := ih fun q hq => h q (.tail _ hq)
    rw [List.map_cons, List.sum_cons, ih]
    have e : ∀ f : Int, ((p :: l).filter fun q => q.2 == f).length = (if p.2 = f then 1 else 0) + (l.filter fun q => q.2 == f).length := fun f => by
      rw [List.filter_cons]
      by_cases q : p.2 = f
      · simp [q]; omega
      · simp [q]
    have c4 : ∀ l : List (Int × Int), cnt4 l = [(l.filter fun q => q.2 == 0).length, (l.filter fun q => q.2 == 1).length, (l.filter fun q => q.2 == 2).length, (l.filter fun q => q.2 == 3).length] := fun l => rfl
    have d4 : ∀ a b c d : Nat, dvN [a, b, c, d] w = a + (b + (c + d * 2 ^ w) * 2 ^ w) * 2 ^ w := fun a b c d => by simp [dvN]
    rw [c4, c4, e, e, e, e, d4, d4]
    have pw : ∀ f : Nat, p.2 = (f : Int) → (2 : Int) ^ ((w : Int) * p.2).toNat = (((2 ^ w) ^ f : Nat) : Int) := fun f hf => by
      rw [hf, show ((w : Int) * (f : Int)).toNat = w * f by rw [← Int.natCast_mul, Int.toNat_natCast], ← Nat.pow_mul, Int.natCast_pow]; rfl
    have : p.2 = 0 ∨ p.2 = 1 ∨ p.2 = 2 ∨ p.2 = 3 := by omega
    generalize (l.filter fun q => q.2 == 0).length = n0
    generalize (l.filter fun q => q.2 == 1).length = n1
    generalize (l.filter fun q => q.2 == 2).length = n2
    generalize (l.filter fun q => q.2 == 3).length = n3
    rcases this with q | q | q | q
    · rw [pw 0 q, q, ← Int.natCast_add]
      congr 1
      simp; omega
    · rw [pw 1 q, q, ← Int.natCast_add]
      congr 1
      simp [Nat.add_mul]; omega
    · rw [pw 2 q, q, ← Int.natCast_add]
      congr 1
      simp [Nat.add_mul, Nat.pow_succ]; omega
    · rw [pw 3 q, q, ← Int.natCast_add]
      congr 1
      simp [Nat.add_mul, Nat.pow_succ, Nat.mul_assoc]; omega
theorem sum_pow_pos (l : List (Int × Int)) (w : Nat) : (0 ≤ (l.map fun p => (2 : Int) ^ ((w : Int) * p.2).toNat).sum) ∧ (l ≠ [] → 0 < (l.map fun p => (2 : Int) ^ ((w : Int) * p.2).toNat).sum) := by
  induction l with
  | nil => simp
  | cons p l ih =>
    rw [List.map_cons, List.sum_cons]
    have : (0 : Int) < 2 ^ ((w : Int) * p.2).toNat := Int.pow_pos (by decide)
    exact ⟨by omega, fun _ => by omega⟩
theorem lastK_eq (ms : List (Int × Int)) (w : Nat) : lastK ms w = lastKP ms := by
  unfold lastK lastKP
  apply List.filter_congr
  intro e _
  unfold lastsOf ofLast
  have h := sum_pow_pos (ms.filter fun p => p.1 == e) w
  cases q : ms.filter fun p => p.1 == e with
  | nil => simp
  | cons p l =>
    rw [q] at h
    simpa using h.2 (by simp)
theorem lasts_eq {ms : List (Int × Int)} (h : ∀ p ∈ ms, 0 ≤ p.2 ∧ p.2 ≤ 3) (w : Nat) (e : Int) : lastsOf ms w e = (dvN (cnt4 (ofLast ms e)) w : Int) :=
  cnt4_val _ w fun p hp => h p (List.mem_filter.mp hp).1
theorem allIn_of {ks : List Int} {f : Int → Int} : ∀ l : List (Int × Int), (∀ p ∈ l, p.1 ∈ ks ∧ p.2 = f p.1) → allIn ks (ks.map f) l = true
  | [], _ => rfl
  | (k, x) :: r, h => by
    obtain ⟨h1, h2⟩ := h (k, x) (.head _)
    unfold allIn
    rw [List.map_map, lookD_map (f := V.int ∘ f) h1]
    simp only [Function.comp_apply] at h2 ⊢
    rw [allIn_of r fun p hp => h p (.tail _ hp), h2]; simp
theorem digs_dvN (w : Nat) : ∀ tn : List Nat, (∀ d ∈ tn, d < 2 ^ w) → digs w tn.length (dvN tn w) = cI tn
  | [], _ => rfl
  | d :: r, h => by
    rw [List.length_cons, digs, dvN_cons, Nat.add_mul_mod_self_right, Nat.mod_eq_of_lt (h d (.head _)), Nat.add_mul_div_right _ _ (Nat.two_pow_pos _), Nat.div_eq_of_lt (h d (.head _)), Nat.zero_add, digs_dvN w r fun x hx => h x (.tail _ hx)]
    rfl
theorem digs_zero (w : Nat) : ∀ k, digs w k 0 = List.replicate k 0
  | 0 => rfl
  | k + 1 => by rw [digs, Nat.zero_mod, Nat.zero_div, digs_zero w k]; rfl
theorem figs_digits {w : Nat} (hw : 12 ≤ w ∧ w ≤ 19) {tn : List Nat} (hl : tn.length = 4) (h : ∀ d ∈ tn, d < 2 ^ w) (hp : 0 < dvN tn w) : i2dN (dvN tn w) w ≤ 4 ∧ (digs w (i2dN (dvN tn w) w) (dvN tn w) ++ [0, 0, 0]).take 4 = cI tn := by
  have hlt := dvN4 hl h
  have hb := natAbs_lt_intBits hlt
  have hbits := lt_two_pow_intBits (dvN tn w)
  have hk4 : i2dN (dvN tn w) w ≤ 4 := by
    unfold i2dN
    refine Nat.le_of_lt_succ ((Nat.div_lt_iff_lt_mul (by omega)).mpr ?_)
    omega
  have hkl : dvN tn w < 2 ^ (w * i2dN (dvN tn w) w) := by
    refine Nat.lt_of_lt_of_le hbits (Nat.pow_le_pow_right (by decide) ?_)
    unfold i2dN
    have := Nat.div_add_mod (Builtin.Int.intBits (dvN tn w : Int) + w - 1) w
    have h2 := Nat.mod_lt (Builtin.Int.intBits (dvN tn w : Int) + w - 1) (by omega : 0 < w)
    omega
  refine ⟨hk4, ?_⟩
  have hd := digs_dvN w tn h
  rw [hl] at hd
  generalize i2dN (dvN tn w) w = k at hk4 hkl
  have hk1 : 1 ≤ k := by
    cases k with
    | zero => rw [Nat.mul_zero] at hkl; omega
    | succ k => omega
  have sp := digs_split w k (4 - k) (dvN tn w)
  rw [show k + (4 - k) = 4 by omega, Nat.mod_eq_of_lt hkl, Nat.div_eq_of_lt hkl, digs_zero, hd] at sp
  rw [sp]
  have hlen := digs_length w k (dvN tn w)
  generalize digs w k (dvN tn w) = ds at hlen
  have : k = 1 ∨ k = 2 ∨ k = 3 ∨ k = 4 := by omega
  rcases this with rfl | rfl | rfl | rfl
  · match ds, hlen with | [a], _ => rfl
  · match ds, hlen with | [a, b], _ => rfl
  · match ds, hlen with | [a, b, c], _ => rfl
  · match ds, hlen with | [a, b, c, d], _ => rfl
theorem div_of {bs : List (List Int)} {w : Nat} (hw : 12 ≤ w ∧ w ≤ 19) {tn : List Nat} {step : Int} (h : divC (numsOf bs step) tn = true) : divOk bs w tn step := by
  unfold divC at h
  simp only [Bool.and_eq_true, beq_iff_eq, List.all_eq_true, decide_eq_true_eq] at h
  obtain ⟨⟨⟨⟨⟨h1, h2⟩, h3⟩, h4⟩, h5⟩, h6⟩ := h
  have hp : 4096 ≤ 2 ^ w := Nat.le_trans (by decide) (Nat.pow_le_pow_right (n := 2) (by decide) hw.1)
  refine ⟨(numsOf bs step).map Int.toNat, h1, h2, by rw [List.length_map]; exact h3, fun d hd => Nat.lt_of_lt_of_le (h4 d hd) hp, fun d hd => Nat.lt_of_lt_of_le (h5 d hd) hp, ?_⟩
  have : w = 12 ∨ w = 13 ∨ w = 14 ∨ w = 15 ∨ w = 16 ∨ w = 17 ∨ w = 18 ∨ w = 19 := by omega
  exact h6 w (by simp; omega)
theorem plain_of {bs : List (List Int)} {w : Nat} (hw : 12 ≤ w ∧ w ≤ 19) (h : chkR bs = true) : ∃ x, Plain bs w x := by
  unfold chkR at h
  simp only [Bool.and_eq_true] at h
  obtain ⟨⟨⟨hs, hm⟩, d1⟩, d0⟩ := h
  split at hm
  case h_2 => cases hm
  rename_i b hb
  split at hm
  case h_2 => cases hm
  rename_i x hx
  unfold chkM at hm
  simp only [Bool.and_eq_true, beq_iff_eq, List.all_eq_true, decide_eq_true_eq, List.contains_iff_mem] at hm
  obtain ⟨⟨⟨⟨⟨⟨⟨m1, m2⟩, m3⟩, m4⟩, m5⟩, m6⟩, m7⟩, m8⟩ := hm
  unfold chkS at hs
  simp only [Bool.and_eq_true, beq_iff_eq, List.all_eq_true, decide_eq_true_eq] at hs
  obtain ⟨⟨s1, s2⟩, s3⟩ := hs
  have D1 := div_of hw d1
  have D0 := div_of hw d0
  have tl : (cnt4 (marksOf bs)).length = 4 := by unfold cnt4; simp
  obtain ⟨_, _, _, _, tlt, _, _⟩ := D1
  have D1 := div_of hw d1
  have e21 : dvN x.2.1 w = dvN (cnt4 (marksOf bs)) w := by rw [← dvN_pad m5, m6]
  have pos : 0 < dvN (cnt4 (marksOf bs)) w := by
    have := cnt4_val (marksOf bs) w m3
    have h2 := (sum_pow_pos (marksOf bs) w).2 (by intro q; rw [q] at m1; simp at m1)
    omega
  obtain ⟨f1, f2⟩ := figs_digits hw tl tlt pos
  have fc : figsOf (marksOf bs) = cI (cnt4 (marksOf bs)) := by unfold figsOf cI cnt4; rw [List.map_map]; rfl
  refine ⟨evE w x, ⟨s1, s2, fun e he j hj => s3 e (by have : e = 0 ∨ e = 1 ∨ e = 2 ∨ e = 3 := by omega
                                                      simpa using this) j hj, hw, m2, m3, ⟨evB w b, runP_ev hw hb, by rw [lookE_ev, hx]; rfl⟩, ?_, ?_, ?_⟩⟩
  · show (x.1 : Int) = _; rw [m4]
  · rw [lastK_eq]
    show ((x.2.2.map fun p => (p.1, (dvN p.2 w : Int))).length == (lastKP (marksOf bs)).length && _) = true
    rw [List.length_map, m7]
    simp only [beq_self_eq_true, Bool.true_and]
    refine allIn_of _ fun q hq => ?_
    obtain ⟨p, hp, rfl⟩ := List.mem_map.mp hq
    obtain ⟨⟨p1, p2⟩, p3⟩ := m8 p hp
    refine ⟨p1, ?_⟩
    show (dvN p.2 w : Int) = lastsOf _ w p.1
    rw [lasts_eq m3, ← p3, dvN_pad p2]
  · refine ⟨dvN (cnt4 (marksOf bs)) w, cnt4 (marksOf bs), ?_, by omega, by rw [f2, fc], fc, D1, D0⟩
    show (dvN x.2.1 w : Int) = _
    rw [e21]
end Mine
/-! PK5 -/
set_option maxRecDepth 100000
namespace Mine

noncomputable def relB (b0 b1 b2 b3 b4 b5 : Bool) : List (List Int) :=
  [[], if b0 then [0] else [], (if b1 then [0] else []) ++ (if b2 then [1] else []), (if b3 then [0] else []) ++ (if b4 then [1] else []) ++ (if b5 then [2] else [])]
theorem rel_ff : ∀ b2 b3 b4 b5 : Bool, chkR (relB false false b2 b3 b4 b5) = true := by decide +kernel
theorem rel_ft : ∀ b2 b3 b4 b5 : Bool, chkR (relB false true b2 b3 b4 b5) = true := by decide +kernel
theorem rel_tf : ∀ b2 b3 b4 b5 : Bool, chkR (relB true false b2 b3 b4 b5) = true := by decide +kernel
theorem rel_tt : ∀ b2 b3 b4 b5 : Bool, chkR (relB true true b2 b3 b4 b5) = true := by decide +kernel
theorem rel_facts (b0 b1 b2 b3 b4 b5 : Bool) : chkR (relB b0 b1 b2 b3 b4 b5) = true := by
  cases b0
  · cases b1
    · exact rel_ff b2 b3 b4 b5
    · exact rel_ft b2 b3 b4 b5
  · cases b1
    · exact rel_tf b2 b3 b4 b5
    · exact rel_tt b2 b3 b4 b5

theorem below_rel {a b c d : List Int} (h : ∀ e j : Nat, e ≤ j → j < 4 → strict ([a, b, c, d].getD j []) ([a, b, c, d].getD e []) = false) :
    belowOf [a, b, c, d] = relB (strict a b) (strict a c) (strict b c) (strict a d) (strict b d) (strict c d) := by
  have h00 := h 0 0 (by decide) (by decide)
  have h01 := h 0 1 (by decide) (by decide)
  have h02 := h 0 2 (by decide) (by decide)
  have h03 := h 0 3 (by decide) (by decide)
  have h11 := h 1 1 (by decide) (by decide)
  have h12 := h 1 2 (by decide) (by decide)
  have h13 := h 1 3 (by decide) (by decide)
  have h22 := h 2 2 (by decide) (by decide)
  have h23 := h 2 3 (by decide) (by decide)
  have h33 := h 3 3 (by decide) (by decide)
  have h00 : strict a a = false := h00
  have h01 : strict b a = false := h01
  have h02 : strict c a = false := h02
  have h03 : strict d a = false := h03
  have h11 : strict b b = false := h11
  have h12 : strict c b = false := h12
  have h13 : strict d b = false := h13
  have h22 : strict c c = false := h22
  have h23 : strict d c = false := h23
  have h33 : strict d d = false := h33
  have fl : ∀ q : Int → Bool, I4.filter q = (if q 0 then [0] else []) ++ (if q 1 then [1] else []) ++ (if q 2 then [2] else []) ++ (if q 3 then [3] else []) := fun q => by
    cases e0 : q 0 <;> cases e1 : q 1 <;> cases e2 : q 2 <;> cases e3 : q 3 <;> simp [List.filter, e0, e1, e2, e3]
  show [I4.filter fun j => strict ([a, b, c, d].getD j.toNat []) a, I4.filter fun j => strict ([a, b, c, d].getD j.toNat []) b, I4.filter fun j => strict ([a, b, c, d].getD j.toNat []) c, I4.filter fun j => strict ([a, b, c, d].getD j.toNat []) d] = _
  rw [fl, fl, fl, fl]
  show [(if strict a a then [0] else []) ++ (if strict b a then [1] else []) ++ (if strict c a then [2] else []) ++ (if strict d a then [3] else []), (if strict a b then [0] else []) ++ (if strict b b then [1] else []) ++ (if strict c b then [2] else []) ++ (if strict d b then [3] else []), (if strict a c then [0] else []) ++ (if strict b c then [1] else []) ++ (if strict c c then [2] else []) ++ (if strict d c then [3] else []), (if strict a d then [0] else []) ++ (if strict b d then [1] else []) ++ (if strict c d then [2] else []) ++ (if strict d d then [3] else [])] = _
  rw [h00, h01, h02, h03, h11, h12, h13, h22, h23, h33]
  simp [relB]
theorem strict_lt {xs ys : List Int} (h : strict xs ys = true) {n : Int} (hn : n ∈ I4) : xs.getD n.toNat 0 < ys.getD n.toNat 0 := by
  unfold strict at h
  have h := beq_iff_eq.mp h
  have := List.filter_eq_nil_iff.mp h n hn
  simp only [decide_eq_true_eq] at this
  omega

theorem asked : ∀ ns : List Int, ns.length ≤ 63 → ∃ p w x, Asked ns p w x := by
  intro ns hn
  have ll : (leadsOf ns).length = 4 := by unfold leadsOf drawnOf; simp
  have lc : ((leadsOf ns).map colsOf).length = 4 := by rw [List.length_map]; exact ll
  have h4 : ∀ l ∈ (leadsOf ns).map colsOf, l.length = 4 := fun l hl => by obtain ⟨x, _, rfl⟩ := List.mem_map.mp hl; exact cols_len4 x
  have hf := fst4_lt ns
  obtain ⟨p, o1, o2, o3, o4, o5⟩ := order_facts lc h4 hf (way2_or ns)
  obtain ⟨w1, w2⟩ := fmod_bound (ns.length : Int) (m := 8) (by decide)
  have hwid : wid ns = ((12 + ((ns.length : Int).fmod 8).toNat : Nat) : Int) := by unfold wid; omega
  have hw : 12 ≤ 12 + ((ns.length : Int).fmod 8).toNat ∧ 12 + ((ns.length : Int).fmod 8).toNat ≤ 19 := by omega
  generalize 12 + ((ns.length : Int).fmod 8).toNat = w at hwid hw
  have hfm : fst4 ns ∈ I4 := by have : fst4 ns = 0 ∨ fst4 ns = 1 ∨ fst4 ns = 2 ∨ fst4 ns = 3 := by omega
                                simpa using this
  have hbs : ∃ b0 b1 b2 b3 b4 b5 : Bool, belowOf (seenOf ((leadsOf ns).map colsOf) (ordO (ltO (rowsOf ((leadsOf ns).map colsOf)) (fst4 ns) (way2 ns)))) = relB b0 b1 b2 b3 b4 b5 := by
    generalize ordO (ltO (rowsOf ((leadsOf ns).map colsOf)) (fst4 ns) (way2 ns)) = ord at o4 o5
    have hg : ∀ i : Nat, i < 4 → (seenOf ((leadsOf ns).map colsOf) ord).getD i [] = ((leadsOf ns).map colsOf).getD (ord.getD i 0).toNat [] := fun i hi => by
      unfold seenOf
      rw [List.getD_eq_getElem?_getD, List.getElem?_map, getD_of (d := 0) (show i < ord.length by omega)]; rfl
    have hl : (seenOf ((leadsOf ns).map colsOf) ord).length = 4 := by unfold seenOf; rw [List.length_map]; exact o4
    have key : ∀ e j : Nat, e ≤ j → j < 4 → strict ((seenOf ((leadsOf ns).map colsOf) ord).getD j []) ((seenOf ((leadsOf ns).map colsOf) ord).getD e []) = false := fun e j he hj => by
      cases q : strict ((seenOf ((leadsOf ns).map colsOf) ord).getD j []) ((seenOf ((leadsOf ns).map colsOf) ord).getD e []) with
      | false => rfl
      | true =>
        have lt := strict_lt q hfm
        rw [hg j hj, hg e (by omega)] at lt
        rcases Nat.lt_or_eq_of_le he with h | h
        · have := o5 e j h hj; omega
        · subst h; omega
    obtain ⟨a, b, c, d, e⟩ := list4 hl
    rw [e] at key ⊢
    exact ⟨_, _, _, _, _, _, below_rel key⟩
  obtain ⟨b0, b1, b2, b3, b4, b5, hbs⟩ := hbs
  obtain ⟨x, hx⟩ := plain_of hw (rel_facts b0 b1 b2 b3 b4 b5)
  exact ⟨p, w, x, hn, fun x hx => leads_ok hx, o1, o2, o3, o4, fun x hx y hy => leads_less hx hy, hwid, hbs ▸ hx⟩
end Mine
/-! PJ23 -/
set_option maxRecDepth 10000
namespace Mine

/-! what a fragment says of a function -/
noncomputable def fInfo (K : Frag) (a : Addr) : Option (Scope × FuncBody × Addr × Addr × List (Str × Addr) × Arguments × Value × Value × Str × Value × Option Str) := match K.lookup a with
  | some ⟨_, _, .func fd, _⟩ => some (fd.scope, fd.body, fd.globals, fd.builtins, fd.closure, fd.params, fd.defaults, fd.kwdefaults, fd.qualname, fd.code,
      match fd.code with
      | .ref c => (match K.lookup c with
        | some ⟨_, _, .fields vs, _⟩ => (match (vs[1]? : Option Value) with | some (.str x _) => some x | _ => none)
        | _ => none)
      | _ => none)
  | _ => none
noncomputable def fiR (s : Scope) (b : List Stmt) (ps : Arguments) (q : Str) (c : Addr) : Option (Scope × FuncBody × Addr × Addr × List (Str × Addr) × Arguments × Value × Value × Str × Value × Option Str) := some (s, .stmts b, mainGlobals, builtinsNs, [], ps, .none, .none, q, .ref c, some q)
theorem fInfo_at {K : Frag} {h : Heap} (X : K.In h) {a c : Addr} {sc : Scope} {bdy : FuncBody} {ps : Arguments} {q : Str} (e : fInfo K a = some (sc, bdy, mainGlobals, builtinsNs, [], ps, .none, .none, q, .ref c, some q)) :
    ∃ o fd, h.get? a = some o ∧ o.data = .func fd ∧ fd.scope = sc ∧ fd.body = bdy ∧ fd.globals = mainGlobals ∧ fd.builtins = builtinsNs ∧ fd.closure = [] ∧ h.CodeRec fd.code fd.qualname ∧ fd.params = ps ∧ fd.defaults = .none ∧ fd.kwdefaults = .none ∧ fd.qualname = q ∧ fd.code = .ref c := by
  unfold fInfo at e
  split at e
  · rename_i cl d fd sl ho
    simp only [Option.some.injEq, Prod.mk.injEq] at e
    obtain ⟨e1, e2, e3, e4, e5, e6, e7, e8, e9, e10, e11⟩ := e
    refine ⟨_, fd, X _ _ ho, rfl, e1, e2, e3, e4, e5, ?_, e6, e7, e8, e9, e10⟩
    rw [e10] at e11 ⊢
    simp only at e11
    split at e11
    · rename_i cl' d' vs sl' hc
      split at e11
      · rename_i x t hx
        cases e11
        rw [e9]
        exact ⟨c, _, vs, t, rfl, X _ _ hc, rfl, hx⟩
      · cases e11
    · cases e11
  · cases e
theorem FnAt.ofK {D : Wd} {K : Frag} (X : K.In D.h₀) {fa c : Addr} {xs : List Str} {body : List Stmt} {scope : Scope} {ps : Arguments} {q : Str} (e : fInfo K fa = fiR scope body ps q c)
    (hb : ∀ fd : FuncData, fd.params = ps → fd.defaults = .none → fd.kwdefaults = .none → ∀ vs : List Value, vs.length = xs.length → bindArgs fd ⟨vs, []⟩ = pure (xs.zip vs)) : FnAt D fa xs body scope := by
  obtain ⟨o, fd, h1, h2, h3, h4, h5, h6, h7, h8, h9, h10, h11, h12, h13⟩ := fInfo_at X e
  exact ⟨o, fd, h1, h2, h3, h4, h5, h6, h7, h8, hb fd h9 h10 h11⟩
theorem NestAt.ofK {D : Wd} {K : Frag} (X : K.In D.h₀) {fa c T : Addr} {body : List Stmt} {scope : Scope} {ps : Arguments} {q qual : Str} {pos : Pos} (e : fInfo K fa = fiR scope body ps q c)
    (C : CodeHd D.h₀ c T) (B : D.h₀.BuiltinsAt D.mg T) (hti : (T, pos, qual) ∈ D.ti) (hnd : (D.ti.map (·.1)).Nodup) : NestAt D fa pos qual q := by
  obtain ⟨o, fd, h1, h2, h3, h4, h5, h6, h7, h8, h9, h10, h11, h12, h13⟩ := fInfo_at X e
  refine ⟨⟨c, T, C, B, hti, fun o' fd' e1 e2 => ?_⟩, hnd⟩
  rw [h1] at e1; cases e1
  rw [h2] at e2; cases e2
  exact ⟨h13, h12⟩

theorem bind1 {ps : Arguments} {n1 : Str} (h : ∀ (f1 f2 : Str) (f4 : FuncBody) (f5 : Scope) (f6 : Addr) (f7 : List (Str × Addr)) (f10 f11 : Value) (f12 : Option Addr) (f13 f14 : Value) (f15 : Addr) (u : Value), bindArgs ⟨f1, f2, ps, f4, f5, f6, f7, .none, .none, f10, f11, f12, f13, f14, f15⟩ ⟨[u], []⟩ = pure ([n1].zip [u])) :
    ∀ fd : FuncData, fd.params = ps → fd.defaults = .none → fd.kwdefaults = .none → ∀ vs : List Value, vs.length = [n1].length → bindArgs fd ⟨vs, []⟩ = pure ([n1].zip vs) := by
  intro fd e1 e2 e3 vs hv
  obtain ⟨u, rfl⟩ : ∃ u, vs = [u] := by
    match vs, hv with
    | [u], _ => exact ⟨u, rfl⟩
  obtain ⟨f1, f2, f3, f4, f5, f6, f7, f8, f9, f10, f11, f12, f13, f14, f15⟩ := fd
  simp only at e1 e2 e3
  subst e1 e2 e3
  exact h ..
theorem bind2 {ps : Arguments} {n1 n2 : Str} (h : ∀ (f1 f2 : Str) (f4 : FuncBody) (f5 : Scope) (f6 : Addr) (f7 : List (Str × Addr)) (f10 f11 : Value) (f12 : Option Addr) (f13 f14 : Value) (f15 : Addr) (u v : Value), bindArgs ⟨f1, f2, ps, f4, f5, f6, f7, .none, .none, f10, f11, f12, f13, f14, f15⟩ ⟨[u, v], []⟩ = pure ([n1, n2].zip [u, v])) :
    ∀ fd : FuncData, fd.params = ps → fd.defaults = .none → fd.kwdefaults = .none → ∀ vs : List Value, vs.length = [n1, n2].length → bindArgs fd ⟨vs, []⟩ = pure ([n1, n2].zip vs) := by
  intro fd e1 e2 e3 vs hv
  obtain ⟨u, v, rfl⟩ : ∃ u v, vs = [u, v] := by
    match vs, hv with
    | [u, v], _ => exact ⟨u, v, rfl⟩
  obtain ⟨f1, f2, f3, f4, f5, f6, f7, f8, f9, f10, f11, f12, f13, f14, f15⟩ := fd
  simp only at e1 e2 e3
  subst e1 e2 e3
  exact h ..
theorem bind3 {ps : Arguments} {n1 n2 n3 : Str} (h : ∀ (f1 f2 : Str) (f4 : FuncBody) (f5 : Scope) (f6 : Addr) (f7 : List (Str × Addr)) (f10 f11 : Value) (f12 : Option Addr) (f13 f14 : Value) (f15 : Addr) (u v w : Value), bindArgs ⟨f1, f2, ps, f4, f5, f6, f7, .none, .none, f10, f11, f12, f13, f14, f15⟩ ⟨[u, v, w], []⟩ = pure ([n1, n2, n3].zip [u, v, w])) :
    ∀ fd : FuncData, fd.params = ps → fd.defaults = .none → fd.kwdefaults = .none → ∀ vs : List Value, vs.length = [n1, n2, n3].length → bindArgs fd ⟨vs, []⟩ = pure ([n1, n2, n3].zip vs) := by
  intro fd e1 e2 e3 vs hv
  obtain ⟨u, v, w, rfl⟩ : ∃ u v w, vs = [u, v, w] := by
    match vs, hv with
    | [u, v, w], _ => exact ⟨u, v, w, rfl⟩
  obtain ⟨f1, f2, f3, f4, f5, f6, f7, f8, f9, f10, f11, f12, f13, f14, f15⟩ := fd
  simp only at e1 e2 e3
  subst e1 e2 e3
  exact h ..
theorem well_list {P : Params} {h : Heap} {a : Addr} {us : List Value} {d : WData} (W : Well P h (.ref a) d) (hl : h.IsList a us.toArray) : ∃ n, h.get? a = some { cls := .type "list", data := .seq us.toArray n } := by
  obtain ⟨o, e, hc, n, hd⟩ := hl
  cases W with
  | list e' _ => rw [e] at e'; cases e'; cases hd; exact ⟨_, e⟩
  | bytearray e' => rw [e] at e'; cases e'; cases hd
  | tuple e' _ => rw [e] at e'; cases e'; simp at hc
  | dict e' _ => rw [e] at e'; cases e'; cases hd
  | set e' _ _ _ => rw [e] at e'; cases e'; cases hd
  | frozenset e' _ _ _ => rw [e] at e'; cases e'; cases hd
  | obj e' _ _ _ => rw [e] at e'; cases e'; cases hd

/-! the law is called -/
theorem law_call {D : Wd} {K : Frag} {A : Around} (Y : Lw D K) {fa : Addr} (F : FnAt D fa ["script"] (bd 21) (sc 21)) (N : NestAt D fa lamPos "law.<locals>.<lambda>" "law") (hh : A.handled = none) (hroom : A.depth + 500 < recursionLimit) (hu : A.units + 1000 < cLine) {ns : List Int} {p : Array Nat} {w : Nat} {x : Ent} (H : Asked ns p w x)
    {G : PO} {s : Shared} {vs : List Value} {R : Result → Shared → Prop} (g : GOK D G s) (r : VRs D G [lV ns] vs) (hR : ∀ v s', Post D G s (.bool true) v s' → R (.ok (.ret v)) s') : codeAny D.M A (.call (.ref fa) ⟨vs, []⟩) R s := by
  obtain ⟨ob, fd, e, ed, es, eb, eg, eu, ec, ecd, ebind⟩ := F.obj
  obtain ⟨⟨cA, T, C, B, hti, hfd⟩, hnd⟩ := N
  obtain ⟨hcode, hqn⟩ := hfd ob fd e ed
  refine codeAny_call_function (fd := fd) (by omega) (g.base' _ _ e) ed (by rw [es]; rfl) (by rw [es]; rfl) eb (ecd.keeps g.base') ?_
  rw [ebind vs (by rw [← r.length]; rfl), es, eg, eu, ec]
  refine wpAny_pure (newEnv_fn (D := D) (A := A) (G0 := G) (s0 := s) (ρ := List.replicate (nk (sc 21).names).length none) (by decide +kernel) rfl r (fun k => fn_frame (Ext.refl ..) g hh (by decide +kernel) rfl (by simp) (fun i x h1 h2 => ?_) (fun i sl h => ?_)) fun s' S' => ?_)
  · have hfree : (nkK (sc 21).names).all (· != .ext) = true := by decide +kernel
    have := List.all_eq_true.mp hfree .ext (List.mem_of_getElem? h2)
    simp at this
  · rw [List.getElem?_replicate] at h; split at h <;> cases h
  · refine ⟨Y.P.gd.lim.keeps S'.ok.base', codeAny_func ?_⟩
    have hx := law_body Y (fnCx_fn (D := D) (A := A) (scope := sc 21) (cl := []) (L := s.heap.objs.size) (qual := fd.qualname ++ ".<locals>.") (fa := fa) (code := fd.code) (G0 := G) (s0 := s) hh rfl) (by omega) (by omega) ns hcode (by rw [← hqn]; rfl) C B hti hnd H
    rw [← show (["script"] : List Str).map (fun x => (nkN (sc 21).names).idxOf x) = [0] by decide +kernel, ← show (nk (sc 21).names).length = 30 by decide +kernel, ← bindRo_all] at hx
    refine wpAny_mono (hx.run G s' _ S') (fun f s₂ p => ?_) fun _ _ e => e
    obtain ⟨v, rfl, G₂, ρ₂, S₂, _, rv⟩ := p
    exact hR _ _ ⟨G₂, S₂.ext, S₂.ok, rv⟩
end Mine
/-! PH1 -/
set_option maxRecDepth 100000
namespace Mine
/-! the head: what the run of the top leaves behind -/
noncomputable def K0 (P : Params) : Frag := [
  (2, { cls := Value.none, data := Data.dict #[] }),
  (3, { cls := Value.type "dict", data := Data.dict #[{ hash := PyData.keyHash P (Str.ofString "__name__"), key := Value.str (Str.ofString "__name__") 165, val := Value.str (Str.ofString "law_ph0169_01") 450 }, { hash := PyData.keyHash P (Str.ofString "__doc__"), key := Value.str (Str.ofString "__doc__") 166, val := Value.none }, { hash := PyData.keyHash P (Str.ofString "__package__"), key := Value.str (Str.ofString "__package__") 167, val := Value.none }, { hash := PyData.keyHash P (Str.ofString "__loader__"), key := Value.str (Str.ofString "__loader__") 168, val := Value.builtin "__main__.__loader__#opaque" }, { hash := PyData.keyHash P (Str.ofString "__spec__"), key := Value.str (Str.ofString "__spec__") 169, val := Value.none }, { hash := PyData.keyHash P (Str.ofString "__annotations__"), key := Value.str (Str.ofString "__annotations__") 170, val := Value.ref 6 }, { hash := PyData.keyHash P (Str.ofString "__builtins__"), key := Value.str (Str.ofString "__builtins__") 171, val := Value.ref 4 }, { hash := PyData.keyHash P (Str.ofString "__file__"), key := Value.str (Str.ofString "__file__") 173, val := Value.str (Str.ofString "/claim/cut.py") 172 }, { hash := PyData.keyHash P (Str.ofString "__cached__"), key := Value.str (Str.ofString "__cached__") 174, val := Value.none }, { hash := PyData.keyHash P (Str.ofString "_wall"), key := Value.str (Str.ofString "_wall") 193, val := Value.ref 21 }, { hash := PyData.keyHash P (Str.ofString "_DIV_LIMIT"), key := Value.str (Str.ofString "_DIV_LIMIT") 197, val := Value.int 4000 196 }, { hash := PyData.keyHash P (Str.ofString "_div2n1n"), key := Value.str (Str.ofString "_div2n1n") 214, val := Value.ref 28 }, { hash := PyData.keyHash P (Str.ofString "_div3n2n"), key := Value.str (Str.ofString "_div3n2n") 228, val := Value.ref 35 }, { hash := PyData.keyHash P (Str.ofString "_int2digits"), key := Value.str (Str.ofString "_int2digits") 239, val := Value.ref 42 }, { hash := PyData.keyHash P (Str.ofString "_digits2int"), key := Value.str (Str.ofString "_digits2int") 250, val := Value.ref 49 }, { hash := PyData.keyHash P (Str.ofString "_divmod_pos"), key := Value.str (Str.ofString "_divmod_pos") 265, val := Value.ref 56 }, { hash := PyData.keyHash P (Str.ofString "TupleComp"), key := Value.str (Str.ofString "TupleComp") 309, val := Value.ref 80 }, { hash := PyData.keyHash P (Str.ofString "add_func_stats"), key := Value.str (Str.ofString "add_func_stats") 327, val := Value.ref 91 }, { hash := PyData.keyHash P (Str.ofString "add_callers"), key := Value.str (Str.ofString "add_callers") 338, val := Value.ref 98 }, { hash := PyData.keyHash P (Str.ofString "count_calls"), key := Value.str (Str.ofString "count_calls") 347, val := Value.ref 105 }, { hash := PyData.keyHash P (Str.ofString "Whitespace"), key := Value.str (Str.ofString "Whitespace") 449, val := Value.ref 167 }, { hash := PyData.keyHash P (Str.ofString "_law_lead"), key := Value.str (Str.ofString "_law_lead") 457, val := Value.ref 176 }, { hash := PyData.keyHash P (Str.ofString "_law_columns"), key := Value.str (Str.ofString "_law_columns") 468, val := Value.ref 183 }, { hash := PyData.keyHash P (Str.ofString "_law_orders"), key := Value.str (Str.ofString "_law_orders") 474, val := Value.ref 188 }, { hash := PyData.keyHash P (Str.ofString "_law_numberings"), key := Value.str (Str.ofString "_law_numberings") 480, val := Value.ref 193 }, { hash := PyData.keyHash P (Str.ofString "_law_gathered"), key := Value.str (Str.ofString "_law_gathered") 486, val := Value.ref 198 }, { hash := PyData.keyHash P (Str.ofString "law"), key := Value.str (Str.ofString "law") 492, val := Value.ref 203 }] 27 }),
  (27, { cls := Value.type "code", data := Data.fields #[Value.str (Str.ofString "_div2n1n") 198, Value.str (Str.ofString "_div2n1n") 199, Value.str (Str.ofString "/claim/cut.py") 200, Value.int 6 0, Value.int 3 0, Value.int 0 0, Value.int 0 0, Value.int 3 0, Value.ref 22, Value.bool true, Value.int 181 0, Value.ref 23, Value.none, Value.ref 24, Value.ref 25, Value.ref 26, Value.int 212 0, Value.int 6 0, Value.str (Str.ofString "/claim/cut.py") 213] }),
  (28, { cls := Value.type "function", data := Data.func { name := Str.ofString "_div2n1n", qualname := Str.ofString "_div2n1n", params := defArgs (top 3), body := FuncBody.stmts (bd 3), scope := sc 3, globals := 3, closure := [], defaults := Value.none, kwdefaults := Value.none, pyModule := Value.str (Str.ofString "cpy313._pylong") 194, code := Value.ref 27 } }),
  (41, { cls := Value.type "code", data := Data.fields #[Value.str (Str.ofString "_int2digits") 229, Value.str (Str.ofString "_int2digits") 230, Value.str (Str.ofString "/claim/cut.py") 231, Value.int 32 0, Value.int 2 0, Value.int 0 0, Value.int 0 0, Value.int 3 0, Value.ref 36, Value.bool true, Value.int 181 0, Value.ref 37, Value.none, Value.ref 38, Value.ref 39, Value.ref 40, Value.int 237 0, Value.int 32 0, Value.str (Str.ofString "/claim/cut.py") 238] }),
  (42, { cls := Value.type "function", data := Data.func { name := Str.ofString "_int2digits", qualname := Str.ofString "_int2digits", params := defArgs (top 5), body := FuncBody.stmts (bd 5), scope := sc 5, globals := 3, closure := [], defaults := Value.none, kwdefaults := Value.none, pyModule := Value.str (Str.ofString "cpy313._pylong") 194, code := Value.ref 41 } }),
  (48, { cls := Value.type "code", data := Data.fields #[Value.str (Str.ofString "_digits2int") 240, Value.str (Str.ofString "_digits2int") 241, Value.str (Str.ofString "/claim/cut.py") 242, Value.int 48 0, Value.int 2 0, Value.int 0 0, Value.int 0 0, Value.int 3 0, Value.ref 43, Value.bool true, Value.int 181 0, Value.ref 44, Value.none, Value.ref 45, Value.ref 46, Value.ref 47, Value.int 248 0, Value.int 48 0, Value.str (Str.ofString "/claim/cut.py") 249] }),
  (49, { cls := Value.type "function", data := Data.func { name := Str.ofString "_digits2int", qualname := Str.ofString "_digits2int", params := defArgs (top 6), body := FuncBody.stmts (bd 6), scope := sc 6, globals := 3, closure := [], defaults := Value.none, kwdefaults := Value.none, pyModule := Value.str (Str.ofString "cpy313._pylong") 194, code := Value.ref 48 } }),
  (55, { cls := Value.type "code", data := Data.fields #[Value.str (Str.ofString "_divmod_pos") 251, Value.str (Str.ofString "_divmod_pos") 252, Value.str (Str.ofString "/claim/cut.py") 253, Value.int 57 0, Value.int 2 0, Value.int 0 0, Value.int 0 0, Value.int 3 0, Value.ref 50, Value.bool true, Value.int 181 0, Value.ref 51, Value.none, Value.ref 52, Value.ref 53, Value.ref 54, Value.int 263 0, Value.int 57 0, Value.str (Str.ofString "/claim/cut.py") 264] }),
  (56, { cls := Value.type "function", data := Data.func { name := Str.ofString "_divmod_pos", qualname := Str.ofString "_divmod_pos", params := defArgs (top 7), body := FuncBody.stmts (bd 7), scope := sc 7, globals := 3, closure := [], defaults := Value.none, kwdefaults := Value.none, pyModule := Value.str (Str.ofString "cpy313._pylong") 194, code := Value.ref 55 } }),
  (69, { cls := Value.type "code", data := Data.fields #[Value.str (Str.ofString "__init__") 280, Value.str (Str.ofString "TupleComp.__init__") 281, Value.str (Str.ofString "/claim/cut.py") 282, Value.int 71 0, Value.int 2 0, Value.int 0 0, Value.int 0 0, Value.int 3 0, Value.ref 64, Value.bool true, Value.int 181 0, Value.ref 65, Value.none, Value.ref 66, Value.ref 67, Value.ref 68, Value.int 285 0, Value.int 71 0, Value.str (Str.ofString "/claim/cut.py") 286] }),
  (70, { cls := Value.type "function", data := Data.func { name := Str.ofString "__init__", qualname := Str.ofString "TupleComp.__init__", params := margs 9 0, body := FuncBody.stmts (mbd 9 0), scope := msc 9 0, globals := 3, closure := [], defaults := Value.none, kwdefaults := Value.none, pyModule := Value.str (Str.ofString "cpy313.pstats") 266, code := Value.ref 69 } }),
  (76, { cls := Value.type "code", data := Data.fields #[Value.str (Str.ofString "compare") 288, Value.str (Str.ofString "TupleComp.compare") 289, Value.str (Str.ofString "/claim/cut.py") 290, Value.int 74 0, Value.int 3 0, Value.int 0 0, Value.int 0 0, Value.int 3 0, Value.ref 71, Value.bool true, Value.int 181 0, Value.ref 72, Value.none, Value.ref 73, Value.ref 74, Value.ref 75, Value.int 298 0, Value.int 74 0, Value.str (Str.ofString "/claim/cut.py") 299] }),
  (77, { cls := Value.type "function", data := Data.func { name := Str.ofString "compare", qualname := Str.ofString "TupleComp.compare", params := margs 9 1, body := FuncBody.stmts (mbd 9 1), scope := msc 9 1, globals := 3, closure := [], defaults := Value.none, kwdefaults := Value.none, pyModule := Value.str (Str.ofString "cpy313.pstats") 266, code := Value.ref 76 } }),
  (79, { cls := Value.type "dict", data := Data.dict #[{ hash := PyData.keyHash P (Str.ofString "__module__"), key := Value.str (Str.ofString "__module__") 275, val := Value.str (Str.ofString "cpy313.pstats") 266 }, { hash := PyData.keyHash P (Str.ofString "__firstlineno__"), key := Value.str (Str.ofString "__firstlineno__") 279, val := Value.int 69 278 }, { hash := PyData.keyHash P (Str.ofString "__init__"), key := Value.str (Str.ofString "__init__") 287, val := Value.ref 70 }, { hash := PyData.keyHash P (Str.ofString "compare"), key := Value.str (Str.ofString "compare") 300, val := Value.ref 77 }, { hash := PyData.keyHash P (Str.ofString "__static_attributes__"), key := Value.str (Str.ofString "__static_attributes__") 302, val := Value.ref 78 }, { hash := PyData.keyHash P (Str.ofString "__dict__"), key := Value.str (Str.ofString "__dict__") 304, val := Value.ref 81 }, { hash := PyData.keyHash P (Str.ofString "__weakref__"), key := Value.str (Str.ofString "__weakref__") 306, val := Value.ref 82 }, { hash := PyData.keyHash P (Str.ofString "__doc__"), key := Value.str (Str.ofString "__doc__") 307, val := Value.none }] 4 }),
  (80, { cls := Value.type "type", data := Data.cls { name := Str.ofString "TupleComp", bases := [Value.type "object"], mro := [Value.ref 80, Value.type "object"], ns := 79, qualname := Str.ofString "TupleComp" }, slots := #[none, none, some (Value.str (Str.ofString "TupleComp") 268), some (Value.str (Str.ofString "TupleComp") 276), some (Value.builtin "object.__new__"), some (Value.bool true)] }),
  (90, { cls := Value.type "code", data := Data.fields #[Value.str (Str.ofString "add_func_stats") 310, Value.str (Str.ofString "add_func_stats") 311, Value.str (Str.ofString "/claim/cut.py") 312, Value.int 83 0, Value.int 2 0, Value.int 0 0, Value.int 0 0, Value.int 3 0, Value.ref 85, Value.bool true, Value.int 181 0, Value.ref 86, Value.none, Value.ref 87, Value.ref 88, Value.ref 89, Value.int 325 0, Value.int 83 0, Value.str (Str.ofString "/claim/cut.py") 326] }),
  (91, { cls := Value.type "function", data := Data.func { name := Str.ofString "add_func_stats", qualname := Str.ofString "add_func_stats", params := defArgs (top 10), body := FuncBody.stmts (bd 10), scope := sc 10, globals := 3, closure := [], defaults := Value.none, kwdefaults := Value.none, pyModule := Value.str (Str.ofString "cpy313.pstats") 266, code := Value.ref 90 } }),
  (97, { cls := Value.type "code", data := Data.fields #[Value.str (Str.ofString "add_callers") 328, Value.str (Str.ofString "add_callers") 329, Value.str (Str.ofString "/claim/cut.py") 330, Value.int 87 0, Value.int 2 0, Value.int 0 0, Value.int 0 0, Value.int 3 0, Value.ref 92, Value.bool true, Value.int 181 0, Value.ref 93, Value.none, Value.ref 94, Value.ref 95, Value.ref 96, Value.int 336 0, Value.int 87 0, Value.str (Str.ofString "/claim/cut.py") 337] }),
  (98, { cls := Value.type "function", data := Data.func { name := Str.ofString "add_callers", qualname := Str.ofString "add_callers", params := defArgs (top 11), body := FuncBody.stmts (bd 11), scope := sc 11, globals := 3, closure := [], defaults := Value.none, kwdefaults := Value.none, pyModule := Value.str (Str.ofString "cpy313.pstats") 266, code := Value.ref 97 } }),
  (104, { cls := Value.type "code", data := Data.fields #[Value.str (Str.ofString "count_calls") 339, Value.str (Str.ofString "count_calls") 340, Value.str (Str.ofString "/claim/cut.py") 341, Value.int 100 0, Value.int 1 0, Value.int 0 0, Value.int 0 0, Value.int 3 0, Value.ref 99, Value.bool true, Value.int 181 0, Value.ref 100, Value.none, Value.ref 101, Value.ref 102, Value.ref 103, Value.int 345 0, Value.int 100 0, Value.str (Str.ofString "/claim/cut.py") 346] }),
  (105, { cls := Value.type "function", data := Data.func { name := Str.ofString "count_calls", qualname := Str.ofString "count_calls", params := defArgs (top 12), body := FuncBody.stmts (bd 12), scope := sc 12, globals := 3, closure := [], defaults := Value.none, kwdefaults := Value.none, pyModule := Value.str (Str.ofString "cpy313.pstats") 266, code := Value.ref 104 } }),
  (121, { cls := Value.type "code", data := Data.fields #[Value.str (Str.ofString "__init__") 367, Value.str (Str.ofString "Whitespace.__init__") 368, Value.str (Str.ofString "/claim/cut.py") 369, Value.int 109 0, Value.int 2 0, Value.int 0 0, Value.int 0 0, Value.int 3 0, Value.ref 116, Value.bool true, Value.int 181 0, Value.ref 117, Value.none, Value.ref 118, Value.ref 119, Value.ref 120, Value.int 379 0, Value.int 109 0, Value.str (Str.ofString "/claim/cut.py") 380] }),
  (122, { cls := Value.type "function", data := Data.func { name := Str.ofString "__init__", qualname := Str.ofString "Whitespace.__init__", params := margs 14 1, body := FuncBody.stmts (mbd 14 1), scope := msc 14 1, globals := 3, closure := [], defaults := Value.none, kwdefaults := Value.none, pyModule := Value.str (Str.ofString "cpy313.tabnanny") 348, code := Value.ref 121 } }),
  (128, { cls := Value.type "code", data := Data.fields #[Value.str (Str.ofString "longest_run_of_spaces") 382, Value.str (Str.ofString "Whitespace.longest_run_of_spaces") 383, Value.str (Str.ofString "/claim/cut.py") 384, Value.int 132 0, Value.int 1 0, Value.int 0 0, Value.int 0 0, Value.int 3 0, Value.ref 123, Value.bool true, Value.int 181 0, Value.ref 124, Value.none, Value.ref 125, Value.ref 126, Value.ref 127, Value.int 388 0, Value.int 132 0, Value.str (Str.ofString "/claim/cut.py") 389] }),
  (129, { cls := Value.type "function", data := Data.func { name := Str.ofString "longest_run_of_spaces", qualname := Str.ofString "Whitespace.longest_run_of_spaces", params := margs 14 2, body := FuncBody.stmts (mbd 14 2), scope := msc 14 2, globals := 3, closure := [], defaults := Value.none, kwdefaults := Value.none, pyModule := Value.str (Str.ofString "cpy313.tabnanny") 348, code := Value.ref 128 } }),
  (135, { cls := Value.type "code", data := Data.fields #[Value.str (Str.ofString "indent_level") 391, Value.str (Str.ofString "Whitespace.indent_level") 392, Value.str (Str.ofString "/claim/cut.py") 393, Value.int 136 0, Value.int 2 0, Value.int 0 0, Value.int 0 0, Value.int 3 0, Value.ref 130, Value.bool true, Value.int 181 0, Value.ref 131, Value.none, Value.ref 132, Value.ref 133, Value.ref 134, Value.int 400 0, Value.int 136 0, Value.str (Str.ofString "/claim/cut.py") 401] }),
  (136, { cls := Value.type "function", data := Data.func { name := Str.ofString "indent_level", qualname := Str.ofString "Whitespace.indent_level", params := margs 14 3, body := FuncBody.stmts (mbd 14 3), scope := msc 14 3, globals := 3, closure := [], defaults := Value.none, kwdefaults := Value.none, pyModule := Value.str (Str.ofString "cpy313.tabnanny") 348, code := Value.ref 135 } }),
  (156, { cls := Value.type "code", data := Data.fields #[Value.str (Str.ofString "less") 419, Value.str (Str.ofString "Whitespace.less") 420, Value.str (Str.ofString "/claim/cut.py") 421, Value.int 149 0, Value.int 2 0, Value.int 0 0, Value.int 0 0, Value.int 3 0, Value.ref 151, Value.bool true, Value.int 181 0, Value.ref 152, Value.none, Value.ref 153, Value.ref 154, Value.ref 155, Value.int 426 0, Value.int 149 0, Value.str (Str.ofString "/claim/cut.py") 427] }),
  (157, { cls := Value.type "function", data := Data.func { name := Str.ofString "less", qualname := Str.ofString "Whitespace.less", params := margs 14 6, body := FuncBody.stmts (mbd 14 6), scope := msc 14 6, globals := 3, closure := [], defaults := Value.none, kwdefaults := Value.none, pyModule := Value.str (Str.ofString "cpy313.tabnanny") 348, code := Value.ref 156 } }),
  (166, { cls := Value.type "dict", data := Data.dict #[{ hash := PyData.keyHash P (Str.ofString "__module__"), key := Value.str (Str.ofString "__module__") 357, val := Value.str (Str.ofString "cpy313.tabnanny") 348 }, { hash := PyData.keyHash P (Str.ofString "__firstlineno__"), key := Value.str (Str.ofString "__firstlineno__") 361, val := Value.int 106 360 }, { hash := PyData.keyHash P (Str.ofString "S"), key := Value.str (Str.ofString "S") 365, val := Value.str (Str.ofString " ") 363 }, { hash := PyData.keyHash P (Str.ofString "T"), key := Value.str (Str.ofString "T") 366, val := Value.str (Str.ofString "\t") 364 }, { hash := PyData.keyHash P (Str.ofString "__init__"), key := Value.str (Str.ofString "__init__") 381, val := Value.ref 122 }, { hash := PyData.keyHash P (Str.ofString "longest_run_of_spaces"), key := Value.str (Str.ofString "longest_run_of_spaces") 390, val := Value.ref 129 }, { hash := PyData.keyHash P (Str.ofString "indent_level"), key := Value.str (Str.ofString "indent_level") 402, val := Value.ref 136 }, { hash := PyData.keyHash P (Str.ofString "equal"), key := Value.str (Str.ofString "equal") 410, val := Value.ref 143 }, { hash := PyData.keyHash P (Str.ofString "not_equal_witness"), key := Value.str (Str.ofString "not_equal_witness") 418, val := Value.ref 150 }, { hash := PyData.keyHash P (Str.ofString "less"), key := Value.str (Str.ofString "less") 428, val := Value.ref 157 }, { hash := PyData.keyHash P (Str.ofString "not_less_witness"), key := Value.str (Str.ofString "not_less_witness") 436, val := Value.ref 164 }, { hash := PyData.keyHash P (Str.ofString "__static_attributes__"), key := Value.str (Str.ofString "__static_attributes__") 442, val := Value.ref 165 }, { hash := PyData.keyHash P (Str.ofString "__dict__"), key := Value.str (Str.ofString "__dict__") 444, val := Value.ref 168 }, { hash := PyData.keyHash P (Str.ofString "__weakref__"), key := Value.str (Str.ofString "__weakref__") 446, val := Value.ref 169 }, { hash := PyData.keyHash P (Str.ofString "__doc__"), key := Value.str (Str.ofString "__doc__") 447, val := Value.none }] 4 }),
  (167, { cls := Value.type "type", data := Data.cls { name := Str.ofString "Whitespace", bases := [Value.type "object"], mro := [Value.ref 167, Value.type "object"], ns := 166, qualname := Str.ofString "Whitespace" }, slots := #[none, none, some (Value.str (Str.ofString "Whitespace") 350), some (Value.str (Str.ofString "Whitespace") 358), some (Value.builtin "object.__new__"), some (Value.bool true)] }),
  (175, { cls := Value.type "code", data := Data.fields #[Value.str (Str.ofString "_law_lead") 452, Value.str (Str.ofString "_law_lead") 453, Value.str (Str.ofString "/claim/cut.py") 454, Value.int 163 0, Value.int 1 0, Value.int 0 0, Value.int 0 0, Value.int 3 0, Value.ref 172, Value.bool true, Value.int 181 0, Value.ref 173, Value.none, Value.none, Value.none, Value.ref 174, Value.int 455 0, Value.int 163 0, Value.str (Str.ofString "/claim/cut.py") 456] }),
  (176, { cls := Value.type "function", data := Data.func { name := Str.ofString "_law_lead", qualname := Str.ofString "_law_lead", params := defArgs (top 16), body := FuncBody.stmts (bd 16), scope := sc 16, globals := 3, closure := [], defaults := Value.none, kwdefaults := Value.none, pyModule := Value.str (Str.ofString "law_ph0169_01") 450, code := Value.ref 175 } }),
  (182, { cls := Value.type "code", data := Data.fields #[Value.str (Str.ofString "_law_columns") 458, Value.str (Str.ofString "_law_columns") 459, Value.str (Str.ofString "/claim/cut.py") 460, Value.int 167 0, Value.int 1 0, Value.int 0 0, Value.int 0 0, Value.int 3 0, Value.ref 177, Value.bool true, Value.int 181 0, Value.ref 178, Value.none, Value.ref 179, Value.ref 180, Value.ref 181, Value.int 466 0, Value.int 167 0, Value.str (Str.ofString "/claim/cut.py") 467] }),
  (183, { cls := Value.type "function", data := Data.func { name := Str.ofString "_law_columns", qualname := Str.ofString "_law_columns", params := defArgs (top 17), body := FuncBody.stmts (bd 17), scope := sc 17, globals := 3, closure := [], defaults := Value.none, kwdefaults := Value.none, pyModule := Value.str (Str.ofString "law_ph0169_01") 450, code := Value.ref 182 } }),
  (187, { cls := Value.type "code", data := Data.fields #[Value.str (Str.ofString "_law_orders") 469, Value.str (Str.ofString "_law_orders") 470, Value.str (Str.ofString "/claim/cut.py") 471, Value.int 178 0, Value.int 1 0, Value.int 0 0, Value.int 0 0, Value.int 3 0, Value.ref 184, Value.bool true, Value.int 181 0, Value.ref 185, Value.none, Value.none, Value.none, Value.ref 186, Value.int 472 0, Value.int 178 0, Value.str (Str.ofString "/claim/cut.py") 473] }),
  (188, { cls := Value.type "function", data := Data.func { name := Str.ofString "_law_orders", qualname := Str.ofString "_law_orders", params := defArgs (top 18), body := FuncBody.stmts (bd 18), scope := sc 18, globals := 3, closure := [], defaults := Value.none, kwdefaults := Value.none, pyModule := Value.str (Str.ofString "law_ph0169_01") 450, code := Value.ref 187 } }),
  (192, { cls := Value.type "code", data := Data.fields #[Value.str (Str.ofString "_law_numberings") 475, Value.str (Str.ofString "_law_numberings") 476, Value.str (Str.ofString "/claim/cut.py") 477, Value.int 183 0, Value.int 2 0, Value.int 0 0, Value.int 0 0, Value.int 3 0, Value.ref 189, Value.bool true, Value.int 181 0, Value.ref 190, Value.none, Value.none, Value.none, Value.ref 191, Value.int 478 0, Value.int 183 0, Value.str (Str.ofString "/claim/cut.py") 479] }),
  (193, { cls := Value.type "function", data := Data.func { name := Str.ofString "_law_numberings", qualname := Str.ofString "_law_numberings", params := defArgs (top 19), body := FuncBody.stmts (bd 19), scope := sc 19, globals := 3, closure := [], defaults := Value.none, kwdefaults := Value.none, pyModule := Value.str (Str.ofString "law_ph0169_01") 450, code := Value.ref 192 } }),
  (197, { cls := Value.type "code", data := Data.fields #[Value.str (Str.ofString "_law_gathered") 481, Value.str (Str.ofString "_law_gathered") 482, Value.str (Str.ofString "/claim/cut.py") 483, Value.int 189 0, Value.int 2 0, Value.int 0 0, Value.int 0 0, Value.int 3 0, Value.ref 194, Value.bool true, Value.int 181 0, Value.ref 195, Value.none, Value.none, Value.none, Value.ref 196, Value.int 484 0, Value.int 189 0, Value.str (Str.ofString "/claim/cut.py") 485] }),
  (198, { cls := Value.type "function", data := Data.func { name := Str.ofString "_law_gathered", qualname := Str.ofString "_law_gathered", params := defArgs (top 20), body := FuncBody.stmts (bd 20), scope := sc 20, globals := 3, closure := [], defaults := Value.none, kwdefaults := Value.none, pyModule := Value.str (Str.ofString "law_ph0169_01") 450, code := Value.ref 197 } }),
  (202, { cls := Value.type "code", data := Data.fields #[Value.str (Str.ofString "law") 487, Value.str (Str.ofString "law") 488, Value.str (Str.ofString "/claim/cut.py") 489, Value.int 199 0, Value.int 1 0, Value.int 0 0, Value.int 0 0, Value.int 3 0, Value.ref 199, Value.bool true, Value.int 181 0, Value.ref 200, Value.none, Value.none, Value.none, Value.ref 201, Value.int 490 0, Value.int 199 0, Value.str (Str.ofString "/claim/cut.py") 491] }),
  (203, { cls := Value.type "function", data := Data.func { name := Str.ofString "law", qualname := Str.ofString "law", params := defArgs (top 21), body := FuncBody.stmts (bd 21), scope := sc 21, globals := 3, closure := [], defaults := Value.none, kwdefaults := Value.none, pyModule := Value.str (Str.ofString "law_ph0169_01") 450, code := Value.ref 202 } })]
noncomputable def as0 : List Addr := [2, 3, 27, 28, 41, 42, 48, 49, 55, 56, 69, 70, 76, 77, 79, 80, 90, 91, 97, 98, 104, 105, 121, 122, 128, 129, 135, 136, 156, 157, 166, 167, 175, 176, 182, 183, 187, 188, 192, 193, 197, 198, 202, 203]
noncomputable abbrev rowQ : RowW := OpenRow.toRowW (OpenLaw.row PySem.Challenge.rw_ph0169_01)
noncomputable def looseQ : List Str := ["_wall", "_div2n1n", "_div3n2n", "_int2digits", "_digits2int", "_divmod_pos", "TupleComp", "add_func_stats", "add_callers", "count_calls", "Whitespace", "_law_lead", "_law_columns", "_law_orders", "_law_numberings", "_law_gathered", "_DIV_LIMIT"]
noncomputable def viewQ : Program := { PySem.Challenge.pw_ph0169_01 with main := { PySem.Challenge.pw_ph0169_01.main with body := [top 21] } }
theorem as0_eq : ∀ P, as0 = (K0 P).map (·.1) := fun _ => by kernel_rfl
noncomputable def hookQ : Hook := kmHook K0 as0 as0_eq [44, 37, 200]
noncomputable def XtQ (s : Shared) : Bool := xlAt viewQ [] s && recOk (RowW.records rowQ) s
noncomputable def objs0 (P : Params) : List Obj := [
  boot_o_0 P,
  boot_o_1 P,
  boot_o_2 P]
noncomputable def objs1 (P : Params) : List Obj := [
  boot_o_4 P,
  boot_o_5 P,
  boot_o_6 P,
  boot_o_7 P,
  boot_o_8 P,
  boot_o_9 P,
  boot_o_10 P,
  { cls := Value.type "tuple", data := Data.seq #[] }]
noncomputable def objs2 (P : Params) : List Obj := [
  { cls := Value.type "code", data := Data.fields #[Value.str (Str.ofString "<module>") 182, Value.str (Str.ofString "<module>") 183, Value.str (Str.ofString "/claim/cut.py") 184, Value.int 1 0, Value.int 0 0, Value.int 0 0, Value.int 0 0, Value.int 0 0, Value.ref 11, Value.bool false, Value.int 181 0, Value.ref 12, Value.none, Value.none, Value.none, Value.none, Value.int 185 0, Value.int 1 0, Value.str (Str.ofString "/claim/cut.py") 186] },
  { cls := Value.type "frame", slots := #[some (Value.ref 13), some (Value.ref 3), some (Value.ref 3), none, some (Value.str (Str.ofString "__main__") 164), none, some (Value.ref 0)] },
  { cls := Value.type "tuple", data := Data.seq #[] },
  { cls := Value.none, data := Data.fields #[] },
  { cls := Value.type "tuple", data := Data.seq #[Value.str (Str.ofString "k") 190] },
  { cls := Value.type "tuple", data := Data.seq #[] },
  { cls := Value.none, data := Data.func { name := Str.ofString "_wall", qualname := Str.ofString "_wall", params := defArgs (top 0), body := FuncBody.stmts (bd 0), scope := sc 0, globals := 0, closure := [], defaults := Value.none, kwdefaults := Value.none } },
  { cls := Value.type "code", data := Data.fields #[Value.str (Str.ofString "_wall") 187, Value.str (Str.ofString "_wall") 188, Value.str (Str.ofString "/claim/cut.py") 189, Value.int 1 0, Value.int 1 0, Value.int 0 0, Value.int 0 0, Value.int 3 0, Value.ref 15, Value.bool true, Value.int 181 0, Value.ref 16, Value.none, Value.ref 17, Value.ref 18, Value.ref 19, Value.int 191 0, Value.int 1 0, Value.str (Str.ofString "/claim/cut.py") 192] },
  { cls := Value.type "function", data := Data.func { name := Str.ofString "_wall", qualname := Str.ofString "_wall", params := defArgs (top 0), body := FuncBody.stmts (bd 0), scope := sc 0, globals := 3, closure := [], defaults := Value.none, kwdefaults := Value.none, pyModule := Value.str (Str.ofString "__main__") 164, code := Value.ref 20 } },
  { cls := Value.type "tuple", data := Data.seq #[] },
  { cls := Value.none, data := Data.fields #[] },
  { cls := Value.type "tuple", data := Data.seq #[Value.str (Str.ofString "a") 201, Value.str (Str.ofString "b") 202, Value.str (Str.ofString "n") 203, Value.str (Str.ofString "pad") 204, Value.str (Str.ofString "half_n") 205, Value.str (Str.ofString "mask") 206, Value.str (Str.ofString "b1") 207, Value.str (Str.ofString "b2") 208, Value.str (Str.ofString "q1") 209, Value.str (Str.ofString "r") 210, Value.str (Str.ofString "q2") 211] },
  { cls := Value.type "tuple", data := Data.seq #[] },
  { cls := Value.none, data := Data.func { name := Str.ofString "_div2n1n", qualname := Str.ofString "_div2n1n", params := defArgs (top 3), body := FuncBody.stmts (bd 3), scope := sc 3, globals := 0, closure := [], defaults := Value.none, kwdefaults := Value.none } },
  { cls := Value.type "code", data := Data.fields #[Value.str (Str.ofString "_div2n1n") 198, Value.str (Str.ofString "_div2n1n") 199, Value.str (Str.ofString "/claim/cut.py") 200, Value.int 6 0, Value.int 3 0, Value.int 0 0, Value.int 0 0, Value.int 3 0, Value.ref 22, Value.bool true, Value.int 181 0, Value.ref 23, Value.none, Value.ref 24, Value.ref 25, Value.ref 26, Value.int 212 0, Value.int 6 0, Value.str (Str.ofString "/claim/cut.py") 213] },
  { cls := Value.type "function", data := Data.func { name := Str.ofString "_div2n1n", qualname := Str.ofString "_div2n1n", params := defArgs (top 3), body := FuncBody.stmts (bd 3), scope := sc 3, globals := 3, closure := [], defaults := Value.none, kwdefaults := Value.none, pyModule := Value.str (Str.ofString "cpy313._pylong") 194, code := Value.ref 27 } },
  { cls := Value.type "tuple", data := Data.seq #[] },
  { cls := Value.none, data := Data.fields #[] },
  { cls := Value.type "tuple", data := Data.seq #[Value.str (Str.ofString "a12") 218, Value.str (Str.ofString "a3") 219, Value.str (Str.ofString "b") 220, Value.str (Str.ofString "b1") 221, Value.str (Str.ofString "b2") 222, Value.str (Str.ofString "n") 223, Value.str (Str.ofString "q") 224, Value.str (Str.ofString "r") 225] },
  { cls := Value.type "tuple", data := Data.seq #[] },
  { cls := Value.none, data := Data.func { name := Str.ofString "_div3n2n", qualname := Str.ofString "_div3n2n", params := defArgs (top 4), body := FuncBody.stmts (bd 4), scope := sc 4, globals := 0, closure := [], defaults := Value.none, kwdefaults := Value.none } },
  { cls := Value.type "code", data := Data.fields #[Value.str (Str.ofString "_div3n2n") 215, Value.str (Str.ofString "_div3n2n") 216, Value.str (Str.ofString "/claim/cut.py") 217, Value.int 22 0, Value.int 6 0, Value.int 0 0, Value.int 0 0, Value.int 3 0, Value.ref 29, Value.bool true, Value.int 181 0, Value.ref 30, Value.none, Value.ref 31, Value.ref 32, Value.ref 33, Value.int 226 0, Value.int 22 0, Value.str (Str.ofString "/claim/cut.py") 227] },
  { cls := Value.type "function", data := Data.func { name := Str.ofString "_div3n2n", qualname := Str.ofString "_div3n2n", params := defArgs (top 4), body := FuncBody.stmts (bd 4), scope := sc 4, globals := 3, closure := [], defaults := Value.none, kwdefaults := Value.none, pyModule := Value.str (Str.ofString "cpy313._pylong") 194, code := Value.ref 34 } },
  { cls := Value.type "tuple", data := Data.seq #[] },
  { cls := Value.none, data := Data.fields #[] },
  { cls := Value.type "tuple", data := Data.seq #[Value.str (Str.ofString "a") 232, Value.str (Str.ofString "n") 233] },
  { cls := Value.type "tuple", data := Data.seq #[Value.str (Str.ofString "n") 234, Value.str (Str.ofString "a_digits") 235, Value.str (Str.ofString "inner") 236] },
  { cls := Value.none, data := Data.func { name := Str.ofString "_int2digits", qualname := Str.ofString "_int2digits", params := defArgs (top 5), body := FuncBody.stmts (bd 5), scope := sc 5, globals := 0, closure := [], defaults := Value.none, kwdefaults := Value.none } },
  { cls := Value.type "code", data := Data.fields #[Value.str (Str.ofString "_int2digits") 229, Value.str (Str.ofString "_int2digits") 230, Value.str (Str.ofString "/claim/cut.py") 231, Value.int 32 0, Value.int 2 0, Value.int 0 0, Value.int 0 0, Value.int 3 0, Value.ref 36, Value.bool true, Value.int 181 0, Value.ref 37, Value.none, Value.ref 38, Value.ref 39, Value.ref 40, Value.int 237 0, Value.int 32 0, Value.str (Str.ofString "/claim/cut.py") 238] },
  { cls := Value.type "function", data := Data.func { name := Str.ofString "_int2digits", qualname := Str.ofString "_int2digits", params := defArgs (top 5), body := FuncBody.stmts (bd 5), scope := sc 5, globals := 3, closure := [], defaults := Value.none, kwdefaults := Value.none, pyModule := Value.str (Str.ofString "cpy313._pylong") 194, code := Value.ref 41 } },
  { cls := Value.type "tuple", data := Data.seq #[] },
  { cls := Value.none, data := Data.fields #[] },
  { cls := Value.type "tuple", data := Data.seq #[Value.str (Str.ofString "digits") 243, Value.str (Str.ofString "n") 244] },
  { cls := Value.type "tuple", data := Data.seq #[Value.str (Str.ofString "digits") 245, Value.str (Str.ofString "n") 246, Value.str (Str.ofString "inner") 247] },
  { cls := Value.none, data := Data.func { name := Str.ofString "_digits2int", qualname := Str.ofString "_digits2int", params := defArgs (top 6), body := FuncBody.stmts (bd 6), scope := sc 6, globals := 0, closure := [], defaults := Value.none, kwdefaults := Value.none } },
  { cls := Value.type "code", data := Data.fields #[Value.str (Str.ofString "_digits2int") 240, Value.str (Str.ofString "_digits2int") 241, Value.str (Str.ofString "/claim/cut.py") 242, Value.int 48 0, Value.int 2 0, Value.int 0 0, Value.int 0 0, Value.int 3 0, Value.ref 43, Value.bool true, Value.int 181 0, Value.ref 44, Value.none, Value.ref 45, Value.ref 46, Value.ref 47, Value.int 248 0, Value.int 48 0, Value.str (Str.ofString "/claim/cut.py") 249] },
  { cls := Value.type "function", data := Data.func { name := Str.ofString "_digits2int", qualname := Str.ofString "_digits2int", params := defArgs (top 6), body := FuncBody.stmts (bd 6), scope := sc 6, globals := 3, closure := [], defaults := Value.none, kwdefaults := Value.none, pyModule := Value.str (Str.ofString "cpy313._pylong") 194, code := Value.ref 48 } },
  { cls := Value.type "tuple", data := Data.seq #[] },
  { cls := Value.none, data := Data.fields #[] },
  { cls := Value.type "tuple", data := Data.seq #[Value.str (Str.ofString "a") 254, Value.str (Str.ofString "b") 255, Value.str (Str.ofString "n") 256, Value.str (Str.ofString "a_digits") 257, Value.str (Str.ofString "r") 258, Value.str (Str.ofString "q_digits") 259, Value.str (Str.ofString "a_digit") 260, Value.str (Str.ofString "q_digit") 261, Value.str (Str.ofString "q") 262] },
  { cls := Value.type "tuple", data := Data.seq #[] },
  { cls := Value.none, data := Data.func { name := Str.ofString "_divmod_pos", qualname := Str.ofString "_divmod_pos", params := defArgs (top 7), body := FuncBody.stmts (bd 7), scope := sc 7, globals := 0, closure := [], defaults := Value.none, kwdefaults := Value.none } },
  { cls := Value.type "code", data := Data.fields #[Value.str (Str.ofString "_divmod_pos") 251, Value.str (Str.ofString "_divmod_pos") 252, Value.str (Str.ofString "/claim/cut.py") 253, Value.int 57 0, Value.int 2 0, Value.int 0 0, Value.int 0 0, Value.int 3 0, Value.ref 50, Value.bool true, Value.int 181 0, Value.ref 51, Value.none, Value.ref 52, Value.ref 53, Value.ref 54, Value.int 263 0, Value.int 57 0, Value.str (Str.ofString "/claim/cut.py") 264] },
  { cls := Value.type "function", data := Data.func { name := Str.ofString "_divmod_pos", qualname := Str.ofString "_divmod_pos", params := defArgs (top 7), body := FuncBody.stmts (bd 7), scope := sc 7, globals := 3, closure := [], defaults := Value.none, kwdefaults := Value.none, pyModule := Value.str (Str.ofString "cpy313._pylong") 194, code := Value.ref 55 } },
  { cls := Value.type "tuple", data := Data.seq #[] },
  { cls := Value.type "builtin_function_or_method", data := Data.fields #[Value.builtin "type.__prepare__", Value.type "type"] },
  { cls := Value.type "dict", data := Data.dict #[{ hash := PyData.keyHash P (Str.ofString "__module__"), key := Value.str (Str.ofString "__module__") 275, val := Value.str (Str.ofString "cpy313.pstats") 266 }, { hash := PyData.keyHash P (Str.ofString "__qualname__"), key := Value.str (Str.ofString "__qualname__") 277, val := Value.str (Str.ofString "TupleComp") 276 }, { hash := PyData.keyHash P (Str.ofString "__firstlineno__"), key := Value.str (Str.ofString "__firstlineno__") 279, val := Value.int 69 278 }, { hash := PyData.keyHash P (Str.ofString "__init__"), key := Value.str (Str.ofString "__init__") 287, val := Value.ref 70 }, { hash := PyData.keyHash P (Str.ofString "compare"), key := Value.str (Str.ofString "compare") 300, val := Value.ref 77 }, { hash := PyData.keyHash P (Str.ofString "__static_attributes__"), key := Value.str (Str.ofString "__static_attributes__") 302, val := Value.ref 78 }] 6 },
  { cls := Value.type "tuple", data := Data.seq #[] },
  { cls := Value.none, data := Data.fields #[Value.int 71 0, Value.int 4 0, Value.ref 69, Value.int 74 0, Value.int 4 0, Value.ref 76] },
  { cls := Value.type "code", data := Data.fields #[Value.str (Str.ofString "TupleComp") 270, Value.str (Str.ofString "TupleComp") 271, Value.str (Str.ofString "/claim/cut.py") 272, Value.int 69 0, Value.int 0 0, Value.int 0 0, Value.int 0 0, Value.int 0 0, Value.ref 60, Value.bool false, Value.int 181 0, Value.ref 61, Value.none, Value.none, Value.none, Value.none, Value.int 273 0, Value.int 69 0, Value.str (Str.ofString "/claim/cut.py") 274] },
  { cls := Value.type "frame", slots := #[some (Value.ref 62), some (Value.ref 3), some (Value.ref 59), none, some (Value.str (Str.ofString "cpy313.pstats") 266), none, some (Value.ref 0)] },
  { cls := Value.type "tuple", data := Data.seq #[] },
  { cls := Value.none, data := Data.fields #[] },
  { cls := Value.type "tuple", data := Data.seq #[Value.str (Str.ofString "self") 283, Value.str (Str.ofString "comp_select_list") 284] },
  { cls := Value.type "tuple", data := Data.seq #[] },
  { cls := Value.none, data := Data.func { name := Str.ofString "__init__", qualname := Str.ofString "TupleComp.__init__", params := margs 9 0, body := FuncBody.stmts (mbd 9 0), scope := msc 9 0, globals := 0, closure := [], defaults := Value.none, kwdefaults := Value.none } },
  { cls := Value.type "code", data := Data.fields #[Value.str (Str.ofString "__init__") 280, Value.str (Str.ofString "TupleComp.__init__") 281, Value.str (Str.ofString "/claim/cut.py") 282, Value.int 71 0, Value.int 2 0, Value.int 0 0, Value.int 0 0, Value.int 3 0, Value.ref 64, Value.bool true, Value.int 181 0, Value.ref 65, Value.none, Value.ref 66, Value.ref 67, Value.ref 68, Value.int 285 0, Value.int 71 0, Value.str (Str.ofString "/claim/cut.py") 286] },
  { cls := Value.type "function", data := Data.func { name := Str.ofString "__init__", qualname := Str.ofString "TupleComp.__init__", params := margs 9 0, body := FuncBody.stmts (mbd 9 0), scope := msc 9 0, globals := 3, closure := [], defaults := Value.none, kwdefaults := Value.none, pyModule := Value.str (Str.ofString "cpy313.pstats") 266, code := Value.ref 69 } },
  { cls := Value.type "tuple", data := Data.seq #[] },
  { cls := Value.none, data := Data.fields #[] },
  { cls := Value.type "tuple", data := Data.seq #[Value.str (Str.ofString "self") 291, Value.str (Str.ofString "left") 292, Value.str (Str.ofString "right") 293, Value.str (Str.ofString "index") 294, Value.str (Str.ofString "direction") 295, Value.str (Str.ofString "l") 296, Value.str (Str.ofString "r") 297] },
  { cls := Value.type "tuple", data := Data.seq #[] },
  { cls := Value.none, data := Data.func { name := Str.ofString "compare", qualname := Str.ofString "TupleComp.compare", params := margs 9 1, body := FuncBody.stmts (mbd 9 1), scope := msc 9 1, globals := 0, closure := [], defaults := Value.none, kwdefaults := Value.none } },
  { cls := Value.type "code", data := Data.fields #[Value.str (Str.ofString "compare") 288, Value.str (Str.ofString "TupleComp.compare") 289, Value.str (Str.ofString "/claim/cut.py") 290, Value.int 74 0, Value.int 3 0, Value.int 0 0, Value.int 0 0, Value.int 3 0, Value.ref 71, Value.bool true, Value.int 181 0, Value.ref 72, Value.none, Value.ref 73, Value.ref 74, Value.ref 75, Value.int 298 0, Value.int 74 0, Value.str (Str.ofString "/claim/cut.py") 299] },
  { cls := Value.type "function", data := Data.func { name := Str.ofString "compare", qualname := Str.ofString "TupleComp.compare", params := margs 9 1, body := FuncBody.stmts (mbd 9 1), scope := msc 9 1, globals := 3, closure := [], defaults := Value.none, kwdefaults := Value.none, pyModule := Value.str (Str.ofString "cpy313.pstats") 266, code := Value.ref 76 } },
  { cls := Value.type "tuple", data := Data.seq #[Value.str (Str.ofString "comp_select_list") 301] },
  { cls := Value.type "dict", data := Data.dict #[{ hash := PyData.keyHash P (Str.ofString "__module__"), key := Value.str (Str.ofString "__module__") 275, val := Value.str (Str.ofString "cpy313.pstats") 266 }, { hash := PyData.keyHash P (Str.ofString "__firstlineno__"), key := Value.str (Str.ofString "__firstlineno__") 279, val := Value.int 69 278 }, { hash := PyData.keyHash P (Str.ofString "__init__"), key := Value.str (Str.ofString "__init__") 287, val := Value.ref 70 }, { hash := PyData.keyHash P (Str.ofString "compare"), key := Value.str (Str.ofString "compare") 300, val := Value.ref 77 }, { hash := PyData.keyHash P (Str.ofString "__static_attributes__"), key := Value.str (Str.ofString "__static_attributes__") 302, val := Value.ref 78 }, { hash := PyData.keyHash P (Str.ofString "__dict__"), key := Value.str (Str.ofString "__dict__") 304, val := Value.ref 81 }, { hash := PyData.keyHash P (Str.ofString "__weakref__"), key := Value.str (Str.ofString "__weakref__") 306, val := Value.ref 82 }, { hash := PyData.keyHash P (Str.ofString "__doc__"), key := Value.str (Str.ofString "__doc__") 307, val := Value.none }] 4 },
  { cls := Value.type "type", data := Data.cls { name := Str.ofString "TupleComp", bases := [Value.type "object"], mro := [Value.ref 80, Value.type "object"], ns := 79, qualname := Str.ofString "TupleComp" }, slots := #[none, none, some (Value.str (Str.ofString "TupleComp") 268), some (Value.str (Str.ofString "TupleComp") 276), some (Value.builtin "object.__new__"), some (Value.bool true)] },
  { cls := Value.type "getset_descriptor", data := Data.fields #[Value.str (Str.ofString "__dict__") 303, Value.ref 80, Value.builtin "function.__dict__", Value.builtin "function.__dict__#set"] },
  { cls := Value.type "getset_descriptor", data := Data.fields #[Value.str (Str.ofString "__weakref__") 305, Value.ref 80, Value.builtin "ExceptionGroup.__weakref__", Value.none] },
  { cls := Value.type "super", data := Data.fields #[Value.ref 80, Value.ref 80, Value.ref 80] },
  { cls := Value.type "builtin_function_or_method", data := Data.fields #[Value.builtin "object.__init_subclass__", Value.ref 80] },
  { cls := Value.type "tuple", data := Data.seq #[] },
  { cls := Value.none, data := Data.fields #[] },
  { cls := Value.type "tuple", data := Data.seq #[Value.str (Str.ofString "target") 313, Value.str (Str.ofString "source") 314, Value.str (Str.ofString "cc") 315, Value.str (Str.ofString "nc") 316, Value.str (Str.ofString "tt") 317, Value.str (Str.ofString "ct") 318, Value.str (Str.ofString "callers") 319, Value.str (Str.ofString "t_cc") 320, Value.str (Str.ofString "t_nc") 321, Value.str (Str.ofString "t_tt") 322, Value.str (Str.ofString "t_ct") 323, Value.str (Str.ofString "t_callers") 324] },
  { cls := Value.type "tuple", data := Data.seq #[] },
  { cls := Value.none, data := Data.func { name := Str.ofString "add_func_stats", qualname := Str.ofString "add_func_stats", params := defArgs (top 10), body := FuncBody.stmts (bd 10), scope := sc 10, globals := 0, closure := [], defaults := Value.none, kwdefaults := Value.none } },
  { cls := Value.type "code", data := Data.fields #[Value.str (Str.ofString "add_func_stats") 310, Value.str (Str.ofString "add_func_stats") 311, Value.str (Str.ofString "/claim/cut.py") 312, Value.int 83 0, Value.int 2 0, Value.int 0 0, Value.int 0 0, Value.int 3 0, Value.ref 85, Value.bool true, Value.int 181 0, Value.ref 86, Value.none, Value.ref 87, Value.ref 88, Value.ref 89, Value.int 325 0, Value.int 83 0, Value.str (Str.ofString "/claim/cut.py") 326] },
  { cls := Value.type "function", data := Data.func { name := Str.ofString "add_func_stats", qualname := Str.ofString "add_func_stats", params := defArgs (top 10), body := FuncBody.stmts (bd 10), scope := sc 10, globals := 3, closure := [], defaults := Value.none, kwdefaults := Value.none, pyModule := Value.str (Str.ofString "cpy313.pstats") 266, code := Value.ref 90 } },
  { cls := Value.type "tuple", data := Data.seq #[] },
  { cls := Value.none, data := Data.fields #[] },
  { cls := Value.type "tuple", data := Data.seq #[Value.str (Str.ofString "target") 331, Value.str (Str.ofString "source") 332, Value.str (Str.ofString "new_callers") 333, Value.str (Str.ofString "func") 334, Value.str (Str.ofString "caller") 335] },
  { cls := Value.type "tuple", data := Data.seq #[] },
  { cls := Value.none, data := Data.func { name := Str.ofString "add_callers", qualname := Str.ofString "add_callers", params := defArgs (top 11), body := FuncBody.stmts (bd 11), scope := sc 11, globals := 0, closure := [], defaults := Value.none, kwdefaults := Value.none } },
  { cls := Value.type "code", data := Data.fields #[Value.str (Str.ofString "add_callers") 328, Value.str (Str.ofString "add_callers") 329, Value.str (Str.ofString "/claim/cut.py") 330, Value.int 87 0, Value.int 2 0, Value.int 0 0, Value.int 0 0, Value.int 3 0, Value.ref 92, Value.bool true, Value.int 181 0, Value.ref 93, Value.none, Value.ref 94, Value.ref 95, Value.ref 96, Value.int 336 0, Value.int 87 0, Value.str (Str.ofString "/claim/cut.py") 337] },
  { cls := Value.type "function", data := Data.func { name := Str.ofString "add_callers", qualname := Str.ofString "add_callers", params := defArgs (top 11), body := FuncBody.stmts (bd 11), scope := sc 11, globals := 3, closure := [], defaults := Value.none, kwdefaults := Value.none, pyModule := Value.str (Str.ofString "cpy313.pstats") 266, code := Value.ref 97 } },
  { cls := Value.type "tuple", data := Data.seq #[] },
  { cls := Value.none, data := Data.fields #[] },
  { cls := Value.type "tuple", data := Data.seq #[Value.str (Str.ofString "callers") 342, Value.str (Str.ofString "nc") 343, Value.str (Str.ofString "calls") 344] },
  { cls := Value.type "tuple", data := Data.seq #[] },
  { cls := Value.none, data := Data.func { name := Str.ofString "count_calls", qualname := Str.ofString "count_calls", params := defArgs (top 12), body := FuncBody.stmts (bd 12), scope := sc 12, globals := 0, closure := [], defaults := Value.none, kwdefaults := Value.none } },
  { cls := Value.type "code", data := Data.fields #[Value.str (Str.ofString "count_calls") 339, Value.str (Str.ofString "count_calls") 340, Value.str (Str.ofString "/claim/cut.py") 341, Value.int 100 0, Value.int 1 0, Value.int 0 0, Value.int 0 0, Value.int 3 0, Value.ref 99, Value.bool true, Value.int 181 0, Value.ref 100, Value.none, Value.ref 101, Value.ref 102, Value.ref 103, Value.int 345 0, Value.int 100 0, Value.str (Str.ofString "/claim/cut.py") 346] },
  { cls := Value.type "function", data := Data.func { name := Str.ofString "count_calls", qualname := Str.ofString "count_calls", params := defArgs (top 12), body := FuncBody.stmts (bd 12), scope := sc 12, globals := 3, closure := [], defaults := Value.none, kwdefaults := Value.none, pyModule := Value.str (Str.ofString "cpy313.pstats") 266, code := Value.ref 104 } }]
noncomputable def Hmid (P : Params) : Heap := Heap.mk (Array.mk (objs0 P ++ ([
  { cls := Value.type "dict", data := Data.dict #[{ hash := PyData.keyHash P (Str.ofString "__name__"), key := Value.str (Str.ofString "__name__") 165, val := Value.str (Str.ofString "cpy313.tabnanny") 348 }, { hash := PyData.keyHash P (Str.ofString "__doc__"), key := Value.str (Str.ofString "__doc__") 166, val := Value.none }, { hash := PyData.keyHash P (Str.ofString "__package__"), key := Value.str (Str.ofString "__package__") 167, val := Value.none }, { hash := PyData.keyHash P (Str.ofString "__loader__"), key := Value.str (Str.ofString "__loader__") 168, val := Value.builtin "__main__.__loader__#opaque" }, { hash := PyData.keyHash P (Str.ofString "__spec__"), key := Value.str (Str.ofString "__spec__") 169, val := Value.none }, { hash := PyData.keyHash P (Str.ofString "__annotations__"), key := Value.str (Str.ofString "__annotations__") 170, val := Value.ref 6 }, { hash := PyData.keyHash P (Str.ofString "__builtins__"), key := Value.str (Str.ofString "__builtins__") 171, val := Value.ref 4 }, { hash := PyData.keyHash P (Str.ofString "__file__"), key := Value.str (Str.ofString "__file__") 173, val := Value.str (Str.ofString "/claim/cut.py") 172 }, { hash := PyData.keyHash P (Str.ofString "__cached__"), key := Value.str (Str.ofString "__cached__") 174, val := Value.none }, { hash := PyData.keyHash P (Str.ofString "_wall"), key := Value.str (Str.ofString "_wall") 193, val := Value.ref 21 }, { hash := PyData.keyHash P (Str.ofString "_DIV_LIMIT"), key := Value.str (Str.ofString "_DIV_LIMIT") 197, val := Value.int 4000 196 }, { hash := PyData.keyHash P (Str.ofString "_div2n1n"), key := Value.str (Str.ofString "_div2n1n") 214, val := Value.ref 28 }, { hash := PyData.keyHash P (Str.ofString "_div3n2n"), key := Value.str (Str.ofString "_div3n2n") 228, val := Value.ref 35 }, { hash := PyData.keyHash P (Str.ofString "_int2digits"), key := Value.str (Str.ofString "_int2digits") 239, val := Value.ref 42 }, { hash := PyData.keyHash P (Str.ofString "_digits2int"), key := Value.str (Str.ofString "_digits2int") 250, val := Value.ref 49 }, { hash := PyData.keyHash P (Str.ofString "_divmod_pos"), key := Value.str (Str.ofString "_divmod_pos") 265, val := Value.ref 56 }, { hash := PyData.keyHash P (Str.ofString "TupleComp"), key := Value.str (Str.ofString "TupleComp") 309, val := Value.ref 80 }, { hash := PyData.keyHash P (Str.ofString "add_func_stats"), key := Value.str (Str.ofString "add_func_stats") 327, val := Value.ref 91 }, { hash := PyData.keyHash P (Str.ofString "add_callers"), key := Value.str (Str.ofString "add_callers") 338, val := Value.ref 98 }, { hash := PyData.keyHash P (Str.ofString "count_calls"), key := Value.str (Str.ofString "count_calls") 347, val := Value.ref 105 }] 20 }] ++ (objs1 P ++ ([
  { cls := Value.none, data := Data.fields #[Value.int 1 0, Value.int 0 0, Value.ref 20, Value.int 6 0, Value.int 0 0, Value.ref 27, Value.int 22 0, Value.int 0 0, Value.ref 34, Value.int 32 0, Value.int 0 0, Value.ref 41, Value.int 48 0, Value.int 0 0, Value.ref 48, Value.int 57 0, Value.int 0 0, Value.ref 55, Value.int 69 0, Value.int 0 0, Value.ref 62, Value.int 83 0, Value.int 0 0, Value.ref 90, Value.int 87 0, Value.int 0 0, Value.ref 97, Value.int 100 0, Value.int 0 0, Value.ref 104] }] ++ (objs2 P)))))) {}
noncomputable def HmidB (P : Params) : Heap := Heap.mk (Array.mk (objs0 P ++ ([
  { cls := Value.type "dict", data := Data.dict #[{ hash := PyData.keyHash P (Str.ofString "__name__"), key := Value.str (Str.ofString "__name__") 165, val := Value.str (Str.ofString "cpy313.tabnanny") 348 }, { hash := PyData.keyHash P (Str.ofString "__doc__"), key := Value.str (Str.ofString "__doc__") 166, val := Value.none }, { hash := PyData.keyHash P (Str.ofString "__package__"), key := Value.str (Str.ofString "__package__") 167, val := Value.none }, { hash := PyData.keyHash P (Str.ofString "__loader__"), key := Value.str (Str.ofString "__loader__") 168, val := Value.builtin "__main__.__loader__#opaque" }, { hash := PyData.keyHash P (Str.ofString "__spec__"), key := Value.str (Str.ofString "__spec__") 169, val := Value.none }, { hash := PyData.keyHash P (Str.ofString "__annotations__"), key := Value.str (Str.ofString "__annotations__") 170, val := Value.ref 6 }, { hash := PyData.keyHash P (Str.ofString "__builtins__"), key := Value.str (Str.ofString "__builtins__") 171, val := Value.ref 4 }, { hash := PyData.keyHash P (Str.ofString "__file__"), key := Value.str (Str.ofString "__file__") 173, val := Value.str (Str.ofString "/claim/cut.py") 172 }, { hash := PyData.keyHash P (Str.ofString "__cached__"), key := Value.str (Str.ofString "__cached__") 174, val := Value.none }, { hash := PyData.keyHash P (Str.ofString "_wall"), key := Value.str (Str.ofString "_wall") 193, val := Value.ref 21 }, { hash := PyData.keyHash P (Str.ofString "_DIV_LIMIT"), key := Value.str (Str.ofString "_DIV_LIMIT") 197, val := Value.int 4000 196 }, { hash := PyData.keyHash P (Str.ofString "_div2n1n"), key := Value.str (Str.ofString "_div2n1n") 214, val := Value.ref 28 }, { hash := PyData.keyHash P (Str.ofString "_div3n2n"), key := Value.str (Str.ofString "_div3n2n") 228, val := Value.ref 35 }, { hash := PyData.keyHash P (Str.ofString "_int2digits"), key := Value.str (Str.ofString "_int2digits") 239, val := Value.ref 42 }, { hash := PyData.keyHash P (Str.ofString "_digits2int"), key := Value.str (Str.ofString "_digits2int") 250, val := Value.ref 49 }, { hash := PyData.keyHash P (Str.ofString "_divmod_pos"), key := Value.str (Str.ofString "_divmod_pos") 265, val := Value.ref 56 }, { hash := PyData.keyHash P (Str.ofString "TupleComp"), key := Value.str (Str.ofString "TupleComp") 309, val := Value.ref 80 }, { hash := PyData.keyHash P (Str.ofString "add_func_stats"), key := Value.str (Str.ofString "add_func_stats") 327, val := Value.ref 91 }, { hash := PyData.keyHash P (Str.ofString "add_callers"), key := Value.str (Str.ofString "add_callers") 338, val := Value.ref 98 }, { hash := PyData.keyHash P (Str.ofString "count_calls"), key := Value.str (Str.ofString "count_calls") 347, val := Value.ref 105 }, { hash := PyData.keyHash P (Str.ofString "Whitespace"), key := Value.str (Str.ofString "Whitespace") 449, val := Value.ref 167 }] 21 }] ++ (objs1 P ++ ([
  { cls := Value.none, data := Data.fields #[Value.int 1 0, Value.int 0 0, Value.ref 20, Value.int 6 0, Value.int 0 0, Value.ref 27, Value.int 22 0, Value.int 0 0, Value.ref 34, Value.int 32 0, Value.int 0 0, Value.ref 41, Value.int 48 0, Value.int 0 0, Value.ref 48, Value.int 57 0, Value.int 0 0, Value.ref 55, Value.int 69 0, Value.int 0 0, Value.ref 62, Value.int 83 0, Value.int 0 0, Value.ref 90, Value.int 87 0, Value.int 0 0, Value.ref 97, Value.int 100 0, Value.int 0 0, Value.ref 104, Value.int 106 0, Value.int 0 0, Value.ref 111] }] ++ (objs2 P ++ ([
  { cls := Value.type "tuple", data := Data.seq #[] },
  { cls := Value.type "builtin_function_or_method", data := Data.fields #[Value.builtin "type.__prepare__", Value.type "type"] },
  { cls := Value.type "dict", data := Data.dict #[{ hash := PyData.keyHash P (Str.ofString "__module__"), key := Value.str (Str.ofString "__module__") 357, val := Value.str (Str.ofString "cpy313.tabnanny") 348 }, { hash := PyData.keyHash P (Str.ofString "__qualname__"), key := Value.str (Str.ofString "__qualname__") 359, val := Value.str (Str.ofString "Whitespace") 358 }, { hash := PyData.keyHash P (Str.ofString "__firstlineno__"), key := Value.str (Str.ofString "__firstlineno__") 361, val := Value.int 106 360 }, { hash := PyData.keyHash P (Str.ofString "S"), key := Value.str (Str.ofString "S") 365, val := Value.str (Str.ofString " ") 363 }, { hash := PyData.keyHash P (Str.ofString "T"), key := Value.str (Str.ofString "T") 366, val := Value.str (Str.ofString "\t") 364 }, { hash := PyData.keyHash P (Str.ofString "__init__"), key := Value.str (Str.ofString "__init__") 381, val := Value.ref 122 }, { hash := PyData.keyHash P (Str.ofString "longest_run_of_spaces"), key := Value.str (Str.ofString "longest_run_of_spaces") 390, val := Value.ref 129 }, { hash := PyData.keyHash P (Str.ofString "indent_level"), key := Value.str (Str.ofString "indent_level") 402, val := Value.ref 136 }, { hash := PyData.keyHash P (Str.ofString "equal"), key := Value.str (Str.ofString "equal") 410, val := Value.ref 143 }, { hash := PyData.keyHash P (Str.ofString "not_equal_witness"), key := Value.str (Str.ofString "not_equal_witness") 418, val := Value.ref 150 }, { hash := PyData.keyHash P (Str.ofString "less"), key := Value.str (Str.ofString "less") 428, val := Value.ref 157 }, { hash := PyData.keyHash P (Str.ofString "not_less_witness"), key := Value.str (Str.ofString "not_less_witness") 436, val := Value.ref 164 }, { hash := PyData.keyHash P (Str.ofString "__static_attributes__"), key := Value.str (Str.ofString "__static_attributes__") 442, val := Value.ref 165 }] 13 },
  { cls := Value.type "tuple", data := Data.seq #[] },
  { cls := Value.none, data := Data.fields #[Value.int 109 0, Value.int 4 0, Value.ref 121, Value.int 132 0, Value.int 4 0, Value.ref 128, Value.int 136 0, Value.int 4 0, Value.ref 135, Value.int 143 0, Value.int 4 0, Value.ref 142, Value.int 146 0, Value.int 4 0, Value.ref 149, Value.int 149 0, Value.int 4 0, Value.ref 156, Value.int 160 0, Value.int 4 0, Value.ref 163] },
  { cls := Value.type "code", data := Data.fields #[Value.str (Str.ofString "Whitespace") 352, Value.str (Str.ofString "Whitespace") 353, Value.str (Str.ofString "/claim/cut.py") 354, Value.int 106 0, Value.int 0 0, Value.int 0 0, Value.int 0 0, Value.int 0 0, Value.ref 109, Value.bool false, Value.int 181 0, Value.ref 110, Value.none, Value.none, Value.none, Value.none, Value.int 355 0, Value.int 106 0, Value.str (Str.ofString "/claim/cut.py") 356] },
  { cls := Value.type "frame", slots := #[some (Value.ref 111), some (Value.ref 3), some (Value.ref 108), none, some (Value.str (Str.ofString "cpy313.tabnanny") 348), none, some (Value.ref 0)] },
  { cls := Value.type "str_ascii_iterator", data := Data.fields #[Value.none, Value.int 2 0] },
  { cls := Value.type "tuple", data := Data.seq #[] },
  { cls := Value.type "StopIteration", data := Data.fields #[Value.ref 114, Value.none, Value.none, Value.none, Value.bool false, Value.none] },
  { cls := Value.type "tuple", data := Data.seq #[] },
  { cls := Value.none, data := Data.fields #[] },
  { cls := Value.type "tuple", data := Data.seq #[Value.str (Str.ofString "self") 370, Value.str (Str.ofString "ws") 371, Value.str (Str.ofString "S") 372, Value.str (Str.ofString "T") 373, Value.str (Str.ofString "count") 374, Value.str (Str.ofString "b") 375, Value.str (Str.ofString "n") 376, Value.str (Str.ofString "nt") 377, Value.str (Str.ofString "ch") 378] },
  { cls := Value.type "tuple", data := Data.seq #[] },
  { cls := Value.none, data := Data.func { name := Str.ofString "__init__", qualname := Str.ofString "Whitespace.__init__", params := margs 14 1, body := FuncBody.stmts (mbd 14 1), scope := msc 14 1, globals := 0, closure := [], defaults := Value.none, kwdefaults := Value.none } },
  { cls := Value.type "code", data := Data.fields #[Value.str (Str.ofString "__init__") 367, Value.str (Str.ofString "Whitespace.__init__") 368, Value.str (Str.ofString "/claim/cut.py") 369, Value.int 109 0, Value.int 2 0, Value.int 0 0, Value.int 0 0, Value.int 3 0, Value.ref 116, Value.bool true, Value.int 181 0, Value.ref 117, Value.none, Value.ref 118, Value.ref 119, Value.ref 120, Value.int 379 0, Value.int 109 0, Value.str (Str.ofString "/claim/cut.py") 380] },
  { cls := Value.type "function", data := Data.func { name := Str.ofString "__init__", qualname := Str.ofString "Whitespace.__init__", params := margs 14 1, body := FuncBody.stmts (mbd 14 1), scope := msc 14 1, globals := 3, closure := [], defaults := Value.none, kwdefaults := Value.none, pyModule := Value.str (Str.ofString "cpy313.tabnanny") 348, code := Value.ref 121 } },
  { cls := Value.type "tuple", data := Data.seq #[] },
  { cls := Value.none, data := Data.fields #[] },
  { cls := Value.type "tuple", data := Data.seq #[Value.str (Str.ofString "self") 385, Value.str (Str.ofString "count") 386, Value.str (Str.ofString "trailing") 387] },
  { cls := Value.type "tuple", data := Data.seq #[] },
  { cls := Value.none, data := Data.func { name := Str.ofString "longest_run_of_spaces", qualname := Str.ofString "Whitespace.longest_run_of_spaces", params := margs 14 2, body := FuncBody.stmts (mbd 14 2), scope := msc 14 2, globals := 0, closure := [], defaults := Value.none, kwdefaults := Value.none } },
  { cls := Value.type "code", data := Data.fields #[Value.str (Str.ofString "longest_run_of_spaces") 382, Value.str (Str.ofString "Whitespace.longest_run_of_spaces") 383, Value.str (Str.ofString "/claim/cut.py") 384, Value.int 132 0, Value.int 1 0, Value.int 0 0, Value.int 0 0, Value.int 3 0, Value.ref 123, Value.bool true, Value.int 181 0, Value.ref 124, Value.none, Value.ref 125, Value.ref 126, Value.ref 127, Value.int 388 0, Value.int 132 0, Value.str (Str.ofString "/claim/cut.py") 389] },
  { cls := Value.type "function", data := Data.func { name := Str.ofString "longest_run_of_spaces", qualname := Str.ofString "Whitespace.longest_run_of_spaces", params := margs 14 2, body := FuncBody.stmts (mbd 14 2), scope := msc 14 2, globals := 3, closure := [], defaults := Value.none, kwdefaults := Value.none, pyModule := Value.str (Str.ofString "cpy313.tabnanny") 348, code := Value.ref 128 } },
  { cls := Value.type "tuple", data := Data.seq #[] },
  { cls := Value.none, data := Data.fields #[] },
  { cls := Value.type "tuple", data := Data.seq #[Value.str (Str.ofString "self") 394, Value.str (Str.ofString "tabsize") 395, Value.str (Str.ofString "count") 396, Value.str (Str.ofString "trailing") 397, Value.str (Str.ofString "il") 398, Value.str (Str.ofString "i") 399] },
  { cls := Value.type "tuple", data := Data.seq #[] },
  { cls := Value.none, data := Data.func { name := Str.ofString "indent_level", qualname := Str.ofString "Whitespace.indent_level", params := margs 14 3, body := FuncBody.stmts (mbd 14 3), scope := msc 14 3, globals := 0, closure := [], defaults := Value.none, kwdefaults := Value.none } },
  { cls := Value.type "code", data := Data.fields #[Value.str (Str.ofString "indent_level") 391, Value.str (Str.ofString "Whitespace.indent_level") 392, Value.str (Str.ofString "/claim/cut.py") 393, Value.int 136 0, Value.int 2 0, Value.int 0 0, Value.int 0 0, Value.int 3 0, Value.ref 130, Value.bool true, Value.int 181 0, Value.ref 131, Value.none, Value.ref 132, Value.ref 133, Value.ref 134, Value.int 400 0, Value.int 136 0, Value.str (Str.ofString "/claim/cut.py") 401] },
  { cls := Value.type "function", data := Data.func { name := Str.ofString "indent_level", qualname := Str.ofString "Whitespace.indent_level", params := margs 14 3, body := FuncBody.stmts (mbd 14 3), scope := msc 14 3, globals := 3, closure := [], defaults := Value.none, kwdefaults := Value.none, pyModule := Value.str (Str.ofString "cpy313.tabnanny") 348, code := Value.ref 135 } },
  { cls := Value.type "tuple", data := Data.seq #[] },
  { cls := Value.none, data := Data.fields #[] },
  { cls := Value.type "tuple", data := Data.seq #[Value.str (Str.ofString "self") 406, Value.str (Str.ofString "other") 407] },
  { cls := Value.type "tuple", data := Data.seq #[] },
  { cls := Value.none, data := Data.func { name := Str.ofString "equal", qualname := Str.ofString "Whitespace.equal", params := margs 14 4, body := FuncBody.stmts (mbd 14 4), scope := msc 14 4, globals := 0, closure := [], defaults := Value.none, kwdefaults := Value.none } },
  { cls := Value.type "code", data := Data.fields #[Value.str (Str.ofString "equal") 403, Value.str (Str.ofString "Whitespace.equal") 404, Value.str (Str.ofString "/claim/cut.py") 405, Value.int 143 0, Value.int 2 0, Value.int 0 0, Value.int 0 0, Value.int 3 0, Value.ref 137, Value.bool true, Value.int 181 0, Value.ref 138, Value.none, Value.ref 139, Value.ref 140, Value.ref 141, Value.int 408 0, Value.int 143 0, Value.str (Str.ofString "/claim/cut.py") 409] },
  { cls := Value.type "function", data := Data.func { name := Str.ofString "equal", qualname := Str.ofString "Whitespace.equal", params := margs 14 4, body := FuncBody.stmts (mbd 14 4), scope := msc 14 4, globals := 3, closure := [], defaults := Value.none, kwdefaults := Value.none, pyModule := Value.str (Str.ofString "cpy313.tabnanny") 348, code := Value.ref 142 } },
  { cls := Value.type "tuple", data := Data.seq #[] },
  { cls := Value.none, data := Data.fields #[] },
  { cls := Value.type "tuple", data := Data.seq #[Value.str (Str.ofString "self") 414, Value.str (Str.ofString "other") 415] },
  { cls := Value.type "tuple", data := Data.seq #[] },
  { cls := Value.none, data := Data.func { name := Str.ofString "not_equal_witness", qualname := Str.ofString "Whitespace.not_equal_witness", params := margs 14 5, body := FuncBody.stmts (mbd 14 5), scope := msc 14 5, globals := 0, closure := [], defaults := Value.none, kwdefaults := Value.none } },
  { cls := Value.type "code", data := Data.fields #[Value.str (Str.ofString "not_equal_witness") 411, Value.str (Str.ofString "Whitespace.not_equal_witness") 412, Value.str (Str.ofString "/claim/cut.py") 413, Value.int 146 0, Value.int 2 0, Value.int 0 0, Value.int 0 0, Value.int 3 0, Value.ref 144, Value.bool true, Value.int 181 0, Value.ref 145, Value.none, Value.ref 146, Value.ref 147, Value.ref 148, Value.int 416 0, Value.int 146 0, Value.str (Str.ofString "/claim/cut.py") 417] },
  { cls := Value.type "function", data := Data.func { name := Str.ofString "not_equal_witness", qualname := Str.ofString "Whitespace.not_equal_witness", params := margs 14 5, body := FuncBody.stmts (mbd 14 5), scope := msc 14 5, globals := 3, closure := [], defaults := Value.none, kwdefaults := Value.none, pyModule := Value.str (Str.ofString "cpy313.tabnanny") 348, code := Value.ref 149 } },
  { cls := Value.type "tuple", data := Data.seq #[] },
  { cls := Value.none, data := Data.fields #[] },
  { cls := Value.type "tuple", data := Data.seq #[Value.str (Str.ofString "self") 422, Value.str (Str.ofString "other") 423, Value.str (Str.ofString "n") 424, Value.str (Str.ofString "ts") 425] },
  { cls := Value.type "tuple", data := Data.seq #[] },
  { cls := Value.none, data := Data.func { name := Str.ofString "less", qualname := Str.ofString "Whitespace.less", params := margs 14 6, body := FuncBody.stmts (mbd 14 6), scope := msc 14 6, globals := 0, closure := [], defaults := Value.none, kwdefaults := Value.none } },
  { cls := Value.type "code", data := Data.fields #[Value.str (Str.ofString "less") 419, Value.str (Str.ofString "Whitespace.less") 420, Value.str (Str.ofString "/claim/cut.py") 421, Value.int 149 0, Value.int 2 0, Value.int 0 0, Value.int 0 0, Value.int 3 0, Value.ref 151, Value.bool true, Value.int 181 0, Value.ref 152, Value.none, Value.ref 153, Value.ref 154, Value.ref 155, Value.int 426 0, Value.int 149 0, Value.str (Str.ofString "/claim/cut.py") 427] },
  { cls := Value.type "function", data := Data.func { name := Str.ofString "less", qualname := Str.ofString "Whitespace.less", params := margs 14 6, body := FuncBody.stmts (mbd 14 6), scope := msc 14 6, globals := 3, closure := [], defaults := Value.none, kwdefaults := Value.none, pyModule := Value.str (Str.ofString "cpy313.tabnanny") 348, code := Value.ref 156 } },
  { cls := Value.type "tuple", data := Data.seq #[] },
  { cls := Value.none, data := Data.fields #[] },
  { cls := Value.type "tuple", data := Data.seq #[Value.str (Str.ofString "self") 432, Value.str (Str.ofString "other") 433] },
  { cls := Value.type "tuple", data := Data.seq #[] },
  { cls := Value.none, data := Data.func { name := Str.ofString "not_less_witness", qualname := Str.ofString "Whitespace.not_less_witness", params := margs 14 7, body := FuncBody.stmts (mbd 14 7), scope := msc 14 7, globals := 0, closure := [], defaults := Value.none, kwdefaults := Value.none } },
  { cls := Value.type "code", data := Data.fields #[Value.str (Str.ofString "not_less_witness") 429, Value.str (Str.ofString "Whitespace.not_less_witness") 430, Value.str (Str.ofString "/claim/cut.py") 431, Value.int 160 0, Value.int 2 0, Value.int 0 0, Value.int 0 0, Value.int 3 0, Value.ref 158, Value.bool true, Value.int 181 0, Value.ref 159, Value.none, Value.ref 160, Value.ref 161, Value.ref 162, Value.int 434 0, Value.int 160 0, Value.str (Str.ofString "/claim/cut.py") 435] },
  { cls := Value.type "function", data := Data.func { name := Str.ofString "not_less_witness", qualname := Str.ofString "Whitespace.not_less_witness", params := margs 14 7, body := FuncBody.stmts (mbd 14 7), scope := msc 14 7, globals := 3, closure := [], defaults := Value.none, kwdefaults := Value.none, pyModule := Value.str (Str.ofString "cpy313.tabnanny") 348, code := Value.ref 163 } },
  { cls := Value.type "tuple", data := Data.seq #[Value.str (Str.ofString "is_simple") 437, Value.str (Str.ofString "n") 438, Value.str (Str.ofString "norm") 439, Value.str (Str.ofString "nt") 440, Value.str (Str.ofString "raw") 441] },
  { cls := Value.type "dict", data := Data.dict #[{ hash := PyData.keyHash P (Str.ofString "__module__"), key := Value.str (Str.ofString "__module__") 357, val := Value.str (Str.ofString "cpy313.tabnanny") 348 }, { hash := PyData.keyHash P (Str.ofString "__firstlineno__"), key := Value.str (Str.ofString "__firstlineno__") 361, val := Value.int 106 360 }, { hash := PyData.keyHash P (Str.ofString "S"), key := Value.str (Str.ofString "S") 365, val := Value.str (Str.ofString " ") 363 }, { hash := PyData.keyHash P (Str.ofString "T"), key := Value.str (Str.ofString "T") 366, val := Value.str (Str.ofString "\t") 364 }, { hash := PyData.keyHash P (Str.ofString "__init__"), key := Value.str (Str.ofString "__init__") 381, val := Value.ref 122 }, { hash := PyData.keyHash P (Str.ofString "longest_run_of_spaces"), key := Value.str (Str.ofString "longest_run_of_spaces") 390, val := Value.ref 129 }, { hash := PyData.keyHash P (Str.ofString "indent_level"), key := Value.str (Str.ofString "indent_level") 402, val := Value.ref 136 }, { hash := PyData.keyHash P (Str.ofString "equal"), key := Value.str (Str.ofString "equal") 410, val := Value.ref 143 }, { hash := PyData.keyHash P (Str.ofString "not_equal_witness"), key := Value.str (Str.ofString "not_equal_witness") 418, val := Value.ref 150 }, { hash := PyData.keyHash P (Str.ofString "less"), key := Value.str (Str.ofString "less") 428, val := Value.ref 157 }, { hash := PyData.keyHash P (Str.ofString "not_less_witness"), key := Value.str (Str.ofString "not_less_witness") 436, val := Value.ref 164 }, { hash := PyData.keyHash P (Str.ofString "__static_attributes__"), key := Value.str (Str.ofString "__static_attributes__") 442, val := Value.ref 165 }, { hash := PyData.keyHash P (Str.ofString "__dict__"), key := Value.str (Str.ofString "__dict__") 444, val := Value.ref 168 }, { hash := PyData.keyHash P (Str.ofString "__weakref__"), key := Value.str (Str.ofString "__weakref__") 446, val := Value.ref 169 }, { hash := PyData.keyHash P (Str.ofString "__doc__"), key := Value.str (Str.ofString "__doc__") 447, val := Value.none }] 4 },
  { cls := Value.type "type", data := Data.cls { name := Str.ofString "Whitespace", bases := [Value.type "object"], mro := [Value.ref 167, Value.type "object"], ns := 166, qualname := Str.ofString "Whitespace" }, slots := #[none, none, some (Value.str (Str.ofString "Whitespace") 350), some (Value.str (Str.ofString "Whitespace") 358), some (Value.builtin "object.__new__"), some (Value.bool true)] },
  { cls := Value.type "getset_descriptor", data := Data.fields #[Value.str (Str.ofString "__dict__") 443, Value.ref 167, Value.builtin "function.__dict__", Value.builtin "function.__dict__#set"] },
  { cls := Value.type "getset_descriptor", data := Data.fields #[Value.str (Str.ofString "__weakref__") 445, Value.ref 167, Value.builtin "ExceptionGroup.__weakref__", Value.none] },
  { cls := Value.type "super", data := Data.fields #[Value.ref 167, Value.ref 167, Value.ref 167] },
  { cls := Value.type "builtin_function_or_method", data := Data.fields #[Value.builtin "object.__init_subclass__", Value.ref 167] }]))))))) {}
noncomputable def envQ : Env := { scope := PySem.Challenge.pw_ph0169_01.main.scope, locals := mainNs, globals := mainNs, cells := [], code := Value.ref 13, frame := some 14 }
noncomputable def codeQ : Code := Code.body (behindTheImports PySem.Challenge.pw_ph0169_01) envQ
noncomputable def thrQ (n : Nat) (p : Pos) : Thread := ⟨((execs ((behindTheImports PySem.Challenge.pw_ph0169_01).drop n) envQ).onRaise (leaving envQ)).bind fun f => (Sem.pure (Fin.done f) : Sem Fin), codeQ, p, [topFrame { line := 0, col := 0, endLine := 0, endCol := 0 }]⟩
noncomputable def thrA : Thread := thrQ 14 { line := 105, col := 0, endLine := 105, endCol := 8 }
noncomputable def thrB : Thread := thrQ 15 { line := 106, col := 0, endLine := 161, endCol := 16 }
theorem part_one (w : World) (os : OsState) : topGo treeTable PySem.Challenge.pw_ph0169_01 w 11 (some (Value.ref 6)) 618 ⟨boot_heap w.params, Array.mk [], boot_drawn, boot_toks, os⟩ (topStub PySem.Challenge.pw_ph0169_01) = some (⟨Hmid w.params, Array.mk [], boot_drawn, 350, os⟩, thrA) := by kernel_rfl
noncomputable def PartTwo (w : World) : Prop := ∀ os : OsState, topGo treeTable PySem.Challenge.pw_ph0169_01 w 11 (some (Value.ref 6)) 492 ⟨Hmid w.params, Array.mk [], boot_drawn, 350, os⟩ thrA = some (⟨HmidB w.params, Array.mk [], boot_drawn, 450, os⟩, thrB)
theorem part_false (w : World) : PartTwo (w.withFollow "special-get-raises" false) := fun os => by kernel_rfl
theorem part_true (w : World) : PartTwo (w.withFollow "special-get-raises" true) := fun os => by kernel_rfl
theorem part_two (w : World) : PartTwo w := byRow2 "special-get-raises" part_false part_true w
noncomputable def lookQ (w : World) (r : Option Shared) :=
  ((r.bind fun s₁ => match staticsOk ([] : List Str) (boot_heap w.params) s₁.heap && namesBound PySem.Challenge.pw_ph0169_01 s₁.heap && gensDone s₁ && laidKept (boot_heap w.params) s₁.heap with
      | true => some s₁
      | false => none).map fun s => (openSeen viewQ looseQ ([] : List Str) XtQ true s, Hook.obs hookQ s))
theorem part_three (w : World) (os : OsState) : lookQ w (topRun treeTable PySem.Challenge.pw_ph0169_01 w 11 (some (Value.ref 6)) 200 ⟨HmidB w.params, Array.mk [], boot_drawn, 450, os⟩ thrB) = some (openGood viewQ looseQ, Hook.val hookQ w) := by kernel_rfl
theorem opensQ : opening PySem.Challenge.pw_ph0169_01 = plainProg PySem.Challenge.pw_ph0169_01.main.scope.names := by kernel_rfl
theorem sizeQ (P : Params) : ((boot_heap P).isNs mainGlobals, (boot_heap P).objs.size, (boot_heap P).nsMap mainGlobals "__annotations__") = (true, 11, some (Value.ref 6)) := by kernel_rfl
theorem from_top (w : World) (os : OsState) : (topFrom treeTable PySem.Challenge.pw_ph0169_01 w 1310 ⟨boot_heap w.params, Array.mk [], boot_drawn, boot_toks, os⟩).map (fun s => (openSeen viewQ looseQ ([] : List Str) XtQ true s, Hook.obs hookQ s)) = some (openGood viewQ looseQ, Hook.val hookQ w) := by
  obtain ⟨z1, z2, z3⟩ : _ ∧ _ ∧ _ := by simpa only [Prod.mk.injEq] using sizeQ w.params
  have h3 := part_three w os
  cases hr : topRun treeTable PySem.Challenge.pw_ph0169_01 w 11 (some (Value.ref 6)) 200 ⟨HmidB w.params, Array.mk [], boot_drawn, 450, os⟩ thrB with
  | none => rw [hr] at h3; cases h3
  | some r =>
    have k : topRun treeTable PySem.Challenge.pw_ph0169_01 w 11 (some (Value.ref 6)) 1310 ⟨boot_heap w.params, Array.mk [], boot_drawn, boot_toks, os⟩ (topStub PySem.Challenge.pw_ph0169_01) = some r :=
      go_top (n := 618) (N := 692) (part_one w os) (go_top (n := 492) (N := 200) (part_two w os) hr)
    rw [hr] at h3
    unfold topFrom
    dsimp only
    rw [z1, z2, z3, k]
    exact h3
theorem leftQ : LeftO PySem.Challenge.pw_ph0169_01 viewQ looseQ XtQ (Hook.obs hookQ) (Hook.val hookQ) 1310 := fun w => by
  obtain ⟨⟨h, gs, d, k, os⟩, e, e'⟩ := Option.map_eq_some_iff.mp (boot_open (p := PySem.Challenge.pw_ph0169_01) (N := 1310) opensQ (by kernel_rfl) (fun _ => by kernel_rfl) w)
  obtain ⟨rfl, rfl, rfl, rfl⟩ : h = boot_heap w.params ∧ gs = Array.mk [] ∧ d = boot_drawn ∧ k = boot_toks := by simpa using e'
  unfold openEnds
  rw [e]
  exact from_top w os
end Mine
/-! PJ24 -/
set_option maxRecDepth 100000
namespace Mine
noncomputable abbrev KK (w : World) : Frag := K0 w.params
section
variable (w : World)
theorem fi3 : fInfo (KK w) 28 = fiR (sc 3) (bd 3) (defArgs (top 3)) "_div2n1n" 27 := by kernel_rfl
theorem fi5 : fInfo (KK w) 42 = fiR (sc 5) (bd 5) (defArgs (top 5)) "_int2digits" 41 := by kernel_rfl
theorem fi6 : fInfo (KK w) 49 = fiR (sc 6) (bd 6) (defArgs (top 6)) "_digits2int" 48 := by kernel_rfl
theorem fi7 : fInfo (KK w) 56 = fiR (sc 7) (bd 7) (defArgs (top 7)) "_divmod_pos" 55 := by kernel_rfl
theorem fi10 : fInfo (KK w) 91 = fiR (sc 10) (bd 10) (defArgs (top 10)) "add_func_stats" 90 := by kernel_rfl
theorem fi11 : fInfo (KK w) 98 = fiR (sc 11) (bd 11) (defArgs (top 11)) "add_callers" 97 := by kernel_rfl
theorem fi12 : fInfo (KK w) 105 = fiR (sc 12) (bd 12) (defArgs (top 12)) "count_calls" 104 := by kernel_rfl
theorem fi16 : fInfo (KK w) 176 = fiR (sc 16) (bd 16) (defArgs (top 16)) "_law_lead" 175 := by kernel_rfl
theorem fi17 : fInfo (KK w) 183 = fiR (sc 17) (bd 17) (defArgs (top 17)) "_law_columns" 182 := by kernel_rfl
theorem fi18 : fInfo (KK w) 188 = fiR (sc 18) (bd 18) (defArgs (top 18)) "_law_orders" 187 := by kernel_rfl
theorem fi19 : fInfo (KK w) 193 = fiR (sc 19) (bd 19) (defArgs (top 19)) "_law_numberings" 192 := by kernel_rfl
theorem fi20 : fInfo (KK w) 198 = fiR (sc 20) (bd 20) (defArgs (top 20)) "_law_gathered" 197 := by kernel_rfl
theorem fi21 : fInfo (KK w) 203 = fiR (sc 21) (bd 21) (defArgs (top 21)) "law" 202 := by kernel_rfl
theorem fii9 : fInfo (KK w) 70 = fiR (msc 9 0) (mbd 9 0) (margs 9 0) "TupleComp.__init__" 69 := by kernel_rfl
theorem ffi9 : findIn (KK w) (.ref 80) "__init__" = some (some (.ref 70)) := by kernel_rfl
theorem fti9 : typeIn (KK w) (.ref 70) = some (.type "function") := by kernel_rfl
theorem fim9 : fInfo (KK w) 77 = fiR (msc 9 1) (mbd 9 1) (margs 9 1) "TupleComp.compare" 76 := by kernel_rfl
theorem ffm9 : findIn (KK w) (.ref 80) "compare" = some (some (.ref 77)) := by kernel_rfl
theorem ftm9 : typeIn (KK w) (.ref 77) = some (.type "function") := by kernel_rfl
theorem fii14 : fInfo (KK w) 122 = fiR (msc 14 1) (mbd 14 1) (margs 14 1) "Whitespace.__init__" 121 := by kernel_rfl
theorem ffi14 : findIn (KK w) (.ref 167) "__init__" = some (some (.ref 122)) := by kernel_rfl
theorem fti14 : typeIn (KK w) (.ref 122) = some (.type "function") := by kernel_rfl
theorem fim14l : fInfo (KK w) 129 = fiR (msc 14 2) (mbd 14 2) (margs 14 2) "Whitespace.longest_run_of_spaces" 128 := by kernel_rfl
theorem ffm14l : findIn (KK w) (.ref 167) "longest_run_of_spaces" = some (some (.ref 129)) := by kernel_rfl
theorem ftm14l : typeIn (KK w) (.ref 129) = some (.type "function") := by kernel_rfl
theorem fim14i : fInfo (KK w) 136 = fiR (msc 14 3) (mbd 14 3) (margs 14 3) "Whitespace.indent_level" 135 := by kernel_rfl
theorem ffm14i : findIn (KK w) (.ref 167) "indent_level" = some (some (.ref 136)) := by kernel_rfl
theorem ftm14i : typeIn (KK w) (.ref 136) = some (.type "function") := by kernel_rfl
theorem fim14s : fInfo (KK w) 157 = fiR (msc 14 6) (mbd 14 6) (margs 14 6) "Whitespace.less" 156 := by kernel_rfl
theorem ffm14s : findIn (KK w) (.ref 167) "less" = some (some (.ref 157)) := by kernel_rfl
theorem ftm14s : typeIn (KK w) (.ref 157) = some (.type "function") := by kernel_rfl
theorem ng3 : nsIn (KK w) mainGlobals "_div2n1n" = some (some (.ref 28)) := by kernel_rfl
theorem ng5 : nsIn (KK w) mainGlobals "_int2digits" = some (some (.ref 42)) := by kernel_rfl
theorem ng6 : nsIn (KK w) mainGlobals "_digits2int" = some (some (.ref 49)) := by kernel_rfl
theorem ng7 : nsIn (KK w) mainGlobals "_divmod_pos" = some (some (.ref 56)) := by kernel_rfl
theorem ng9 : nsIn (KK w) mainGlobals "TupleComp" = some (some (.ref 80)) := by kernel_rfl
theorem ng10 : nsIn (KK w) mainGlobals "add_func_stats" = some (some (.ref 91)) := by kernel_rfl
theorem ng11 : nsIn (KK w) mainGlobals "add_callers" = some (some (.ref 98)) := by kernel_rfl
theorem ng12 : nsIn (KK w) mainGlobals "count_calls" = some (some (.ref 105)) := by kernel_rfl
theorem ng14 : nsIn (KK w) mainGlobals "Whitespace" = some (some (.ref 167)) := by kernel_rfl
theorem ng16 : nsIn (KK w) mainGlobals "_law_lead" = some (some (.ref 176)) := by kernel_rfl
theorem ng17 : nsIn (KK w) mainGlobals "_law_columns" = some (some (.ref 183)) := by kernel_rfl
theorem ng18 : nsIn (KK w) mainGlobals "_law_orders" = some (some (.ref 188)) := by kernel_rfl
theorem ng19 : nsIn (KK w) mainGlobals "_law_numberings" = some (some (.ref 193)) := by kernel_rfl
theorem ng20 : nsIn (KK w) mainGlobals "_law_gathered" = some (some (.ref 198)) := by kernel_rfl
theorem ng21 : nsIn (KK w) mainGlobals "law" = some (some (.ref 203)) := by kernel_rfl
theorem nb_len : nsIn (KK w) mainGlobals "len" = some none := by kernel_rfl
theorem nb_sum : nsIn (KK w) mainGlobals "sum" = some none := by kernel_rfl
theorem nb_max : nsIn (KK w) mainGlobals "max" = some none := by kernel_rfl
theorem nb_range : nsIn (KK w) mainGlobals "range" = some none := by kernel_rfl
theorem nb_reversed : nsIn (KK w) mainGlobals "reversed" = some none := by kernel_rfl
theorem nb_sorted : nsIn (KK w) mainGlobals "sorted" = some none := by kernel_rfl
theorem nb_divmod : nsIn (KK w) mainGlobals "divmod" = some none := by kernel_rfl
theorem nb_tuple : nsIn (KK w) mainGlobals "tuple" = some none := by kernel_rfl
theorem kc9 : ClsF (KK w) 80 := ⟨by kernel_rfl, by kernel_rfl, by kernel_rfl, by kernel_rfl, by kernel_rfl, by kernel_rfl⟩
theorem kc14 : ClsF (KK w) 167 := ⟨by kernel_rfl, by kernel_rfl, by kernel_rfl, by kernel_rfl, by kernel_rfl, by kernel_rfl⟩
theorem kk9 : keepIn (KK w) (.ref 80) = true := by kernel_rfl
theorem kk14 : keepIn (KK w) (.ref 167) = true := by kernel_rfl
theorem kt9 : takerIn (KK w) 80 "comp_select_list" = some none := by kernel_rfl
theorem ka9 : findIn (KK w) (.ref 80) "comp_select_list" = some none := by kernel_rfl
noncomputable def strIs (o : Option CFound) : Option Str := match o with | some (.val (.str x _)) => some x | _ => none
theorem strIs_of {o : Option CFound} {x : Str} (e : strIs o = some x) : ∃ t, o = some (.val (.str x t)) := by
  unfold strIs at e
  split at e
  · cases e; exact ⟨_, rfl⟩
  · cases e
noncomputable def intIs (o : Option (Option Value)) : Option Int := match o with | some (some (.int n _)) => some n | _ => none
theorem intIs_of {o : Option (Option Value)} {n : Int} (e : intIs o = some n) : ∃ t, o = some (some (.int n t)) := by
  unfold intIs at e
  split at e
  · cases e; exact ⟨_, rfl⟩
  · cases e
theorem kw14 : WsI (KK w) 167 where
  cls := kc14 w
  raw := by kernel_rfl
  n := by kernel_rfl
  nt := by kernel_rfl
  norm := by kernel_rfl
  simple := by kernel_rfl
  traw := by kernel_rfl
  tn := by kernel_rfl
  tnt := by kernel_rfl
  tnorm := by kernel_rfl
  tsimple := by kernel_rfl
  reads := by kernel_rfl
  S := strIs_of (by kernel_rfl)
  T := strIs_of (by kernel_rfl)
theorem klim : ∃ t, nsIn (KK w) mainGlobals "_DIV_LIMIT" = some (some (.int 4000 t)) := intIs_of (by kernel_rfl)
theorem knt : noTabs (KK w) = true := by kernel_rfl
noncomputable def adrT : Nat → Addr
  | 3 => 28
  | 5 => 42
  | 6 => 49
  | 7 => 56
  | 9 => 80
  | 10 => 91
  | 11 => 98
  | 12 => 105
  | 14 => 167
  | 16 => 176
  | 17 => 183
  | 18 => 188
  | 19 => 193
  | 20 => 198
  | 21 => 203
  | _ => 0
noncomputable def nmT : Nat → Str
  | 3 => "_div2n1n"
  | 5 => "_int2digits"
  | 6 => "_digits2int"
  | 7 => "_divmod_pos"
  | 9 => "TupleComp"
  | 10 => "add_func_stats"
  | 11 => "add_callers"
  | 12 => "count_calls"
  | 14 => "Whitespace"
  | 16 => "_law_lead"
  | 17 => "_law_columns"
  | 18 => "_law_orders"
  | 19 => "_law_numberings"
  | 20 => "_law_gathered"
  | 21 => "law"
  | _ => ""
end
section
variable {D : Wd} {w : World}
noncomputable def pgOf (X : (KK w).In D.h₀) (gd : GD D) (hst : D.h₀.get? cStatics ≠ none) : PG D where
  gd := gd
  sm := hst
  bui := fun x hx => by
    simp only [List.mem_cons, List.not_mem_nil, or_false] at hx
    rcases hx with rfl | rfl | rfl | rfl | rfl | rfl | rfl | rfl
    · exact mg_none_of X gd.g (nb_len w)
    · exact mg_none_of X gd.g (nb_sum w)
    · exact mg_none_of X gd.g (nb_max w)
    · exact mg_none_of X gd.g (nb_range w)
    · exact mg_none_of X gd.g (nb_reversed w)
    · exact mg_none_of X gd.g (nb_sorted w)
    · exact mg_none_of X gd.g (nb_divmod w)
    · exact mg_none_of X gd.g (nb_tuple w)
  adr := adrT
  nm := nmT
  fg := fun i hi => by
    simp only [List.mem_cons, List.not_mem_nil, or_false] at hi
    rcases hi with rfl | rfl | rfl | rfl | rfl | rfl | rfl | rfl | rfl | rfl | rfl | rfl | rfl | rfl
    · exact mg_of X gd.g (ng3 w)
    · exact mg_of X gd.g (ng5 w)
    · exact mg_of X gd.g (ng6 w)
    · exact mg_of X gd.g (ng7 w)
    · exact mg_of X gd.g (ng9 w)
    · exact mg_of X gd.g (ng10 w)
    · exact mg_of X gd.g (ng11 w)
    · exact mg_of X gd.g (ng12 w)
    · exact mg_of X gd.g (ng14 w)
    · exact mg_of X gd.g (ng16 w)
    · exact mg_of X gd.g (ng17 w)
    · exact mg_of X gd.g (ng18 w)
    · exact mg_of X gd.g (ng19 w)
    · exact mg_of X gd.g (ng20 w)
noncomputable def lwOf (X : (KK w).In D.h₀) (gd : GD D) (hst : D.h₀.get? cStatics ≠ none) (N5 : NestAt D 42 (mpos 5 1) "_int2digits.<locals>.inner" "_int2digits") (N6 : NestAt D 49 (mpos 6 0) "_digits2int.<locals>.inner" "_digits2int") : Lw D (KK w) where
  P := pgOf X gd hst
  X := X
  f3 := FnAt.ofK X (fi3 w) (bind3 (fun _ _ _ _ _ _ _ _ _ _ _ _ _ _ _ => rfl))
  f5 := FnAt.ofK X (fi5 w) (bind2 (fun _ _ _ _ _ _ _ _ _ _ _ _ _ _ => rfl))
  f6 := FnAt.ofK X (fi6 w) (bind2 (fun _ _ _ _ _ _ _ _ _ _ _ _ _ _ => rfl))
  f7 := FnAt.ofK X (fi7 w) (bind2 (fun _ _ _ _ _ _ _ _ _ _ _ _ _ _ => rfl))
  f10 := FnAt.ofK X (fi10 w) (bind2 (fun _ _ _ _ _ _ _ _ _ _ _ _ _ _ => rfl))
  f11 := FnAt.ofK X (fi11 w) (bind2 (fun _ _ _ _ _ _ _ _ _ _ _ _ _ _ => rfl))
  f12 := FnAt.ofK X (fi12 w) (bind1 (fun _ _ _ _ _ _ _ _ _ _ _ _ _ => rfl))
  f16 := FnAt.ofK X (fi16 w) (bind1 (fun _ _ _ _ _ _ _ _ _ _ _ _ _ => rfl))
  f17 := FnAt.ofK X (fi17 w) (bind1 (fun _ _ _ _ _ _ _ _ _ _ _ _ _ => rfl))
  f18 := FnAt.ofK X (fi18 w) (bind1 (fun _ _ _ _ _ _ _ _ _ _ _ _ _ => rfl))
  f19 := FnAt.ofK X (fi19 w) (bind2 (fun _ _ _ _ _ _ _ _ _ _ _ _ _ _ => rfl))
  f20 := FnAt.ofK X (fi20 w) (bind2 (fun _ _ _ _ _ _ _ _ _ _ _ _ _ _ => rfl))
  n3 := rfl
  n5 := rfl
  n6 := rfl
  n7 := rfl
  n9 := rfl
  n10 := rfl
  n11 := rfl
  n12 := rfl
  n14 := rfl
  n16 := rfl
  n17 := rfl
  n18 := rfl
  n19 := rfl
  n20 := rfl
  lim := by
    obtain ⟨t, e⟩ := klim w
    exact ⟨t, mg_of X gd.g e⟩
  N5 := N5
  N6 := N6
  k9 := kk9 w
  c9 := kc9 w
  t9 := kt9 w
  a9 := ka9 w
  k14 := kk14 w
  c14 := kw14 w
  i9 := ⟨70, ffi9 w, fti9 w, FnAt.ofK X (fii9 w) (bind2 (fun _ _ _ _ _ _ _ _ _ _ _ _ _ _ => rfl))⟩
  m9 := ⟨77, ffm9 w, ftm9 w, FnAt.ofK X (fim9 w) (bind3 (fun _ _ _ _ _ _ _ _ _ _ _ _ _ _ _ => rfl))⟩
  i14 := ⟨122, ffi14 w, fti14 w, FnAt.ofK X (fii14 w) (bind2 (fun _ _ _ _ _ _ _ _ _ _ _ _ _ _ => rfl))⟩
  m14l := ⟨129, ffm14l w, ftm14l w, FnAt.ofK X (fim14l w) (bind1 (fun _ _ _ _ _ _ _ _ _ _ _ _ _ => rfl))⟩
  m14i := ⟨136, ffm14i w, ftm14i w, FnAt.ofK X (fim14i w) (bind2 (fun _ _ _ _ _ _ _ _ _ _ _ _ _ _ => rfl))⟩
  m14s := ⟨157, ffm14s w, ftm14s w, FnAt.ofK X (fim14s w) (bind2 (fun _ _ _ _ _ _ _ _ _ _ _ _ _ _ => rfl))⟩
end
end Mine
/-! PJ25 -/
set_option maxRecDepth 100000
namespace Mine
noncomputable abbrev tabs3 : List (Addr × Addr) := [(48, 44), (41, 37), (202, 200)]
noncomputable def tiOf : List (Addr × Pos × Str) := [(44, mpos 6 0, "_digits2int.<locals>.inner"), (37, mpos 5 1, "_int2digits.<locals>.inner"), (200, lamPos, "law.<locals>.<lambda>")]
noncomputable def wdOf (w : World) (h : Heap) (mg mb : Str → Option Value) : Wd := ⟨PySem.Challenge.pw_ph0169_01, w, ghostOf h tabs3, mg, mb, tiOf⟩

theorem bui_of {h h₁ : Heap} {mg : Str → Option Value} {P : Addr} (hg : h.Ns mainGlobals mg) (hb : ∃ bm ob, mg "__builtins__" = some (.ref bm) ∧ bm ≠ builtinsNs ∧ h.get? bm = some ob ∧ ob.cls = .type "module" ∧ ob.dict = some builtinsNs ∧ ob.data = .plain) (hP : h.get? P = none) : h.BuiltinsAt mg P := by
  obtain ⟨bm, ob, b1, b2, b3, b4, b5, b6⟩ := hb
  refine ⟨bm, ob, b1, b2, fun q => ?_, fun q => ?_, b3, b4, b5, b6⟩
  · obtain ⟨o, es, ep, e, hd, _⟩ := hg
    rw [← q, b3] at e; cases e; rw [b6] at hd; cases hd
  · rw [q, hP] at b3; cases b3
theorem law_binds : ∀ fd : FuncData, fd.params = defArgs (top 21) → fd.defaults = .none → fd.kwdefaults = .none → ∀ vs : List Value, vs.length = (["script"] : List Str).length → bindArgs fd ⟨vs, []⟩ = pure (((["script"] : List Str)).zip vs) := bind1 (fun _ _ _ _ _ _ _ _ _ _ _ _ _ => rfl)
set_option maxHeartbeats 4000000 in
theorem law_end {w : World} {s₁ : Shared} {mg mb : Str → Option Value} {p : Program} {loose : List Str} {mean : ExcName → Option Value} (KX : (KK w).In s₁.heap) (T : Top p loose mean mg mb s₁.heap) (hT : TabsAt tabs3 s₁.heap) (ask : ∀ ns : List Int, ns.length ≤ 63 → ∃ p w x, Asked ns p w x)
    {fa la : Addr} {ns : List Int} {us : List Value} {d : WData} {R : Result → Shared → Prop} (hfa : mg "law" = some (.ref fa)) (hl : s₁.heap.IsList la us.toArray) (hw : Well w.params s₁.heap (.ref la) d) (hi : IntsAre us ns) (hn : ns.length ≤ 63)
    (hR : ∀ s' : Shared, s'.os = s₁.os → s'.gens = s₁.gens → (∀ b o, (ghostOf s₁.heap tabs3).get? b = some o → s'.heap.get? b = some o) → GrownAll tabs3 s'.heap → R (.ok (.ret (.bool true))) s') :
    codeAny (model PySem.Challenge.pw_ph0169_01 w) callerA (.call (.ref fa) ⟨[.ref la], []⟩) R s₁ := by
  have T' := ghost_top hT T
  have X' := ghost_K hT KX (knt w)
  have CA := ghost_code hT
  have e203 : fa = 203 := by
    have := mg_of KX T.g (ng21 w)
    rw [hfa] at this; cases this; rfl
  subst e203
  have nP : ∀ q ∈ tabs3, (ghostOf s₁.heap tabs3).get? q.2 = none := fun q hq => hideAll_none _ (List.mem_map_of_mem hq)
  have gd : GD (wdOf w s₁.heap mg mb) := ⟨T'.g, T'.b, T'.nolimit, T'.builtins⟩
  have hst : (wdOf w s₁.heap mg mb).h₀.get? cStatics ≠ none := by
    obtain ⟨mc, ⟨o, es, ep, e, _⟩, _⟩ := T'.nodigits
    intro q
    have : (ghostOf s₁.heap tabs3).get? cStatics = none := q
    rw [e] at this; cases this
  have hnd : ((wdOf w s₁.heap mg mb).ti.map (·.1)).Nodup := by show ([44, 37, 200] : List Addr).Nodup; decide
  have B : ∀ q ∈ tabs3, (wdOf w s₁.heap mg mb).h₀.BuiltinsAt mg q.2 := fun q hq => bui_of (h₁ := s₁.heap) T'.g T'.bmain (nP q hq)
  have c6 : CodeHd (ghostOf s₁.heap tabs3) 48 44 := CA.1
  have c5 : CodeHd (ghostOf s₁.heap tabs3) 41 37 := CA.2.1
  have c21 : CodeHd (ghostOf s₁.heap tabs3) 202 200 := CA.2.2.1
  have t6 : ((44 : Addr), mpos 6 0, ("_digits2int.<locals>.inner" : Str)) ∈ tiOf := .head _
  have t5 : ((37 : Addr), mpos 5 1, ("_int2digits.<locals>.inner" : Str)) ∈ tiOf := .tail _ (.head _)
  have t21 : ((200 : Addr), lamPos, ("law.<locals>.<lambda>" : Str)) ∈ tiOf := .tail _ (.tail _ (.head _))
  have B6 : (ghostOf s₁.heap tabs3).BuiltinsAt mg 44 := B (48, 44) (.head _)
  have B5 : (ghostOf s₁.heap tabs3).BuiltinsAt mg 37 := B (41, 37) (.tail _ (.head _))
  have B21 : (ghostOf s₁.heap tabs3).BuiltinsAt mg 200 := B (202, 200) (.tail _ (.tail _ (.head _)))
  have N5 : NestAt (wdOf w s₁.heap mg mb) 42 (mpos 5 1) "_int2digits.<locals>.inner" "_int2digits" := NestAt.ofK (D := wdOf w s₁.heap mg mb) (K := KK w) (c := 41) (T := 37) X' (fi5 w) c5 B5 t5 hnd
  have N6 : NestAt (wdOf w s₁.heap mg mb) 49 (mpos 6 0) "_digits2int.<locals>.inner" "_digits2int" := NestAt.ofK (D := wdOf w s₁.heap mg mb) (K := KK w) (c := 48) (T := 44) X' (fi6 w) c6 B6 t6 hnd
  have N21 : NestAt (wdOf w s₁.heap mg mb) 203 lamPos "law.<locals>.<lambda>" "law" := NestAt.ofK (D := wdOf w s₁.heap mg mb) (K := KK w) (c := 202) (T := 200) X' (fi21 w) c21 B21 t21 hnd
  have F21 : FnAt (wdOf w s₁.heap mg mb) 203 ["script"] (bd 21) (sc 21) := FnAt.ofK (D := wdOf w s₁.heap mg mb) (K := KK w) (c := 202) (ps := defArgs (top 21)) (q := "law") X' (fi21 w) law_binds
  have Y := lwOf X' gd hst N5 N6
  obtain ⟨p, wn, x, H⟩ := ask ns hn
  have g : GOK (wdOf w s₁.heap mg mb) (fun b => (ghostOf s₁.heap tabs3).get? b) s₁ := by
    refine ⟨fun b o e => e, fun b o e => of_hideAll _ e, fun q hq => ?_⟩
    have hq' : q ∈ tiOf := hq
    simp only [tiOf, List.mem_cons, List.not_mem_nil, or_false] at hq'
    rcases hq' with rfl | rfl | rfl
    · exact ⟨nP (48, 44) (.head _), _, (hT (48, 44) (.head _)).2, .inl rfl⟩
    · exact ⟨nP (41, 37) (.tail _ (.head _)), _, (hT (41, 37) (.tail _ (.head _))).2, .inl rfl⟩
    · exact ⟨nP (202, 200) (.tail _ (.tail _ (.head _))), _, (hT (202, 200) (.tail _ (.tail _ (.head _)))).2, .inl rfl⟩
  obtain ⟨n, el⟩ := well_list hw hl
  have r : VRs (wdOf w s₁.heap mg mb) (fun b => (ghostOf s₁.heap tabs3).get? b) [lV ns] [.ref la] := VRs.cons (VR.list_iff.mpr ⟨la, us, rfl, ⟨n, ghost_get hT el (fun q => by cases q)⟩, VRs.of_ints hi⟩) VRs.nil
  refine law_call (D := wdOf w s₁.heap mg mb) (p := p) (w := wn) (x := x) Y F21 N21 rfl (by decide +kernel) (by decide +kernel) H g r fun v s' q => ?_
  obtain ⟨G', y, g', rv⟩ := q
  rw [VR.bool_iff.mp rv]
  obtain ⟨h', tk, rfl⟩ := y.same
  refine hR _ rfl rfl (fun b o e => g'.sub b o (y.le b o e)) ?_
  have gr : ∀ q ∈ tiOf, GrownAt q.1 h' := fun q hq => by
    obtain ⟨_, ps, e, _⟩ := g'.tabs q hq
    exact ⟨ps, e⟩
  exact ⟨gr _ (.head _), gr _ (.tail _ (.head _)), gr _ (.tail _ (.tail _ (.head _))), trivial⟩
end Mine
/-! PJ26 -/
set_option maxRecDepth 100000
set_option maxHeartbeats 8000000
namespace Mine
theorem said_row : (OpenLaw.row PySem.Challenge.rw_ph0169_01).wellSaid = true := by kernel_rfl
theorem saidQ : PySem.Challenge.rw_ph0169_01.wellSaid = true := by
  unfold OpenLaw.wellSaid
  rw [said_row]
  kernel_rfl
theorem tw : PySem.Challenge.rw_ph0169_01.Holds := by
  refine holds_law saidQ fun said => ?_
  refine holds_open (d := { name := "law", params := defArgs (top 21), body := bd 21, scope := sc 21, pos := (top 21).pos }) (kwd := []) (q := viewQ) (loose := looseQ) (Xt := XtQ) (XP := XL viewQ []) (Yf := Hook.obs hookQ) (Ya := Hook.val hookQ) (YP := Hook.says hookQ) (N := 1310) leftQ (Hook.of hookQ) (Hook.keeps hookQ) (fun s e => xl_of s (Bool.and_eq_true_iff.mp e).1) XL.keeps (by rfl) (by rfl) (by rfl) (fun s e => recFacts_of (Bool.and_eq_true_iff.mp e).2) (by rfl) (by assumption) (by decide +kernel) ⟨rfl, rfl, rfl, rfl, rfl, by decide +kernel⟩ ?hw ?hc
  case hw => w_witness2
  case hc =>
    intro w s₀ s₁ mg mb G Y fa o pm cd doc dV kV ho hd hcd hD hmg hg args vals as hpre hlay hrd hwl hlo
    have KX : (KK w).In s₁.heap := km_in_of (as := as0) (e := as0_eq) (ts := [44, 37, 200]) Y
    have hT8 : ∀ P ∈ [44, 37, 200], s₁.heap.get? P = some (tabObj #[]) := km_tabs_of (K := K0) (as := as0) (e := as0_eq) Y
    have hT9 : TabsAt tabs3 s₁.heap := fun q hq => by
      simp only [List.mem_cons, List.not_mem_nil, or_false] at hq
      rcases hq with rfl | rfl | rfl
      · exact ⟨codeHd_of_K KX (by kernel_rfl), hT8 _ (.head _)⟩
      · exact ⟨codeHd_of_K KX (by kernel_rfl), hT8 _ (.tail _ (.head _))⟩
      · exact ⟨codeHd_of_K KX (by kernel_rfl), hT8 _ (.tail _ (.tail _ (.head _)))⟩
    clear ho hd hcd hD Y
    refine Ground.open G ?_
    clear G
    intro T B D TE TW
    clear B D TE TW
    wrow_args hpre hlay hrd hwl hlo
    rename_i ns hs hlay0 hL1 hr1 hl2 a4 a3 la us a0 hL ra w1 r0 hI hr hc1 hc2
    clear hs hlay0 hL1 hr1 hl2 r0 hr hc2 ra
    refine enter_call ?_
    refine kn_post hT9 (fun _ _ => rfl) ?_
    refine law_end KX T hT9 asked hmg hL w1 hI (by omega) (fun s' e1 e2 e3 e4 => ⟨⟨.inl ⟨_, .bool true, [], rfl, fun cls => ?_, .bool true, ?_, fun _ => ⟨List.nodup_nil, fun a ha => absurd ha List.not_mem_nil⟩⟩, e3, e1, e2.trans hg⟩, e4⟩)
    · kernel_rfl
    · kernel_rfl
end Mine
/-! the claim -/
theorem PySem.Challenge.cw_ph0169_01_holds : PySem.Challenge.rw_ph0169_01.Holds :=
  Mine.tw
