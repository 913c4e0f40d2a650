import PyProof.Rows.All
import Wide.All
import OpenK.AllK
import KE.KRevSl
import Wide.FinOn
import PySem.Challenge.RW_wn0111_02
set_option Elab.async false
set_option maxRecDepth 100000
section
open PySem PySem.W PySem.Calls PyProof.Rows
set_option Elab.async false
set_option maxRecDepth 100000
set_option linter.unusedVariables false
namespace Mine

/-- abstract data, by value; `ptr a`: the very object at a -/
inductive D where
  | none
  | bool (b : Bool)
  | int (i : Int)
  | str (x : Str)
  | tup (l : List D)
  | list (l : List D)
  | ws (C : Addr) (n nt : Int) (counts : List Int) (b : Int)
  | ptr (a : Addr)
  deriving Inhabited

noncomputable abbrev ASet := Addr → Prop

noncomputable def IsWs (X : ASet) (h : Heap) (C : Addr) (n nt : Int) (counts : List Int) (b : Int) (x : Addr) : Prop :=
  ∃ dx m, ¬ X x ∧ ¬ X dx ∧ h.get? x = some (instObj C dx) ∧ h.Ns dx m ∧ (∃ t, m "n" = some (.int n t)) ∧ (∃ t, m "nt" = some (.int nt t)) ∧
    m "indent_level" = Option.none ∧ m "equal" = Option.none ∧
    ∃ p q vs t, m "norm" = some (.ref p) ∧ ¬ X p ∧ ¬ X q ∧ h.IsTuple p #[.ref q, .int b t] ∧ h.IsTuple q vs ∧ vs.toList.map (fun v => match v with | .int i _ => some i | _ => Option.none) = counts.map some

mutual
noncomputable def Rd (X : ASet) (h : Heap) : D → Value → Prop
  | .none, v => v = .none
  | .bool b, v => v = .bool b
  | .int i, v => ∃ t, v = .int i t
  | .str x, v => ∃ t, v = .str x t
  | .tup l, v => ∃ a vs, v = .ref a ∧ ¬ X a ∧ h.IsTuple a vs ∧ RdL X h l vs.toList
  | .list l, v => ∃ a vs, v = .ref a ∧ ¬ X a ∧ h.IsList a vs ∧ RdL X h l vs.toList
  | .ws C n nt counts b, v => ∃ x, v = .ref x ∧ IsWs X h C n nt counts b x
  | .ptr a, v => v = .ref a
noncomputable def RdL (X : ASet) (h : Heap) : List D → List Value → Prop
  | [], vs => vs = []
  | d :: r, vs => ∃ v vr, vs = v :: vr ∧ Rd X h d v ∧ RdL X h r vr
end

/-- what stands outside X in h stands in h' -/
noncomputable def Agree (X : ASet) (h h' : Heap) : Prop := ∀ b o, ¬ X b → (∀ ps, o ≠ tabObj ps) → h.get? b = some o → h'.get? b = some o

theorem nt_cls {o : Obj} {T : String} (h : o.cls = .type T) : ∀ ps, o ≠ tabObj ps := fun ps e => by rw [e] at h; cases h
theorem nt_ref {o : Obj} {T : Addr} (h : o.cls = .ref T) : ∀ ps, o ≠ tabObj ps := fun ps e => by rw [e] at h; cases h
theorem nt_dict {o : Obj} {es n} (h : o.data = .dict es n) : ∀ ps, o ≠ tabObj ps := fun ps e => by rw [e] at h; cases h
theorem nt_cell {o : Obj} {v} (h : o.data = .cell v) : ∀ ps, o ≠ tabObj ps := fun ps e => by rw [e] at h; cases h

theorem isList_agree {X : ASet} {h h' : Heap} {a : Addr} {vs} (g : Agree X h h') (hx : ¬ X a) (x : h.IsList a vs) : h'.IsList a vs :=
  let ⟨o, e, c, r⟩ := x; ⟨o, g a o hx (nt_cls c) e, c, r⟩
theorem isTuple_agree {X : ASet} {h h' : Heap} {a : Addr} {vs} (g : Agree X h h') (hx : ¬ X a) (x : h.IsTuple a vs) : h'.IsTuple a vs :=
  let ⟨o, e, c, r⟩ := x; ⟨o, g a o hx (nt_cls c) e, c, r⟩
theorem ns_agree {X : ASet} {h h' : Heap} {a : Addr} {m} (g : Agree X h h') (hx : ¬ X a) (x : h.Ns a m) : h'.Ns a m :=
  let ⟨o, es, ep, e, hd, r⟩ := x; ⟨o, es, ep, g a o hx (nt_dict hd) e, hd, r⟩
theorem isCell_agree {X : ASet} {h h' : Heap} {a : Addr} {v} (g : Agree X h h') (hx : ¬ X a) (x : h.IsCell a v) : h'.IsCell a v :=
  let ⟨o, e, hd⟩ := x; ⟨o, g a o hx (nt_cell hd) e, hd⟩

/-- a read survives a step and a smaller set -/
theorem IsWs.mono {X X' : ASet} {h h' : Heap} {C n nt counts b x} (g : Agree X h h') (hs : ∀ b, X' b → X b) (r : IsWs X h C n nt counts b x) : IsWs X' h' C n nt counts b x := by
  obtain ⟨dx, m, h1, h2, h3, h4, h5, h6, h7, h8, p, q, vs, t, h9, h10, h11, h12, h13, h14⟩ := r
  exact ⟨dx, m, fun y => h1 (hs _ y), fun y => h2 (hs _ y), g _ _ h1 (nt_ref rfl) h3, ns_agree g h2 h4, h5, h6, h7, h8, p, q, vs, t, h9, fun y => h10 (hs _ y), fun y => h11 (hs _ y), isTuple_agree g h10 h12, isTuple_agree g h11 h13, h14⟩

mutual
theorem Rd.mono {X X' : ASet} {h h' : Heap} (g : Agree X h h') (hs : ∀ b, X' b → X b) : ∀ {d : D} {v : Value}, Rd X h d v → Rd X' h' d v
  | .none, _, r => by simpa only [Rd] using r
  | .bool _, _, r => by simpa only [Rd] using r
  | .int _, _, r => by simpa only [Rd] using r
  | .str _, _, r => by simpa only [Rd] using r
  | .ptr _, _, r => by simpa only [Rd] using r
  | .tup l, v, r => by
    simp only [Rd] at r ⊢
    obtain ⟨a, vs, e, hx, ht, hl⟩ := r
    exact ⟨a, vs, e, fun y => hx (hs _ y), isTuple_agree g hx ht, RdL.mono g hs hl⟩
  | .list l, v, r => by
    simp only [Rd] at r ⊢
    obtain ⟨a, vs, e, hx, ht, hl⟩ := r
    exact ⟨a, vs, e, fun y => hx (hs _ y), isList_agree g hx ht, RdL.mono g hs hl⟩
  | .ws .., v, r => by
    simp only [Rd] at r ⊢
    obtain ⟨x, e, hw⟩ := r
    exact ⟨x, e, hw.mono g hs⟩
theorem RdL.mono {X X' : ASet} {h h' : Heap} (g : Agree X h h') (hs : ∀ b, X' b → X b) : ∀ {ds : List D} {vs : List Value}, RdL X h ds vs → RdL X' h' ds vs
  | [], _, r => by simpa only [RdL] using r
  | d :: ds, vs, r => by
    simp only [RdL] at r ⊢
    obtain ⟨v, vr, e, h1, h2⟩ := r
    exact ⟨v, vr, e, Rd.mono g hs h1, RdL.mono g hs h2⟩
end

theorem Agree.refl {X : ASet} {h : Heap} : Agree X h h := fun _ _ _ _ e => e
theorem Agree.trans {X : ASet} {a b c : Heap} (x : Agree X a b) (y : Agree X b c) : Agree X a c := fun q o hx hn e => y q o hx hn (x q o hx hn e)
theorem Agree.weak {X Y : ASet} {h h' : Heap} (g : Agree Y h h') (hs : ∀ b, Y b → X b) : Agree X h h' := fun b o hx hn e => g b o (fun y => hx (hs _ y)) hn e

/-- flat data: no addresses -/
noncomputable def D.flat : D → Bool
  | .none => true
  | .bool _ => true
  | .int _ => true
  | .str _ => true
  | .ptr _ => true
  | _ => false
theorem Rd.flat {X X' : ASet} {h h' : Heap} {d : D} {v : Value} (hf : d.flat = true) (r : Rd X h d v) : Rd X' h' d v := by
  cases d <;> first | (exact absurd hf Bool.false_ne_true) | simpa only [Rd] using r

/-- a nested def's place in its maker's table of code objects -/
structure Tab where
  c : Addr
  P : Addr
  line : Nat
  col : Nat
  qual : Str

structure Prm where
  prog : Program
  w : World
  G : Heap
  K : Frag
  mg : Str → Option Value
  mb : Str → Option Value
  tabs : List Tab

noncomputable def TabAt (X : ASet) (t : Tab) (h : Heap) : Prop :=
  X t.P ∧ (h.get? t.P = some (tabObj #[]) ∨ ∃ c', ¬ X c' ∧ h.get? t.P = some (tabObj #[rawInt t.line, rawInt t.col, .ref c']) ∧
    ∃ o vs q, h.get? c' = some o ∧ o.cls = .type "code" ∧ o.data = .fields vs ∧ vs[1]? = some (.str t.qual q))

structure PrmOK (P : Prm) : Prop where
  kin : P.K.In P.G
  g : P.G.Ns mainGlobals P.mg
  b : P.G.Ns builtinsNs P.mb
  nolimit : P.G.NoLimit
  builtins : ∀ x : Str, x ≠ "__name__" → P.mb x = bootBuiltins x
  code : ∀ t ∈ P.tabs, CodeHd P.G t.c t.P
  bat : ∀ t ∈ P.tabs, P.G.BuiltinsAt P.mg t.P
  gt : ∀ t ∈ P.tabs, P.G.get? t.P = none

structure At (P : Prm) (X : ASet) (h : Heap) : Prop where
  low : ∀ b o, P.G.get? b = some o → h.get? b = some o
  xlow : ∀ b, X b → P.G.get? b = none
  tab : ∀ t ∈ P.tabs, TabAt X t h
  below : ∀ b, X b → b < h.objs.size

structure HStep (P : Prm) (Y : ASet) (h h' : Heap) : Prop where
  keep : Agree Y h h'
  low : ∀ b o, P.G.get? b = some o → h.get? b = some o → h'.get? b = some o
  tab : ∀ (X : ASet) t, t ∈ P.tabs → (∀ b, X b → b < h.objs.size) → TabAt X t h → TabAt X t h'
  size : h.objs.size ≤ h'.objs.size

structure Step (P : Prm) (Y : ASet) (s s' : Shared) : Prop where
  heap : HStep P Y s.heap s'.heap
  os : s'.os = s.os
  gens : ∀ (i : Nat) (x : GenState), s.gens[i]? = some x → s'.gens[i]? = some x
  bare : AllBare s.gens → AllBare s'.gens

noncomputable def E0 : ASet := fun _ => False
noncomputable def F0 : Value → Shared → Prop := fun _ _ => False

section
variable {P : Prm} {X X' X₀ Y Y' : ASet} {h h' h'' : Heap} {s s' s'' : Shared}
theorem HStep.refl : HStep P Y h h := ⟨.refl, fun _ _ _ e => e, fun _ _ _ _ t => t, Nat.le_refl _⟩
theorem HStep.trans (a : HStep P Y h h') (b : HStep P Y h' h'') : HStep P Y h h'' :=
  ⟨a.keep.trans b.keep, fun q o e e1 => b.low q o e (a.low q o e e1), fun X t ht hx k => b.tab X t ht (fun q y => Nat.lt_of_lt_of_le (hx q y) a.size) (a.tab X t ht hx k), Nat.le_trans a.size b.size⟩
theorem HStep.weak (a : HStep P Y h h') (hs : ∀ b, Y b → Y' b) : HStep P Y' h h' := ⟨a.keep.weak hs, a.low, a.tab, a.size⟩
/-- what was made after h₀ may be changed -/
theorem HStep.own {h₀ : Heap} (a : HStep P E0 h₀ h) (b : HStep P Y h h') (hy : ∀ q, Y q → h₀.objs.size ≤ q) : HStep P E0 h₀ h' :=
  ⟨fun q o _ hn e => b.keep q o (fun y => Nat.lt_irrefl _ (Nat.lt_of_lt_of_le (Heap.lt_size e) (hy q y))) hn (a.keep q o (fun y => y) hn e),
    fun q o e e1 => b.low q o e (a.low q o e e1), fun X t ht hx k => b.tab X t ht (fun q y => Nat.lt_of_lt_of_le (hx q y) a.size) (a.tab X t ht hx k), Nat.le_trans a.size b.size⟩
theorem Step.refl : Step P Y s s := ⟨.refl, rfl, fun _ _ e => e, fun e => e⟩
theorem Step.trans (a : Step P Y s s') (b : Step P Y s' s'') : Step P Y s s'' :=
  ⟨a.heap.trans b.heap, b.os.trans a.os, fun i x e => b.gens i x (a.gens i x e), fun e => b.bare (a.bare e)⟩
theorem Step.weak (a : Step P Y s s') (hs : ∀ b, Y b → Y' b) : Step P Y' s s' := ⟨a.heap.weak hs, a.os, a.gens, a.bare⟩
theorem Step.any (a : Step P E0 s s') : Step P Y s s' := a.weak fun _ y => y.elim
theorem Step.own {s₀ : Shared} (a : Step P E0 s₀ s) (b : Step P Y s s') (hy : ∀ q, Y q → s₀.heap.objs.size ≤ q) : Step P E0 s₀ s' :=
  ⟨a.heap.own b.heap hy, b.os.trans a.os, fun i x e => b.gens i x (a.gens i x e), fun e => b.bare (a.bare e)⟩
/-- the very same objects: only new ones, new toks -/
theorem HStep.of_keeps (k : ∀ b o, h.get? b = some o → h'.get? b = some o) (sz : h.objs.size ≤ h'.objs.size) : HStep P Y h h' :=
  ⟨fun b o _ _ e => k b o e, fun b o _ e => k b o e, fun X t _ _ ⟨x0, x⟩ => ⟨x0, x.elim (fun e => .inl (k _ _ e)) fun ⟨c', hx, e, o, vs, q, e1, e2⟩ => .inr ⟨c', hx, k _ _ e, o, vs, q, k _ _ e1, e2⟩⟩, sz⟩
theorem HStep.push (o : Obj) : HStep P Y h (h.push o) := .of_keeps (fun _ _ e => Heap.get?_push_of_some _ e) (by rw [Heap.size_push]; exact Nat.le_succ _)
theorem step_heap (st : HStep P Y s.heap h) {tk : Nat} : Step P Y s { s with heap := h, toks := tk } := ⟨st, rfl, fun _ _ e => e, fun e => e⟩
theorem step_toks {tk : Nat} : Step P Y s { s with toks := tk } := ⟨.refl, rfl, fun _ _ e => e, fun e => e⟩

theorem At.step (a : At P X h) (st : HStep P Y h h') : At P X h' :=
  ⟨fun b o e => st.low b o e (a.low b o e), a.xlow, fun t ht => st.tab X t ht a.below (a.tab t ht), fun b x => Nat.lt_of_lt_of_le (a.below b x) st.size⟩
theorem At.kin (a : At P X h) (p : PrmOK P) : P.K.In h := p.kin.keeps a.low
theorem At.g (a : At P X h) (p : PrmOK P) : h.Ns mainGlobals P.mg := p.g.keeps a.low
theorem At.b (a : At P X h) (p : PrmOK P) : h.Ns builtinsNs P.mb := p.b.keeps a.low
theorem At.nolimit (a : At P X h) (p : PrmOK P) : h.NoLimit := p.nolimit.keeps a.low

/-- a change at one address of X -/
theorem HStep.update (a : At P X h) {c : Addr} (hc : X c) (ht : ∀ t ∈ P.tabs, c ≠ t.P) (hs : Heap.SameBut c h h') : HStep P (fun b => b = c) h h' where
  keep := fun b o hb _ e => hs.extBut b o hb e
  low := fun b o e e1 => hs.extBut b o (fun q => by rw [q, a.xlow c hc] at e; cases e) e1
  tab := fun X' t hm _ ⟨x0, x⟩ => by
    obtain ⟨y0, y⟩ := a.tab t hm
    have hP : t.P ≠ c := fun q => ht t hm q.symm
    refine ⟨x0, x.elim (fun e => .inl (hs.extBut _ _ hP e)) fun ⟨c', hx, e, o, vs, q, e1, e2⟩ => .inr ⟨c', hx, hs.extBut _ _ hP e, o, vs, q, hs.extBut _ _ (fun r => ?_) e1, e2⟩⟩
    subst r
    rcases y with y | ⟨c₂, hx2, y, _⟩
    · rw [e] at y; simp at y
    · rw [e] at y
      simp at y
      rw [y] at hc
      exact hx2 hc
  size := Nat.le_of_eq hs.1.symm

/-- no code object -/
noncomputable def NC (o : Obj) : Prop := ∀ vs, o.cls = .type "code" → o.data = .fields vs → False
theorem nc_cls {o : Obj} {T : String} (h : o.cls = .type T) (ht : T ≠ "code" := by decide) : NC o := fun vs e _ => by rw [h] at e; injection e with e; exact ht e
theorem nc_ref {o : Obj} {T : Addr} (h : o.cls = .ref T) : NC o := fun vs e _ => by rw [h] at e; cases e
theorem nc_dict {o : Obj} {es n} (h : o.data = .dict es n) : NC o := fun vs _ e => by rw [h] at e; cases e
theorem nc_cell {o : Obj} {v} (h : o.data = .cell v) : NC o := fun vs _ e => by rw [h] at e; cases e

/-- a mutable set grows by something new -/
theorem At.more {h₀ : Heap} (a₀ : At P X₀ h₀) (a : At P X h) {c : Addr} (hc : h₀.objs.size ≤ c) {o : Obj} (ho : h.get? c = some o) (hn : NC o) : At P (fun b => X b ∨ b = c) h :=
  ⟨a.low, fun b x => x.elim (a.xlow b) fun e => by
      subst e
      cases q : P.G.get? b with
      | none => rfl
      | some o' => exact absurd (Heap.lt_size (a₀.low _ _ q)) (Nat.not_lt.mpr hc),
    fun t ht => by
      obtain ⟨y0, y⟩ := a.tab t ht
      refine ⟨.inl y0, y.elim .inl fun ⟨c', hx, e, o', vs, q, e1, e2, r⟩ => .inr ⟨c', fun q => q.elim hx fun q => ?_, e, o', vs, q, e1, e2, r⟩⟩
      subst q
      rw [ho] at e1; cases e1; exact hn _ e2 r.1,
    fun b x => x.elim (a.below b) fun e => e ▸ Heap.lt_size ho⟩
theorem At.less (a : At P X h) (hs : ∀ b, X' b → X b) (ht : ∀ t ∈ P.tabs, X' t.P) : At P X' h :=
  ⟨a.low, fun b x => a.xlow b (hs b x), fun t hm => ⟨ht t hm, (a.tab t hm).2.elim .inl fun ⟨c', hx, r⟩ => .inr ⟨c', fun q => hx (hs _ q), r⟩⟩, fun b x => a.below b (hs b x)⟩
end

end Mine
end
section
open PySem PySem.W PySem.Calls PyProof.Rows
set_option Elab.async false
set_option maxRecDepth 100000
set_option linter.unusedVariables false
namespace Mine

noncomputable abbrev Rho := List (Str × D)

noncomputable def Room (A : Around) (n : Nat) : Prop := A.handled = none ∧ A.depth + n < 990 ∧ A.units + 20 * n < 9700

structure EnvAt (P : Prm) (X : ASet) (env : Env) (sc : Scope) (ρ : Rho) (s : Shared) : Prop where
  at' : At P X s.heap
  hsc : env.scope = sc
  hk : sc.kind = .function
  hg : env.globals = mainGlobals
  hb : env.builtins = builtinsNs
  xl : X env.locals
  lcl : ∃ m, s.heap.Ns env.locals m ∧ ∀ x d, ρ.lookup x = some d → sc.names.lookup x = some .local → ∃ v, m x = some v ∧ Rd X s.heap d v
  cel : ∀ x d, ρ.lookup x = some d → (sc.names.lookup x = some .cell ∨ sc.names.lookup x = some .free) → ∃ c v, env.cells.lookup x = some c ∧ s.heap.IsCell c (some v) ∧ Rd X s.heap d v
  knd : ∀ x d, ρ.lookup x = some d → sc.names.lookup x = some .local ∨ sc.names.lookup x = some .cell ∨ sc.names.lookup x = some .free
  xc : ∀ n c, (n, c) ∈ env.cells → X c ∧ c ≠ env.locals ∧ ∃ v, s.heap.IsCell c v

/-- what env's own frame lies in -/
noncomputable def Seat (env : Env) : ASet := fun b => b = env.locals ∨ ∃ n, (n, b) ∈ env.cells

section
variable {P : Prm} {X X' Y : ASet} {env : Env} {sc : Scope} {ρ ρ' : Rho} {s s' : Shared} {A : Around} {n : Nat}

theorem mem_lookup {α : Type} : ∀ {l : List (Str × α)} {x : Str} {a : α}, l.lookup x = some a → (x, a) ∈ l
  | (y, b) :: r, x, a, h => by
    rw [List.lookup_cons] at h
    cases hb : x == y with
    | true => rw [hb] at h; cases h; rw [eq_of_beq hb]; exact .head _
    | false => rw [hb] at h; exact .tail _ (mem_lookup h)

theorem subs_nil : ∀ p ∈ ([] : Rho), ρ.lookup p.1 = some p.2 := fun _ h => (nomatch h)
theorem subs_cons {x : Str} {d : D} (h : ρ.lookup x = some d) (r : ∀ p ∈ ρ', ρ.lookup p.1 = some p.2) : ∀ p ∈ (x, d) :: ρ', ρ.lookup p.1 = some p.2 := List.forall_mem_cons.mpr ⟨h, r⟩
theorem EnvAt.stepY (e : EnvAt P X env sc ρ s) (st : Step P Y s s') (hy : ∀ b, Y b → X b) (hd : ∀ b, Y b → ¬ Seat env b) : EnvAt P X env sc ρ s' := by
  have g : Agree X s.heap s'.heap := st.heap.keep.weak hy
  have nl : ¬ Y env.locals := fun y => hd _ y (.inl rfl)
  have nc : ∀ n c, (n, c) ∈ env.cells → ¬ Y c := fun n c hm y => hd _ y (.inr ⟨n, hm⟩)
  obtain ⟨m, hm, hl⟩ := e.lcl
  exact ⟨e.at'.step st.heap, e.hsc, e.hk, e.hg, e.hb, e.xl, ⟨m, ns_agree st.heap.keep nl hm, fun x d a b => let ⟨v, p, q⟩ := hl x d a b; ⟨v, p, q.mono g fun _ y => y⟩⟩,
    fun x d a b => let ⟨c, v, p, q, r⟩ := e.cel x d a b; ⟨c, v, p, isCell_agree st.heap.keep (nc _ _ (mem_lookup p)) q, r.mono g fun _ y => y⟩, e.knd,
    fun n c hm => let ⟨a, b, v, q⟩ := e.xc n c hm; ⟨a, b, v, isCell_agree st.heap.keep (nc _ _ hm) q⟩⟩
theorem EnvAt.step (e : EnvAt P X env sc ρ s) (st : Step P E0 s s') : EnvAt P X env sc ρ s' := e.stepY st (fun _ y => y.elim) (fun _ y => y.elim)
theorem EnvAt.sub (e : EnvAt P X env sc ρ s) (hs : ∀ p ∈ ρ', ρ.lookup p.1 = some p.2) : EnvAt P X env sc ρ' s := by
  obtain ⟨m, hm, hl⟩ := e.lcl
  have up : ∀ x d, ρ'.lookup x = some d → ρ.lookup x = some d := fun x d a => hs (x, d) (mem_lookup a)
  exact ⟨e.at', e.hsc, e.hk, e.hg, e.hb, e.xl, ⟨m, hm, fun x d a b => hl x d (up x d a) b⟩, fun x d a b => e.cel x d (up x d a) b, fun x d a => e.knd x d (up x d a), e.xc⟩

/-- evaluation of an expression: by value, nothing old is changed -/
noncomputable def Ev (P : Prm) (n : Nat) (sc : Scope) (ρ : Rho) (e : Expr) (d : D) : Prop :=
  ∀ X env A s, EnvAt P X env sc ρ s → Room A n → wpAny (model P.prog P.w) A (eval e env) (fun v s' => Step P E0 s s' ∧ Rd X s'.heap d v) F0 s
/-- a test -/
noncomputable def Tr (P : Prm) (n : Nat) (sc : Scope) (ρ : Rho) (e : Expr) (b : Bool) : Prop :=
  ∀ X env A s, EnvAt P X env sc ρ s → Room A n → wpAny (model P.prog P.w) A (isTrue e env (eval e env)) (fun b' s' => Step P E0 s s' ∧ b' = b) F0 s

theorem wp_E0 {α : Type} {M : Model} {t : Sem α} {Q : α → Shared → Prop} {E : Value → Shared → Prop} (h : wpAny M A t Q F0 s) : wpAny M A t Q E s := wpAny_mono h (fun _ _ x => x) fun _ _ x => x.elim

theorem ev_of {E : Value → Shared → Prop} {Q : Value → Shared → Prop} {e : Expr} {d : D} (h : Ev P n sc ρ e d) (x : EnvAt P X env sc ρ s) (r : Room A n)
    (k : ∀ v s', Step P E0 s s' → EnvAt P X env sc ρ s' → Rd X s'.heap d v → Q v s') : wpAny (model P.prog P.w) A (eval e env) Q E s :=
  wpAny_mono (h X env A s x r) (fun v s' ⟨a, b⟩ => k v s' a (x.step a) b) fun _ _ y => y.elim
theorem tr_of {E : Value → Shared → Prop} {Q : Bool → Shared → Prop} {e : Expr} {b : Bool} (h : Tr P n sc ρ e b) (x : EnvAt P X env sc ρ s) (r : Room A n)
    (k : ∀ s', Step P E0 s s' → EnvAt P X env sc ρ s' → Q b s') : wpAny (model P.prog P.w) A (isTrue e env (eval e env)) Q E s :=
  wpAny_mono (h X env A s x r) (fun v s' ⟨a, c⟩ => c ▸ k s' a (x.step a)) fun _ _ y => y.elim

theorem kindOf_eq (e : EnvAt P X env sc ρ s) (x : Str) : env.kindOf x = sc.names.lookup x := by show env.scope.names.lookup x = _; rw [e.hsc]
theorem kind_eq (e : EnvAt P X env sc ρ s) : env.scope.kind = .function := by rw [e.hsc]; exact e.hk
theorem noSpecial (e : EnvAt P X env sc ρ s) : (env.scope.kind == .class || (env.scope.kind == .module && env.locals != env.globals)) = false := by rw [kind_eq e]; rfl

theorem load_env {x : Str} {d : D} {E : Value → Shared → Prop} {Q : Value → Shared → Prop} (e : EnvAt P X env sc ρ s) (hx : ρ.lookup x = some d) (k : ∀ v, Rd X s.heap d v → Q v s)
    (hc : (x == ("__classdict__" : Str)) = false := by decide) : wpAny (model P.prog P.w) A (loadName env x) Q E s := by
  rcases e.knd x d hx with h | h | h
  · obtain ⟨m, hm, hl⟩ := e.lcl
    obtain ⟨v, hv, hr⟩ := hl x d hx h
    exact wpAny_loadName_local (kind_eq e) ((kindOf_eq e x).trans h) hm hv (k v hr)
  · obtain ⟨c, v, p, q, r⟩ := e.cel x d hx (.inl h)
    exact wpAny_loadName_cell (kind_eq e) ((kindOf_eq e x).trans h) p q (k v r)
  · obtain ⟨c, v, p, q, r⟩ := e.cel x d hx (.inr h)
    exact wpAny_loadName_free (kind_eq e) ((kindOf_eq e x).trans h) p q (k v r) hc

theorem ev_name {x : Str} {pos : Pos} {d : D} (hx : ρ.lookup x = some d) (hd : (x == ("__debug__" : Str)) = false := by decide) (hc : (x == ("__classdict__" : Str)) = false := by decide) :
    Ev P n sc ρ (.Name x pos) d := fun X env A s e r => wpAny_Name (load_env e hx (fun v hv => ⟨.refl, hv⟩) hc) hd
theorem ev_int {i : Int} {k : Nat} {pos : Pos} : Ev P n sc ρ (.Constant (.int i) k pos) (.int i) := fun X env A s e r => wpAny_Constant_int ⟨step_toks, by simp only [Rd]; exact ⟨_, rfl⟩⟩
theorem ev_str {x : Str} {k : Nat} {pos : Pos} : Ev P n sc ρ (.Constant (.str x) k pos) (.str x) := fun X env A s e r => Constant_str ⟨step_toks, by simp only [Rd]; exact ⟨_, rfl⟩⟩
theorem ev_bool {b : Bool} {k : Nat} {pos : Pos} : Ev P n sc ρ (.Constant (.bool b) k pos) (.bool b) := fun X env A s e r => wpAny_pure (M := model P.prog P.w) (a := Value.bool b) ⟨.refl, by simp only [Rd]⟩
theorem ev_none {k : Nat} {pos : Pos} : Ev P n sc ρ (.Constant .none k pos) .none := fun X env A s e r => wpAny_pure (M := model P.prog P.w) (a := Value.none) ⟨.refl, by simp only [Rd]⟩
theorem Ev.congr {e : Expr} {d d' : D} (h : Ev P n sc ρ e d) (q : d = d') : Ev P n sc ρ e d' := q ▸ h
theorem Tr.congr {e : Expr} {b b' : Bool} (h : Tr P n sc ρ e b) (q : b = b') : Tr P n sc ρ e b' := q ▸ h

/-- a binary operation on data -/
noncomputable def Op2 (P : Prm) (n : Nat) (op : Operator) (a b d : D) : Prop :=
  ∀ X A s u v, At P X s.heap → Room A n → Rd X s.heap a u → Rd X s.heap b v → wpAny (model P.prog P.w) A (binaryOp op u v) (fun w s' => Step P E0 s s' ∧ Rd X s'.heap d w) F0 s
noncomputable def Cmp2 (P : Prm) (n : Nat) (op : CmpOp) (a b : D) (r : Bool) : Prop :=
  ∀ X A s u v, At P X s.heap → Room A n → Rd X s.heap a u → Rd X s.heap b v → wpAny (model P.prog P.w) A (compareOp op u v) (fun w s' => Step P E0 s s' ∧ w = .bool r) F0 s
noncomputable def Un1 (P : Prm) (n : Nat) (op : UnaryOp) (a d : D) : Prop :=
  ∀ X A s u, At P X s.heap → Room A n → Rd X s.heap a u → wpAny (model P.prog P.w) A (unaryOp op u) (fun w s' => Step P E0 s s' ∧ Rd X s'.heap d w) F0 s
noncomputable def Truth (P : Prm) (n : Nat) (a : D) (b : Bool) : Prop :=
  ∀ X A s u, At P X s.heap → Room A n → Rd X s.heap a u → wpAny (model P.prog P.w) A (truthy u) (fun w s' => Step P E0 s s' ∧ w = b) F0 s
/-- a call on data -/
noncomputable def CallOK (P : Prm) (n : Nat) (f : Value) (ds : List D) (d : D) : Prop :=
  ∀ X A s vs, At P X s.heap → Room A n → RdL X s.heap ds vs → wpAny (model P.prog P.w) A (call f vs) (fun w s' => Step P E0 s s' ∧ Rd X s'.heap d w) F0 s

theorem Rd.step {d : D} {v : Value} (r : Rd X s.heap d v) (st : Step P E0 s s') : Rd X s'.heap d v := r.mono (st.heap.keep.weak fun _ y => y.elim) fun _ y => y
theorem RdL.step {ds : List D} {vs : List Value} (r : RdL X s.heap ds vs) (st : Step P E0 s s') : RdL X s'.heap ds vs := r.mono (st.heap.keep.weak fun _ y => y.elim) fun _ y => y

theorem ev_binop {l r : Expr} {op : Operator} {pos : Pos} {a b d : D} (h1 : Ev P n sc ρ l a) (h2 : Ev P n sc ρ r b) (h3 : Op2 P n op a b d) : Ev P n sc ρ (.BinOp l op r pos) d :=
  fun X env A s e rm => wpAny_BinOp (ev_of h1 e rm fun u s1 st1 e1 r1 => ev_of h2 e1 rm fun v s2 st2 e2 r2 =>
    wpAny_mono (h3 X A s2 u v e2.at' rm (r1.step st2) r2) (fun w s3 ⟨a, b⟩ => ⟨(st1.trans st2).trans a, b⟩) fun _ _ x => x)
theorem ev_unop {x : Expr} {op : UnaryOp} {pos : Pos} {a d : D} (h1 : Ev P n sc ρ x a) (h3 : Un1 P n op a d) : Ev P n sc ρ (.UnaryOp op x pos) d := fun X env A s e rm => by
  show wpAny _ A (do let v ← eval x env; standAt pos; holding [v] (unaryOp op v)) _ _ s
  exact wpAny_bind (ev_of h1 e rm fun u s1 st1 e1 r1 => wpAny_bind (wpAny_standAt (wpAny_holding (wpAny_mono (h3 X A s1 u e1.at' rm r1) (fun w s3 ⟨a, b⟩ => ⟨st1.trans a, b⟩) fun _ _ x => x))))
theorem ev_cmp {l r : Expr} {op : CmpOp} {pos : Pos} {a b : D} {c : Bool} (h1 : Ev P n sc ρ l a) (h2 : Ev P n sc ρ r b) (h3 : Cmp2 P n op a b c)
    (hm : behindInMarks op r = false := by with_unfolding_all rfl) : Ev P n sc ρ (.Compare l [op] [r] pos) (.bool c) :=
  fun X env A s e rm => wpAny_Compare1 (ev_of h1 e rm fun u s1 st1 e1 r1 => ev_of h2 e1 rm fun v s2 st2 e2 r2 =>
    wpAny_mono (h3 X A s2 u v e2.at' rm (r1.step st2) r2) (fun w s3 ⟨a, b⟩ => ⟨(st1.trans st2).trans a, by simp only [Rd]; exact b⟩) fun _ _ x => x) hm
theorem tr_cmp {l r : Expr} {op : CmpOp} {pos : Pos} {a b : D} {c : Bool} (h1 : Ev P n sc ρ l a) (h2 : Ev P n sc ρ r b) (h3 : Cmp2 P n op a b c)
    (hm : behindInMarks op r = false := by with_unfolding_all rfl) : Tr P n sc ρ (.Compare l [op] [r] pos) c :=
  fun X env A s e rm => wpAny_isTrue_Compare1 (ev_of h1 e rm fun u s1 st1 e1 r1 => ev_of h2 e1 rm fun v s2 st2 e2 r2 =>
    wpAny_mono (h3 X A s2 u v e2.at' rm (r1.step st2) r2) (fun w s3 ⟨a, b⟩ => b ▸ wpAny_truthy_bool ⟨(st1.trans st2).trans a, rfl⟩) fun _ _ x => x) hm
theorem tr_not {x : Expr} {pos : Pos} {b : Bool} (h : Tr P n sc ρ x b) : Tr P n sc ρ (.UnaryOp .Not x pos) (!b) := fun X env A s e rm => by
  show wpAny _ A (do return !(← isTrue x env (eval x env))) _ _ s
  exact wpAny_bind (tr_of h e rm fun s1 st1 e1 => wpAny_pure ⟨st1, rfl⟩)
/-- expressions whose truth is their value's -/
noncomputable def plainTest : Expr → Bool
  | .UnaryOp .Not .. => false
  | .BoolOp .. => false
  | .IfExp .. => false
  | .Compare .. => false
  | _ => true
theorem tr_val {x : Expr} {d : D} {b : Bool} (h : Ev P n sc ρ x d) (t : Truth P n d b) (hp : plainTest x = true := by rfl) : Tr P n sc ρ x b := fun X env A s e rm => by
  have q : isTrue x env (eval x env) = (do let v ← eval x env; standAt x.pos; holding [v] (truthy v)) := by
    cases x <;> first | rfl | (exact absurd hp Bool.false_ne_true) | (rename_i op _ _; cases op <;> first | rfl | exact absurd hp Bool.false_ne_true)
  rw [q]
  exact wpAny_bind (ev_of h e rm fun u s1 st1 e1 r1 => wpAny_bind (wpAny_standAt (wpAny_holding (wpAny_mono (t X A s1 u e1.at' rm r1) (fun w s3 ⟨a, b⟩ => ⟨st1.trans a, b⟩) fun _ _ x => x))))

/-- a list of tests, left to right -/
noncomputable def TrL (P : Prm) (n : Nat) (sc : Scope) (ρ : Rho) : BoolOp → List Expr → Bool → Prop
  | op, [], b => b = (op == .And)
  | .And, x :: r, b => ∃ c, Tr P n sc ρ x c ∧ (if c then TrL P n sc ρ .And r b else b = false)
  | .Or, x :: r, b => ∃ c, Tr P n sc ρ x c ∧ (if c then b = true else TrL P n sc ρ .Or r b)
theorem trl_sound {op : BoolOp} : ∀ {xs : List Expr} {b : Bool} {s : Shared}, TrL P n sc ρ op xs b → EnvAt P X env sc ρ s → Room A n → wpAny (model P.prog P.w) A (allTrue op xs env) (fun b' s' => Step P E0 s s' ∧ b' = b) F0 s
  | [], b, s, h, e, rm => by
    have h' : b = (op == .And) := by cases op <;> exact h
    show wpAny _ A (pure (op == .And)) _ _ s
    exact wpAny_pure ⟨.refl, h'.symm⟩
  | x :: r, b, s, h, e, rm => by
    show wpAny _ A (isTrue x env (eval x env) >>= fun c => match op, c with | .And, false => pure false | .Or, true => pure true | _, _ => allTrue op r env) _ _ s
    cases op with
    | And =>
      obtain ⟨c, hc, hr⟩ := h
      refine wpAny_bind (tr_of hc e rm fun s1 st1 e1 => ?_)
      cases c with
      | true => exact wpAny_mono (trl_sound (op := .And) hr e1 rm) (fun _ _ ⟨a, b⟩ => ⟨st1.trans a, b⟩) fun _ _ x => x
      | false => exact wpAny_pure ⟨st1, Eq.symm hr⟩
    | Or =>
      obtain ⟨c, hc, hr⟩ := h
      refine wpAny_bind (tr_of hc e rm fun s1 st1 e1 => ?_)
      cases c with
      | false => exact wpAny_mono (trl_sound (op := .Or) hr e1 rm) (fun _ _ ⟨a, b⟩ => ⟨st1.trans a, b⟩) fun _ _ x => x
      | true => exact wpAny_pure ⟨st1, Eq.symm hr⟩
theorem tr_bool {op : BoolOp} {xs : List Expr} {pos : Pos} {b : Bool} (h : TrL P n sc ρ op xs b) : Tr P n sc ρ (.BoolOp op xs pos) b := fun X env A s e rm => trl_sound h e rm

theorem ev_ifexp {t b o : Expr} {pos : Pos} {c : Bool} {d : D} (h : Tr P n sc ρ t c) (h1 : c = true → Ev P n sc ρ b d) (h2 : c = false → Ev P n sc ρ o d) : Ev P n sc ρ (.IfExp t b o pos) d := fun X env A s e rm => by
  show wpAny _ A (do if ← isTrue t env (eval t env) then eval b env else eval o env) _ _ s
  refine wpAny_bind (tr_of h e rm fun s1 st1 e1 => ?_)
  cases c with
  | true => exact ev_of (h1 rfl) e1 rm fun v s2 st2 e2 r2 => ⟨st1.trans st2, r2⟩
  | false => exact ev_of (h2 rfl) e1 rm fun v s2 st2 e2 r2 => ⟨st1.trans st2, r2⟩
end

end Mine
end
section
open PySem PySem.W PySem.Calls PyProof.Rows
set_option Elab.async false
set_option maxRecDepth 100000
set_option linter.unusedVariables false
namespace Mine

noncomputable def EvL (P : Prm) (n : Nat) (sc : Scope) (ρ : Rho) : List Expr → List D → Prop
  | [], ds => ds = []
  | e :: es, ds => ∃ d r, ds = d :: r ∧ isStarred e = false ∧ Ev P n sc ρ e d ∧ EvL P n sc ρ es r

section
variable {P : Prm} {X X' Y : ASet} {env : Env} {sc : Scope} {ρ ρ' : Rho} {s s' : Shared} {A : Around} {n : Nat}

theorem evl_nil : EvL P n sc ρ [] [] := rfl
theorem evl_cons {e : Expr} {es : List Expr} {d : D} {ds : List D} (h : Ev P n sc ρ e d) (r : EvL P n sc ρ es ds) (hs : isStarred e = false := by rfl) : EvL P n sc ρ (e :: es) (d :: ds) := ⟨d, ds, rfl, hs, h, r⟩

theorem starEach_plain {e : Expr} {es : List Expr} (h : isStarred e = false) : starEach (e :: es) env = (false, eval e env) :: starEach es env := by
  cases e <;> first | rfl | exact absurd h.symm Bool.false_ne_true

theorem evl_sound {pos : Pos} {E : Value → Shared → Prop} : ∀ {es : List Expr} {ds : List D} {s : Shared} {Q : List Value → Shared → Prop}, EvL P n sc ρ es ds → EnvAt P X env sc ρ s → Room A n →
    (∀ vs s', Step P E0 s s' → EnvAt P X env sc ρ s' → RdL X s'.heap ds vs → Q vs s') → wpAny (model P.prog P.w) A (spliced (backTo pos (starEach es env))) Q E s
  | [], ds, s, Q, h, e, rm, k => by
    cases h
    exact spliced_nil (k [] s .refl e (by simp only [RdL]))
  | x :: es, ds, s, Q, h, e, rm, k => by
    obtain ⟨d, r, rfl, hs, hx, hr⟩ := h
    rw [starEach_plain hs]
    show wpAny _ A (spliced ((false, eval x env) :: backTo pos (starEach es env))) Q E s
    refine spliced_cons (ev_of hx e rm fun v s1 st1 e1 r1 => ?_)
    refine evl_sound hr e1 rm fun vs s2 st2 e2 r2 => k (v :: vs) s2 (st1.trans st2) e2 ?_
    simp only [RdL]
    exact ⟨v, vs, rfl, r1.step st2, r2⟩

theorem evl_plain : ∀ {es : List Expr} {ds : List D}, EvL P n sc ρ es ds → ∀ pos, (backTo pos (starEach es env)).any (·.1) = false
  | [], _, _, _ => rfl
  | x :: es, ds, h, pos => by
    obtain ⟨d, r, rfl, hs, hx, hr⟩ := h
    rw [starEach_plain hs]
    show (false || (backTo pos (starEach es env)).any (·.1)) = false
    rw [evl_plain hr pos]; rfl

theorem rdL_length : ∀ {ds : List D} {vs : List Value} {h : Heap}, RdL X h ds vs → ds.length = vs.length
  | [], vs, h, r => by simp only [RdL] at r; subst r; rfl
  | d :: ds, vs, h, r => by simp only [RdL] at r; obtain ⟨v, vr, rfl, _, r⟩ := r; simp [rdL_length r]

/-- a fresh object -/
theorem new_agree {h : Heap} {o : Obj} : Agree Y h (h.push o) := fun _ _ _ _ e => Heap.get?_push_of_some _ e
theorem fresh_not (a : At P X s.heap) : ¬ X s.heap.objs.size := fun x => Nat.lt_irrefl _ (a.below _ x)

theorem rd_newList {ds : List D} {vs : List Value} (a : At P X s.heap) (r : RdL X s.heap ds vs) : Rd X (s.heap.push { cls := .type "list", data := .seq vs.toArray }) (.list ds) (.ref s.heap.objs.size) := by
  simp only [Rd]
  exact ⟨_, vs.toArray, rfl, fresh_not a, ⟨_, Heap.get?_push_size _ rfl, rfl, _, rfl⟩, by simpa using r.mono new_agree fun _ y => y⟩
theorem rd_newTuple {ds : List D} {vs : List Value} (a : At P X s.heap) (r : RdL X s.heap ds vs) : Rd X (s.heap.push { cls := .type "tuple", data := .seq vs.toArray }) (.tup ds) (.ref s.heap.objs.size) := by
  simp only [Rd]
  exact ⟨_, vs.toArray, rfl, fresh_not a, ⟨_, Heap.get?_push_size _ rfl, rfl, _, rfl⟩, by simpa using r.mono new_agree fun _ y => y⟩
theorem step_push {o : Obj} {tk : Nat} : Step P Y s { s with heap := s.heap.push o, toks := tk } := step_heap (HStep.push o)

theorem ev_list {es : List Expr} {pos : Pos} {ds : List D} (h : EvL P n sc ρ es ds) (hl : ds.length ≤ 1000 := by simp) : Ev P n sc ρ (.List es pos) (.list ds) := fun X env A s e rm => by
  refine wpAny_List_spliced (evl_sound h e rm fun vs s1 st1 e1 r1 => ?_)
  refine ⟨?_, st1.trans step_push, rd_newList e1.at' r1⟩
  have := rdL_length r1
  rw [sizeLine_eq]; omega
theorem ev_tup {es : List Expr} {k : Nat} {pos : Pos} {ds : List D} (h : EvL P n sc ρ es ds) (hl : ds.length ≤ 1000 := by simp) : Ev P n sc ρ (.Tuple es k pos) (.tup ds) := fun X env A s e rm => by
  refine wpAny_Tuple_spliced (evl_sound h e rm fun vs s1 st1 e1 r1 => ?_)
  refine ⟨?_, st1.trans step_push, rd_newTuple e1.at' r1⟩
  have := rdL_length r1
  rw [sizeLine_eq]; omega

/-- a global name -/
noncomputable def Glo (P : Prm) (x : Str) (v : Value) : Prop := (P.mg x = some v) ∨ (P.mg x = none ∧ x ≠ "__name__" ∧ bootBuiltins x = some v)
theorem eval_glo {x : Str} {pos : Pos} {v : Value} {E : Value → Shared → Prop} {Q : Value → Shared → Prop} (p : PrmOK P) (e : EnvAt P X env sc ρ s) (g : Glo P x v) (hx : sc.names.lookup x = some .globalImplicit) (k : Q v s)
    (hd : (x == ("__debug__" : Str)) = false := by decide) : wpAny (model P.prog P.w) A (eval (.Name x pos) env) Q E s := by
  have hg : s.heap.Ns env.globals P.mg := by rw [e.hg]; exact e.at'.g p
  have hb : s.heap.Ns env.builtins P.mb := by rw [e.hb]; exact e.at'.b p
  refine Name_function_global (kind_eq e) ((kindOf_eq e x).trans hx) ?_ hd
  rcases g with g | ⟨g1, g2, g3⟩
  · exact loadGlobal_global hg g k
  · exact loadGlobal_builtin hg g1 hb ((p.builtins x g2).trans g3) k

/-- a value that a call may keep without more -/
noncomputable def Callee (P : Prm) : Value → Prop
  | .ref a => keepIn P.K (.ref a) = true
  | .builtin _ => True
  | .type _ => True
  | _ => False
theorem callee_looks {f : Value} (p : PrmOK P) (c : Callee P f) (h : Heap) (a : ∃ X, At P X h) : ∃ k, (k = Keeper.frame ∨ k = Keeper.machine ∨ k = Keeper.boundFrame) ∧ Looks (model P.prog P.w) h (keeperOf f) k := by
  obtain ⟨X, a⟩ := a
  cases f with
  | ref q => exact keeps_K c h (a.kin p)
  | builtin _ => exact ⟨.machine, .inr (.inl rfl), Looks.of_pure rfl⟩
  | type _ => exact ⟨.machine, .inr (.inl rfl), Looks.of_pure rfl⟩
  | _ => exact c.elim

theorem evalArgs_evl {f : Value} {pos : Pos} {E : Value → Shared → Prop} {es : List Expr} {ds : List D} {Q : Args → Shared → Prop} (h : EvL P n sc ρ es ds) (e : EnvAt P X env sc ρ s) (rm : Room A n)
    (k : ∀ vs s', Step P E0 s s' → EnvAt P X env sc ρ s' → RdL X s'.heap ds vs → Q ⟨vs, []⟩ s') : wpAny (model P.prog P.w) A (evalArgs f true (backTo pos (starEach es env)) []) Q E s := by
  cases es with
  | nil => cases h; exact evalArgs_nil3 (k [] s .refl e (by simp only [RdL]))
  | cons x r =>
    obtain ⟨d, r', rfl, hs, hx, hr⟩ := id h
    have h2 := evl_sound (A := A) (pos := pos) (E := E) (Q := fun vs s' => Q ⟨vs, []⟩ s') h e rm k
    rw [starEach_plain hs] at h2 ⊢
    exact evalArgs_plain h2

theorem ev_callWith {f : Value} {pos : Pos} {es : List Expr} {ds : List D} {first : List Value} {fd : List D} {d : D} {E : Value → Shared → Prop} {Q : Value → Shared → Prop} (p : PrmOK P) (c : Callee P f) (h : EvL P n sc ρ es ds) (e : EnvAt P X env sc ρ s) (rm : Room A n)
    (hf : RdL X s.heap fd first) (hc : CallOK P n f (fd ++ ds) d)
    (k : ∀ w s', Step P E0 s s' → Rd X s'.heap d w → Q w s') : wpAny (model P.prog P.w) A (callWith pos f first (backTo pos (starEach es env)) []) Q E s := by
  refine callWith_of (P := fun h => ∃ X, At P X h) (by rw [evl_plain h pos]; rfl) (fun h a => callee_looks p c h a) (evalArgs_evl h e rm fun vs s1 st1 e1 r1 => ⟨⟨X, e1.at'⟩, ?_⟩)
  refine wpAny_mono (hc X A s1 (first ++ vs) e1.at' rm ?_) (fun w s2 ⟨a, b⟩ => k w s2 (st1.trans a) b) fun _ _ x => x.elim
  have hf' := hf.step st1
  clear hc hf h k e
  induction fd generalizing first with
  | nil => simp only [RdL] at hf'; subst hf'; exact r1
  | cons d fd ih =>
    simp only [RdL] at hf'
    obtain ⟨v, vr, rfl, h1, h2⟩ := hf'
    simp only [RdL, List.cons_append]
    exact ⟨v, vr ++ vs, rfl, h1, ih h2⟩

theorem ev_call {x : Str} {xp pos : Pos} {es : List Expr} {ds : List D} {f : Value} {d : D} (p : PrmOK P) (g : Glo P x f) (c : Callee P f) (h : EvL P n sc ρ es ds) (hc : CallOK P n f ds d)
    (hx : sc.names.lookup x = some .globalImplicit := by rfl) (hd : (x == ("__debug__" : Str)) = false := by decide) : Ev P n sc ρ (.Call (.Name x xp) es [] pos) d := fun X env A s e rm => by
  show wpAny _ A (do callWith pos (← eval (.Name x xp) env) [] (backTo pos (starEach es env)) []) _ _ s
  exact wpAny_bind (eval_glo p e g hx (ev_callWith (fd := []) p c h e rm (by simp only [RdL]) hc fun w s' st r => ⟨st, r⟩) hd)

end
end Mine
end
section
open PySem PySem.W PySem.Calls PyProof.Rows
set_option Elab.async false
set_option maxRecDepth 100000
set_option linter.unusedVariables false
namespace Mine

noncomputable abbrev Zs (ns : List Int) : D := .list (ns.map .int)
noncomputable abbrev Ss (ns : List Str) : D := .list (ns.map .str)

section
variable {P : Prm} {X X' Y : ASet} {env : Env} {sc : Scope} {ρ ρ' : Rho} {s s' : Shared} {A : Around} {n : Nat} {h : Heap}

theorem room_units (rm : Room A n) : A.units < cLine := by have := rm.2.2; show _ < 9900; omega
theorem room_units64 (rm : Room A n) : A.units + 64 < cLine := by have := rm.2.2; show _ < 9900; omega
theorem room_in1 (rm : Room A n) : A.in1.handled = none := rm.1

theorem intsAre_of : ∀ {ns : List Int} {vs : List Value}, RdL X h (ns.map .int) vs → IntsAre vs ns
  | [], vs, r => by simp only [List.map_nil, RdL] at r; subst r; exact .nil
  | n :: ns, vs, r => by
    simp only [List.map_cons, RdL, Rd] at r
    obtain ⟨v, vr, rfl, ⟨t, rfl⟩, r⟩ := r
    exact .cons n t (intsAre_of r)
theorem of_intsAre {vs : List Value} {ns : List Int} (r : IntsAre vs ns) : RdL X h (ns.map .int) vs := by
  induction r with
  | nil => simp only [List.map_nil, RdL]
  | cons n t _ ih => simp only [List.map_cons, RdL, Rd]; exact ⟨_, _, rfl, ⟨t, rfl⟩, ih⟩
theorem strsAre_of : ∀ {ns : List Str} {vs : List Value}, RdL X h (ns.map .str) vs → StrsAre vs ns
  | [], vs, r => by simp only [List.map_nil, RdL] at r; subst r; exact .nil
  | n :: ns, vs, r => by
    simp only [List.map_cons, RdL, Rd] at r
    obtain ⟨v, vr, rfl, ⟨t, rfl⟩, r⟩ := r
    exact .cons n t (strsAre_of r)

theorem rd_int {i : Int} {t : Tok} : Rd X h (.int i) (.int i t) := by simp only [Rd]; exact ⟨t, rfl⟩
theorem rd_str {i : Str} {t : Tok} : Rd X h (.str i) (.str i t) := by simp only [Rd]; exact ⟨t, rfl⟩
theorem rd_bool {b : Bool} : Rd X h (.bool b) (.bool b) := by simp only [Rd]
theorem int_rd {i : Int} {v : Value} (r : Rd X h (.int i) v) : ∃ t, v = .int i t := by simpa only [Rd] using r
theorem str_rd {i : Str} {v : Value} (r : Rd X h (.str i) v) : ∃ t, v = .str i t := by simpa only [Rd] using r
theorem bool_rd {b : Bool} {v : Value} (r : Rd X h (.bool b) v) : v = .bool b := by simpa only [Rd] using r
theorem list_rd {l : List D} {v : Value} (r : Rd X h (.list l) v) : ∃ a vs, v = .ref a ∧ ¬ X a ∧ h.IsList a vs ∧ RdL X h l vs.toList := by simpa only [Rd] using r
theorem tup_rd {l : List D} {v : Value} (r : Rd X h (.tup l) v) : ∃ a vs, v = .ref a ∧ ¬ X a ∧ h.IsTuple a vs ∧ RdL X h l vs.toList := by simpa only [Rd] using r

-- Zs
theorem op_add {a b : Int} : Op2 P n .Add (.int a) (.int b) (.int (a + b)) := fun X A s u v at' rm ra rb => by
  obtain ⟨t, rfl⟩ := int_rd ra; obtain ⟨t', rfl⟩ := int_rd rb
  exact PyProof.Rows.add_int ⟨step_toks, rd_int⟩
theorem op_sub {a b : Int} : Op2 P n .Sub (.int a) (.int b) (.int (a - b)) := fun X A s u v at' rm ra rb => by
  obtain ⟨t, rfl⟩ := int_rd ra; obtain ⟨t', rfl⟩ := int_rd rb
  exact PyProof.Rows.sub_int ⟨step_toks, rd_int⟩
theorem op_mul {a b : Int} (hm : IntMulOk a b) : Op2 P n .Mult (.int a) (.int b) (.int (a * b)) := fun X A s u v at' rm ra rb => by
  obtain ⟨t, rfl⟩ := int_rd ra; obtain ⟨t', rfl⟩ := int_rd rb
  exact PyProof.Rows.mul_int (hm := hm) ⟨step_toks, rd_int⟩
theorem op_mod {a b : Int} (hb : b ≠ 0) : Op2 P n .Mod (.int a) (.int b) (.int (a.fmod b)) := fun X A s u v at' rm ra rb => by
  obtain ⟨t, rfl⟩ := int_rd ra; obtain ⟨t', rfl⟩ := int_rd rb
  exact PyProof.Rows.mod_int hb ⟨step_toks, rd_int⟩
theorem op_div {a b : Int} (hb : b ≠ 0) (hp : Builtin.divisionGoesByPylong a b = false) : Op2 P n .FloorDiv (.int a) (.int b) (.int (a.fdiv b)) := fun X A s u v at' rm ra rb => by
  obtain ⟨t, rfl⟩ := int_rd ra; obtain ⟨t', rfl⟩ := int_rd rb
  exact PyProof.Rows.floordiv_int hb ⟨step_toks, rd_int⟩ (.inl hp)
theorem op_pow {a b : Int} (hn : 0 ≤ b) (hn2 : b ≤ 1000000) (ha : a.natAbs < 2 ^ 64) : Op2 P n .Pow (.int a) (.int b) (.int (a ^ b.toNat)) := fun X A s u v at' rm ra rb => by
  obtain ⟨t, rfl⟩ := int_rd ra; obtain ⟨t', rfl⟩ := int_rd rb
  exact pow_int_small hn hn2 ha ⟨step_toks, rd_int⟩
theorem op_shr {a b : Int} (hn : 0 ≤ b) : Op2 P n .RShift (.int a) (.int b) (.int (a.fdiv (2 ^ b.toNat))) := fun X A s u v at' rm ra rb => by
  obtain ⟨t, rfl⟩ := int_rd ra; obtain ⟨t', rfl⟩ := int_rd rb
  exact rshift_int hn ⟨step_toks, rd_int⟩
theorem op_shl {a b : Int} (hn : 0 ≤ b) (hn2 : b ≤ 1000000) (ha : a.natAbs < 2 ^ 64) : Op2 P n .LShift (.int a) (.int b) (.int (a * 2 ^ b.toNat)) := fun X A s u v at' rm ra rb => by
  obtain ⟨t, rfl⟩ := int_rd ra; obtain ⟨t', rfl⟩ := int_rd rb
  exact lshift_int_small hn hn2 ha ⟨step_toks, rd_int⟩
theorem op_xor {a b : Int} : Op2 P n .BitXor (.int a) (.int b) (.int (Builtin.bitXor a b)) := fun X A s u v at' rm ra rb => by
  obtain ⟨t, rfl⟩ := int_rd ra; obtain ⟨t', rfl⟩ := int_rd rb
  exact xor_int ⟨step_toks, rd_int⟩
theorem op_sub_bool {a b : Bool} : Op2 P n .Sub (.bool a) (.bool b) (.int ((if a then 1 else 0) - (if b then 1 else 0))) := fun X A s u v at' rm ra rb => by
  have e1 := bool_rd ra; have e2 := bool_rd rb; subst e1; subst e2
  refine sub_bool ⟨step_toks, ?_⟩
  cases a <;> cases b <;> exact rd_int
theorem un_neg {a : Int} : Un1 P n .USub (.int a) (.int (-a)) := fun X A s u at' rm ra => by
  obtain ⟨t, rfl⟩ := int_rd ra
  exact PyProof.Rows.neg_int ⟨step_toks, rd_int⟩
theorem un_invert {a : Int} : Un1 P n .Invert (.int a) (.int (Builtin.bitNot a)) := fun X A s u at' rm ra => by
  obtain ⟨t, rfl⟩ := int_rd ra
  exact PyProof.Rows.invert_int ⟨step_toks, rd_int⟩
theorem cmp_lt {a b : Int} : Cmp2 P n .Lt (.int a) (.int b) (decide (a < b)) := fun X A s u v at' rm ra rb => by
  obtain ⟨t, rfl⟩ := int_rd ra; obtain ⟨t', rfl⟩ := int_rd rb
  exact PyProof.Rows.lt_int ⟨.refl, rfl⟩
theorem cmp_gt {a b : Int} : Cmp2 P n .Gt (.int a) (.int b) (decide (b < a)) := fun X A s u v at' rm ra rb => by
  obtain ⟨t, rfl⟩ := int_rd ra; obtain ⟨t', rfl⟩ := int_rd rb
  exact PyProof.Rows.gt_int ⟨.refl, rfl⟩
theorem cmp_le {a b : Int} : Cmp2 P n .LtE (.int a) (.int b) (decide (a ≤ b)) := fun X A s u v at' rm ra rb => by
  obtain ⟨t, rfl⟩ := int_rd ra; obtain ⟨t', rfl⟩ := int_rd rb
  exact PyProof.Rows.le_int ⟨.refl, rfl⟩
theorem cmp_ge {a b : Int} : Cmp2 P n .GtE (.int a) (.int b) (decide (b ≤ a)) := fun X A s u v at' rm ra rb => by
  obtain ⟨t, rfl⟩ := int_rd ra; obtain ⟨t', rfl⟩ := int_rd rb
  exact PyProof.Rows.ge_int ⟨.refl, rfl⟩
theorem cmp_eq {a b : Int} : Cmp2 P n .Eq (.int a) (.int b) (a == b) := fun X A s u v at' rm ra rb => by
  obtain ⟨t, rfl⟩ := int_rd ra; obtain ⟨t', rfl⟩ := int_rd rb
  exact PyProof.Rows.eq_int ⟨.refl, rfl⟩
theorem cmp_ne {a b : Int} : Cmp2 P n .NotEq (.int a) (.int b) (a != b) := fun X A s u v at' rm ra rb => by
  obtain ⟨t, rfl⟩ := int_rd ra; obtain ⟨t', rfl⟩ := int_rd rb
  exact PyProof.Rows.ne_int ⟨.refl, rfl⟩
theorem cmp_eqb {a b : Bool} : Cmp2 P n .Eq (.bool a) (.bool b) (a == b) := fun X A s u v at' rm ra rb => by
  have e1 := bool_rd ra; have e2 := bool_rd rb; subst e1; subst e2
  exact PyProof.Rows.eq_bool ⟨.refl, rfl⟩
theorem truth_bool {a : Bool} : Truth P n (.bool a) a := fun X A s u at' rm ra => by
  have e1 := bool_rd ra; subst e1
  exact wpAny_truthy_bool ⟨.refl, rfl⟩
-- texts
theorem cmp_gts {a b : Str} : Cmp2 P n .Gt (.str a) (.str b) (decide (b.cps.toList < a.cps.toList)) := fun X A s u v at' rm ra rb => by
  obtain ⟨t, rfl⟩ := str_rd ra; obtain ⟨t', rfl⟩ := str_rd rb
  exact PySem.P.gt_str ⟨.refl, rfl⟩
theorem cmp_lts {a b : Str} : Cmp2 P n .Lt (.str a) (.str b) (decide (a.cps.toList < b.cps.toList)) := fun X A s u v at' rm ra rb => by
  obtain ⟨t, rfl⟩ := str_rd ra; obtain ⟨t', rfl⟩ := str_rd rb
  exact PyProof.Rows.lt_str ⟨.refl, rfl⟩
theorem op_adds {a b : Str} (hs : a.length + b.length ≤ 1000000) : Op2 P n .Add (.str a) (.str b) (.str (a ++ b)) := fun X A s u v at' rm ra rb => by
  obtain ⟨t, rfl⟩ := str_rd ra; obtain ⟨t', rfl⟩ := str_rd rb
  exact PyProof.Rows.add_str (hsz := by rw [sizeLine_eq]; omega) fun t' tk => ⟨step_toks, rd_str⟩
-- lists
theorem cmp_eql {a b : List Int} : Cmp2 P n .Eq (Zs a) (Zs b) (decide (a = b)) := fun X A s u v at' rm ra rb => by
  obtain ⟨x, vs, rfl, _, hl, hi⟩ := list_rd ra; obtain ⟨y, us, rfl, _, hl', hi'⟩ := list_rd rb
  exact eq_intsK (vs := vs.toList) (us := us.toList) (by simpa using hl) (intsAre_of hi) (by simpa using hl') (intsAre_of hi') (room_units64 rm) ⟨.refl, rfl⟩
theorem cmp_nel {a b : List Int} : Cmp2 P n .NotEq (Zs a) (Zs b) (!decide (a = b)) := fun X A s u v at' rm ra rb => by
  obtain ⟨x, vs, rfl, _, hl, hi⟩ := list_rd ra; obtain ⟨y, us, rfl, _, hl', hi'⟩ := list_rd rb
  exact ne_intsK (vs := vs.toList) (us := us.toList) (by simpa using hl) (intsAre_of hi) (by simpa using hl') (intsAre_of hi') (room_units64 rm) ⟨.refl, rfl⟩
theorem cmp_in {a : Int} {b : List Int} : Cmp2 P n .In (.int a) (Zs b) (b.any (· == a)) := fun X A s u v at' rm ra rb => by
  obtain ⟨t, rfl⟩ := int_rd ra; obtain ⟨y, us, rfl, _, hl', hi'⟩ := list_rd rb
  exact in_list_ints (vs := us.toList) (by simpa using hl') (intsAre_of hi') ⟨.refl, rfl⟩

theorem rdL_append : ∀ {ds ds' : List D} {vs vs' : List Value}, RdL X h ds vs → RdL X h ds' vs' → RdL X h (ds ++ ds') (vs ++ vs')
  | [], ds', vs, vs', r, r' => by simp only [RdL] at r; subst r; exact r'
  | d :: ds, ds', vs, vs', r, r' => by
    simp only [RdL, List.cons_append] at r ⊢
    obtain ⟨v, vr, rfl, a, b⟩ := r
    exact ⟨v, vr ++ vs', rfl, a, rdL_append b r'⟩
theorem rdL_get : ∀ {ds : List D} {vs : List Value} {i : Nat} {d : D}, RdL X h ds vs → ds[i]? = some d → ∃ v, vs[i]? = some v ∧ Rd X h d v
  | [], vs, i, d, r, e => by simp at e
  | d :: ds, vs, 0, d', r, e => by
    simp only [RdL] at r; obtain ⟨v, vr, rfl, a, b⟩ := r
    simp at e; subst e; exact ⟨v, rfl, a⟩
  | d :: ds, vs, i + 1, d', r, e => by
    simp only [RdL] at r; obtain ⟨v, vr, rfl, a, b⟩ := r
    simp at e; exact rdL_get (i := i) b e
theorem rdL_take : ∀ {ds : List D} {vs : List Value} (i : Nat), RdL X h ds vs → RdL X h (ds.take i) (vs.take i)
  | [], vs, i, r => by simp only [RdL] at r; subst r; simp [RdL]
  | d :: ds, vs, 0, r => by simp [RdL]
  | d :: ds, vs, i + 1, r => by
    simp only [RdL] at r; obtain ⟨v, vr, rfl, a, b⟩ := r
    simp only [List.take_succ_cons, RdL]; exact ⟨_, _, rfl, a, rdL_take i b⟩
theorem rdL_drop : ∀ {ds : List D} {vs : List Value} (i : Nat), RdL X h ds vs → RdL X h (ds.drop i) (vs.drop i)
  | [], vs, i, r => by simp only [RdL] at r; subst r; simp [RdL]
  | d :: ds, vs, 0, r => by simpa using r
  | d :: ds, vs, i + 1, r => by
    simp only [RdL] at r; obtain ⟨v, vr, rfl, a, b⟩ := r
    simpa using rdL_drop i b
theorem rdL_reverse : ∀ {ds : List D} {vs : List Value}, RdL X h ds vs → RdL X h ds.reverse vs.reverse
  | [], vs, r => by simp only [RdL] at r; subst r; simp [RdL]
  | d :: ds, vs, r => by
    simp only [RdL] at r; obtain ⟨v, vr, rfl, a, b⟩ := r
    simp only [List.reverse_cons]
    exact rdL_append (rdL_reverse b) (by simp only [RdL]; exact ⟨v, [], rfl, a, rfl⟩)
end
end Mine
end
section
open PySem PySem.W PySem.Calls PyProof.Rows
set_option Elab.async false
set_option maxRecDepth 100000
set_option linter.unusedVariables false
namespace Mine

/-- a list's slice, as the model reckons it -/
noncomputable def pick {α : Type} (l : List α) (lo hi st : Option Int) : List α :=
  (sliceRange (sliceBounds lo hi st l.length).1 (sliceBounds lo hi st l.length).2.1 (sliceBounds lo hi st l.length).2.2).filterMap (l[·]?)

section
variable {P : Prm} {X X' Y : ASet} {env : Env} {sc : Scope} {ρ ρ' : Rho} {s s' : Shared} {A : Around} {n : Nat} {h : Heap}

theorem rdL_idx {ds : List D} {vs : List Value} (r : RdL X h ds vs) : ∀ is : List Nat, RdL X h (is.filterMap (ds[·]?)) (is.filterMap (vs[·]?))
  | [] => by simp [RdL]
  | i :: is => by
    have ih := rdL_idx r is
    have hl := rdL_length r
    cases e : ds[i]? with
    | none =>
      have : vs[i]? = none := by simp at e ⊢; omega
      simpa [List.filterMap_cons, e, this] using ih
    | some d =>
      obtain ⟨v, hv, hr⟩ := rdL_get r e
      simp only [List.filterMap_cons, e, hv, RdL]
      exact ⟨_, _, rfl, hr, ih⟩
theorem rdL_pick {ds : List D} {vs : Array Value} {lo hi st : Option Int} (r : RdL X h ds vs.toList) : RdL X h (pick ds lo hi st) (slicePick vs lo hi st).toList := by
  have hl := rdL_length r
  have hl' : ds.length = vs.size := by simpa using hl
  have := rdL_idx r (sliceRange (sliceBounds lo hi st ds.length).1 (sliceBounds lo hi st ds.length).2.1 (sliceBounds lo hi st ds.length).2.2)
  unfold pick slicePick
  rw [hl'] at this ⊢
  simpa using this

/-- the Python index -/
noncomputable def pidx (k : Int) (len : Nat) : Nat := if k < 0 then (k + len).toNat else k.toNat

theorem getItem_list_D {ds : List D} {v : Value} {k : Int} {t : Tok} {d : D} {Q : Value → Shared → Prop} {E : Value → Shared → Prop} (r : Rd X s.heap (.list ds) v) (h1 : -(ds.length : Int) ≤ k) (hf : ds.length < 2 ^ 62) (hd : ds[pidx k ds.length]? = some d)
    (q : ∀ w, Rd X s.heap d w → Q w s) : wpAny (model P.prog P.w) A (getItem v (.int k t)) Q E s := by
  obtain ⟨a, vs, rfl, hx, hl, hr⟩ := list_rd r
  have hlen : ds.length = vs.size := by simpa using rdL_length hr
  obtain ⟨w, hw, hrw⟩ := rdL_get hr hd
  have hw' : vs[pidx k ds.length]? = some w := by simpa using hw
  have hlt : pidx k ds.length < ds.length := (List.getElem?_eq_some_iff.mp hd).1
  unfold pidx at hw' hlt
  split at hw'
  · rename_i hk
    exact wpAny_getItem_list_neg hl hk (by (clear hf hx hlt hk; omega)) (by (clear hx hlt hk; omega)) (by rw [← hlen]; exact hw') (q w hrw)
  · rename_i hk
    rw [if_neg hk] at hlt
    exact wpAny_getItem_list hl (by (clear h1 hf hx hlen hlt; omega)) (by (clear h1 hx hk; omega)) hw' (q w hrw)

theorem typeIs_list {ds : List D} {v : Value} (r : Rd X s.heap (.list ds) v) : s.TypeIs v "list" := by obtain ⟨a, vs, rfl, hx, hl, hr⟩ := list_rd r; exact hl.typeIs
theorem typeIs_tup {ds : List D} {v : Value} (r : Rd X s.heap (.tup ds) v) : s.TypeIs v "tuple" := by obtain ⟨a, vs, rfl, hx, ⟨o, ho, hc, _⟩, hr⟩ := tup_rd r; exact ⟨o, ho, hc⟩

theorem ev_item {value slice : Expr} {pos : Pos} {ds : List D} {k : Int} {d : D} (hv : Ev P n sc ρ value (.list ds)) (hs : Ev P n sc ρ slice (.int k)) (h1 : -(ds.length : Int) ≤ k) (hf : ds.length < 2 ^ 62) (hd : ds[pidx k ds.length]? = some d)
    (hsub : ∀ o i, subscripted slice false o i = operate [o, i] (getItem o i) := by intro _ _; rfl) : Ev P n sc ρ (.Subscript value slice pos) d := fun X env A s e rm => by
  refine Subscript_ (ev_of hv e rm fun o s1 st1 e1 r1 => ev_of hs e1 rm fun i s2 st2 e2 r2 => ?_)
  obtain ⟨t, rfl⟩ := int_rd r2
  refine tail_any (typeIs_list (r1.step st2)) slot_list_getitem.lookup (getItem_list_D (r1.step st2) h1 hf hd fun w hw => ⟨st1.trans st2, hw⟩) (hsub _ _)

theorem ev_itemT {value slice : Expr} {pos : Pos} {ds : List D} {k : Int} {d : D} (hv : Ev P n sc ρ value (.tup ds)) (hs : Ev P n sc ρ slice (.int k)) (h0 : 0 ≤ k) (hf : ds.length < 2 ^ 62) (hd : ds[k.toNat]? = some d)
    (hsub : ∀ o i, subscripted slice false o i = operate [o, i] (getItem o i) := by intro _ _; rfl) : Ev P n sc ρ (.Subscript value slice pos) d := fun X env A s e rm => by
  refine Subscript_ (ev_of hv e rm fun o s1 st1 e1 r1 => ev_of hs e1 rm fun i s2 st2 e2 r2 => ?_)
  obtain ⟨t, rfl⟩ := int_rd r2
  have r1' := r1.step st2
  obtain ⟨a, vs, rfl, hx, ht, hr⟩ := tup_rd r1'
  have hlen : ds.length = vs.size := by simpa using rdL_length hr
  obtain ⟨w, hw, hrw⟩ := rdL_get hr hd
  have hlt : k.toNat < ds.length := (List.getElem?_eq_some_iff.mp hd).1
  refine tail_any (typeIs_tup r1') slot_tuple_getitem.lookup (PyProof.Rows.getItem_tuple (j := k.toNat) ht (by (clear hf hx hlen hlt; omega)) (by (clear h0 hx; omega)) ?_ (by simpa using hw) ⟨st1.trans st2, hrw⟩) (hsub _ _)
  unfold seqIndex?
  have : ¬ k < 0 := by (clear hf hx hlen hlt; omega)
  simp [this]; (clear hx this; omega)

/-- a slice's part -/
noncomputable def EvP (P : Prm) (n : Nat) (sc : Scope) (ρ : Rho) : Option Expr → Option Int → Prop
  | none, i => i = none
  | some e, i => ∃ k, i = some k ∧ Ev P n sc ρ e (.int k)
theorem evp_none : EvP P n sc ρ none none := rfl
theorem evp_some {e : Expr} {k : Int} (h : Ev P n sc ρ e (.int k)) : EvP P n sc ρ (some e) (some k) := ⟨k, rfl, h⟩
theorem evp_of {x : Option Expr} {i : Option Int} {E : Value → Shared → Prop} {Q : Value → Shared → Prop} (h : EvP P n sc ρ x i) (e : EnvAt P X env sc ρ s) (rm : Room A n)
    (k : ∀ v s' (j : Option (Int × Tok)), Step P E0 s s' → EnvAt P X env sc ρ s' → IsPart v i → v = partValue j → j.map (·.1) = i → Q v s') : wpAny (model P.prog P.w) A (evalPart x env) Q E s := by
  cases x with
  | none => cases h; rw [evalPart_none]; exact wpAny_pure (k _ _ none .refl e .none rfl rfl)
  | some y =>
    obtain ⟨j, rfl, hy⟩ := h
    rw [evalPart_some]
    refine ev_of hy e rm fun v s1 st1 e1 r1 => ?_
    obtain ⟨t, rfl⟩ := int_rd r1
    exact k _ _ (some (j, t)) st1 e1 (.int j t) rfl rfl

theorem ev_slice {value : Expr} {lo hi st : Option Expr} {p pos : Pos} {ds : List D} {a b c : Option Int} (hv : Ev P n sc ρ value (.list ds)) (h1 : EvP P n sc ρ lo a) (h2 : EvP P n sc ρ hi b) (h3 : EvP P n sc ρ st c) (h0 : c ≠ some 0) (hsz : ds.length ≤ 1000000) :
    Ev P n sc ρ (.Subscript value (.Slice lo hi st p) pos) (.list (pick ds a b c)) := fun X env A s e rm => by
  refine Subscript_ (ev_of hv e rm fun o s1 st1 e1 r1 => ?_)
  refine wpAny_Slice (evp_of h1 e1 rm fun vl s2 _ st2 e2 p2 _ _ => evp_of h2 e2 rm fun vu s3 _ st3 e3 p3 _ _ => evp_of h3 e3 rm fun vs s4 _ st4 e4 p4 _ _ => ?_)
  have r4 := ((r1.step st2).step st3).step st4
  have stt : Step P E0 s s4 := ((st1.trans st2).trans st3).trans st4
  obtain ⟨l, items, rfl, hx, hl, hr⟩ := list_rd r4
  have hlen : ds.length = items.size := by simpa using rdL_length hr
  have hl' := hl.push { cls := .type "slice", data := .fields #[vl, vu, vs] }
  have fin : ∀ sf : Shared, sf = { s4 with heap := (s4.heap.push { cls := .type "slice", data := .fields #[vl, vu, vs] }).push { cls := .type "list", data := .seq (slicePick items a b c) } } →
      Step P E0 s sf ∧ Rd X sf.heap (.list (pick ds a b c)) (.ref (s4.heap.objs.size + 1)) := by
    rintro sf rfl
    refine ⟨stt.trans (step_heap ((HStep.push _).trans (HStep.push _))), ?_⟩
    simp only [Rd]
    refine ⟨_, slicePick items a b c, rfl, fun y => ?_, ⟨{ cls := .type "list", data := .seq (slicePick items a b c) }, ?_, rfl, _, rfl⟩, ?_⟩
    · exact absurd (e4.at'.below _ y) (Nat.not_lt.mpr (Nat.le_succ _))
    · have := Heap.get?_push_size (s4.heap.push { cls := .type "slice", data := .fields #[vl, vu, vs] }) (o := { cls := .type "list", data := .seq (slicePick items a b c) }) rfl
      rw [Heap.size_push] at this; exact this
    · exact (rdL_pick hr).mono (new_agree.trans new_agree) fun _ y => y
  have hg : wpAny (model P.prog P.w) A (getItem (.ref l) (.ref s4.heap.objs.size)) (fun w s' => Step P E0 s s' ∧ Rd X s'.heap (.list (pick ds a b c)) w) F0
      { s4 with heap := s4.heap.push { cls := .type "slice", data := .fields #[vl, vu, vs] } } := by
    refine wpAny_getItem_list_slice hl' (Heap.IsSliceOf.new ..) p2 p3 p4 h0 ?_ (by rw [sizeLine_eq]; (clear h0 hx; omega))
    rw [Heap.size_push]
    exact fin _ rfl
  cases st with
  | none => exact tail_any (ops := [.ref s4.heap.objs.size, .ref l]) hl'.typeIs slot_list_getitem.lookup hg rfl
  | some st => exact tail_any (ops := [.ref l, .ref s4.heap.objs.size]) hl'.typeIs slot_list_getitem.lookup hg rfl

-- text slices
noncomputable def spick (x : Str) (lo hi : Option Int) : Str := ⟨((Builtin.Str.strSliceIndices lo hi 1 x.length).filterMap (x.cps[·]?)).toArray⟩

theorem ev_sliceS {value : Expr} {lo hi : Option Expr} {p pos : Pos} {x y : Str} {a b : Option Int} (hv : Ev P n sc ρ value (.str x)) (h1 : EvP P n sc ρ lo a) (h2 : EvP P n sc ρ hi b) (hsz : x.length ≤ 1000000)
    (hy : (if ((Builtin.Str.strSliceIndices a b 1 x.length).length == x.length) = true then x else spick x a b) = y) (hylen : y.length ≤ 1000000) :
    Ev P n sc ρ (.Subscript value (.Slice lo hi none p) pos) (.str y) := fun X env A s e rm => by
  refine Subscript_ (ev_of hv e rm fun o s1 st1 e1 r1 => ?_)
  refine wpAny_Slice (evp_of h1 e1 rm fun vl s2 jl st2 e2 p2 q2 q2' => evp_of h2 e2 rm fun vu s3 ju st3 e3 p3 q3 q3' => ?_)
  rw [evalPart_none]
  refine wpAny_pure ?_
  have st : Step P E0 s s3 := (st1.trans st2).trans st3
  obtain ⟨t, rfl⟩ := str_rd r1
  subst q2 q3
  have hg : wpAny (model P.prog P.w) A (getItem (.str x t) (.ref s3.heap.objs.size)) (fun w s' => Step P E0 s s' ∧ Rd X s'.heap (.str y) w) F0
      { s3 with heap := s3.heap.push { cls := .type "slice", data := .fields #[partValue jl, partValue ju, .none] } } := by
    refine wpAny_getItem_str_slice (l := jl) (u := ju) (st := none) ⟨_, Heap.get?_push_size _ rfl, rfl, rfl⟩ rfl ?_
    have hy' := hy
    subst q2' q3'
    unfold sliceMade slicePicked
    simp only [Option.map_none, Option.getD_none, beq_self_eq_true, Bool.true_and]
    split at hy'
    · rename_i hc
      rw [if_pos hc]
      subst hy'
      show Step P E0 s _ ∧ _
      exact ⟨st.trans step_push, rd_str⟩
    · rename_i hc
      rw [if_neg hc]
      have hy2 : (⟨((Builtin.Str.strSliceIndices (jl.map (·.1)) (ju.map (·.1)) 1 x.length).filterMap (x.cps[·]?)).toArray⟩ : Str) = y := hy'
      rw [hy2]
      refine ⟨?_, ?_⟩
      · rw [sizeLine_eq]; (clear hsz hc; omega)
      · exact ⟨st.trans (step_heap (HStep.push _)), rd_str⟩
  exact tail_any (ops := [.ref s3.heap.objs.size, .str x t]) (typeIs_str _ x t) F.slot_str_getitem.lookup hg rfl

-- list + list, list * int
theorem op_addl {a b : List D} (hsz : a.length + b.length ≤ 1000000) : Op2 P n .Add (.list a) (.list b) (.list (a ++ b)) := fun X A s u v at' rm ra rb => by
  obtain ⟨l, vs, rfl, hx, hl, hr⟩ := list_rd ra; obtain ⟨m, us, rfl, hx', hl', hr'⟩ := list_rd rb
  have q := rdL_length hr; have q' := rdL_length hr'
  simp at q q'
  obtain ⟨⟨cls, dd, data, sl⟩, ho, hc, k, hd⟩ := id hl
  obtain ⟨⟨cls2, dd2, data2, sl2⟩, ho2, hc2, k2, hd2⟩ := id hl'
  simp only at hc hd hc2 hd2
  subst hc hd hc2 hd2
  refine concat_meets ⟨_, ho, rfl⟩ ⟨_, ho2, rfl⟩ noFill_list_add seq_list_add PySem.F.slot_list_add PySem.F.entry_list_add (PySem.F.args_list_add_2 _ _) (list_addW l m vs us k k2 dd dd2 sl sl2 (by rw [sizeLine_eq]; (clear hx hx'; omega))) ⟨ho, ho2, ?_⟩
  refine ⟨step_push, ?_⟩
  have := rd_newList at' (rdL_append hr hr')
  rw [show (vs.toList ++ us.toList).toArray = vs ++ us from by simp] at this
  exact this
theorem rdL_rep {ds : List D} {vs : List Value} (r : RdL X h ds vs) : ∀ k, RdL X h (List.replicate k ds).flatten (List.replicate k vs).flatten
  | 0 => by simp [RdL]
  | k + 1 => by simp only [List.replicate_succ, List.flatten_cons]; exact rdL_append r (rdL_rep r k)
theorem op_mull {a : List D} {x : Int} (hx0 : x < 2 ^ 62) (hlo : -(2 ^ 62) ≤ x) (hsz : a.length * x.toNat ≤ 1000000) : Op2 P n .Mult (.list a) (.int x) (.list (List.replicate x.toNat a).flatten) := fun X A s u v at' rm ra rb => by
  obtain ⟨l, vs, rfl, hx, hl, hr⟩ := list_rd ra; obtain ⟨t', rfl⟩ := int_rd rb
  have q := rdL_length hr
  simp at q
  obtain ⟨⟨cls, d, data, sl⟩, ho, hcl, k, hd⟩ := id hl
  simp only at hcl hd
  subst hcl hd
  have hsz' : vs.size * x.toNat ≤ 1000000 := by rw [← q]; exact hsz
  refine wpAny_binaryOp_repeat_ref (T := "list") (U := "int") (by decide) ⟨_, ho, rfl⟩ (fun s' => typeIs_int s' x t') noFill_list_mul F.fills_int_mul F.slot_int_rmul repeat_list F.slot_int_index.lookup
    (call_meets F.slot_int_rmul (typeIs_int s x t') F.entry_int_rmul (F.args_int_rmul_2 _ _) (lm_int_rmul_list_any x t' l vs k d sl)
      ⟨ho, rfl, ⟨_, ho, rfl⟩, call_meets F.slot_list_mul ⟨_, ho, rfl⟩ F.entry_list_mul (F.args_list_mul_2 _ _)
        (lm_list_mul_any l vs k d sl x t' (by simp [Builtin.List.listFitsIndex]; (clear hsz hx q hsz'; omega)) (by (clear hx0 hlo hsz hx q; omega)) (by simp [Builtin.List.listTooLong, sizeLine]; (clear hx0 hlo hsz hx q; omega)))
        ⟨ho, ?_⟩⟩)
  refine ⟨step_push, ?_⟩
  rw [listMul_foldl_if]
  exact rd_newList at' (rdL_rep hr x.toNat)
end
end Mine
end
section
open PySem PySem.W PySem.Calls PyProof.Rows
set_option Elab.async false
set_option maxRecDepth 100000
set_option linter.unusedVariables false
namespace Mine

noncomputable def hsz (s : Shared) : Nat := s.heap.objs.size
theorem hsz_push (s : Shared) (o : Obj) : hsz { s with heap := s.heap.push o } = hsz s + 1 := Heap.size_push ..
theorem hsz_update (s : Shared) (a : Addr) (f : Obj → Obj) : hsz { s with heap := s.heap.update a f } = hsz s := Heap.size_after_update ..

theorem runs_size {M : Model} {Γ : Ctx} {p : Pos} {t : Sem Fin} {fs : List Frame} {s s' : Shared} {e : End} (h : Runs M Γ p t fs s e s') : s.heap.objs.size ≤ s'.heap.objs.size := by
  induction h <;> (try simp only [Shared.setGen, Heap.size_push, Heap.size_after_update] at *) <;> omega
theorem returns_size {M : Model} {Γ : Ctx} {p : Pos} {s s' : Shared} {r : Result} (h : Returns M Γ p s r s') : s.heap.objs.size ≤ s'.heap.objs.size := runs_size h
theorem wakes_size {M : Model} {Γ : Ctx} {p : Pos} {g : Nat} {r : Resume} {s s' : Shared} {res : GenResult} (h : Wakes M Γ p g r s res s') : s.heap.objs.size ≤ s'.heap.objs.size := by
  unfold Wakes at h
  split at h
  · exact h.elim
  · split at h
    · obtain ⟨e₁, s₁, hr, _, _, rfl⟩ := h; exact (runs_size hr : (s.setGen g .running).heap.objs.size ≤ s₁.heap.objs.size)
    · rw [h.2]; exact Nat.le_refl _
    · rw [h.2]; exact Nat.le_refl _
  · obtain ⟨e₁, s₁, hr, _, _, rfl⟩ := h; exact (runs_size hr : (s.setGen g .running).heap.objs.size ≤ s₁.heap.objs.size)
  · rw [h.2]; exact Nat.le_refl _
  · rw [h.2]; exact Nat.le_refl _

theorem wp_size {α : Type} (M : Model) (Γ : Ctx) (n : Nat) (t : Sem α) : ∀ (Q : α → Pos → Shared → Prop) (E : Value → Pos → Shared → Prop) (p : Pos) (s : Shared), n ≤ s.heap.objs.size → Sem.wp M Γ t Q E p s →
    Sem.wp M Γ t (fun a p' s' => n ≤ s'.heap.objs.size ∧ Q a p' s') (fun e p' s' => n ≤ s'.heap.objs.size ∧ E e p' s') p s := by
  induction t with
  | pure a => intro Q E p s hn h; exact ⟨hn, h⟩
  | raise e => intro Q E p s hn h; exact ⟨hn, h⟩
  | unsupported _ => intro Q E p s _ h; exact h
  | finish _ => intro Q E p s _ h; exact h
  | rule _ k ih => intro Q E p s hn h; exact ih () Q E p s hn h
  | «at» p' k ih => intro Q E p s hn h; exact ih () Q E p' s hn h
  | load a _ k ih => intro Q E p s hn h; obtain ⟨o, ho, h⟩ := h; exact ⟨o, ho, ih o Q E p s hn h⟩
  | update a _ f k ih => intro Q E p s hn h; exact ⟨h.1, ih () Q E p _ (Nat.le_trans hn (Nat.le_of_eq (Heap.size_after_update ..).symm)) h.2⟩
  | loadIfAlive a k ih => intro Q E p s hn h; exact ih _ Q E p s hn h
  | point _ k ih => intro Q E p s hn h; exact ih () Q E p s hn h
  | register _ _ => intro Q E p s _ h; exact h
  | alloc o k ih => intro Q E p s hn h; exact ih _ Q E p _ (Nat.le_trans hn (by rw [Heap.size_push]; exact Nat.le_succ _)) h
  | fresh k ih => intro Q E p s hn h; exact ih _ Q E p _ hn h
  | ask k ih => intro Q E p s hn h; exact ih _ Q E p s hn h
  | choose src m k ih => intro Q E p s hn h; exact ⟨h.1, ih _ Q E p _ hn h.2⟩
  | os q _ k ih => intro Q E p s hn h; exact ih _ Q E p _ hn h
  | call c hd _ _ k ih => intro Q E p s hn h; obtain ⟨r, s', hr, h⟩ := h; exact ⟨r, s', hr, ih r Q E p s' (Nat.le_trans hn (returns_size hr)) h⟩
  | handled own k ih => intro Q E p s hn h; exact ih _ Q E p s hn h
  | genState g k ih => intro Q E p s hn h; obtain ⟨st, hs, h⟩ := h; exact ⟨st, hs, ih _ Q E p s hn h⟩
  | newGen c k ih => intro Q E p s hn h; exact ih _ Q E p _ hn h
  | resume g r _ k ih => intro Q E p s hn h; obtain ⟨res, s', hw, h⟩ := h; exact ⟨res, s', hw, ih res Q E p s' (Nat.le_trans hn (wakes_size hw)) h⟩
  | yield _ _ _ _ => intro Q E p s _ h; exact h
  | stack k ih => intro Q E p s hn h; exact ih _ Q E p s hn h
  | fork _ _ => intro Q E p s _ h; exact h
  | thread k ih => intro Q E p s hn h; exact ih _ Q E p s hn h
  | await _ _ _ _ _ => intro Q E p s _ h; exact h

theorem sized {α : Type} {M : Model} {A : Around} {s : Shared} {t : Sem α} {Q : α → Shared → Prop} {E : Value → Shared → Prop} (h : wpAny M A t Q E s) :
    wpAny M A t (fun a s' => s.heap.objs.size ≤ s'.heap.objs.size ∧ Q a s') (fun e s' => E e s') s :=
  fun Γ p hΓ => Sem.wp_mono M Γ t (fun _ _ _ x => x) (fun _ _ _ x => x.2) p s (wp_size M Γ _ t _ _ p s (Nat.le_refl _) (h Γ p hΓ))

end Mine
end
section
open PySem PySem.W PySem.Calls PyProof.Rows
set_option Elab.async false
set_option maxRecDepth 100000
set_option linter.unusedVariables false
namespace Mine

noncomputable abbrev Un (X Y : ASet) : ASet := fun b => X b ∨ Y b

section
variable {P : Prm} {X X' Y : ASet} {env : Env} {sc : Scope} {ρ ρ' : Rho} {s s' : Shared} {A : Around} {n : Nat} {h : Heap}

theorem lt_of_isList {a : Addr} {vs} (x : h.IsList a vs) : a < h.objs.size := let ⟨_, e, _⟩ := x; Heap.lt_size e
theorem lt_of_isTuple {a : Addr} {vs} (x : h.IsTuple a vs) : a < h.objs.size := let ⟨_, e, _⟩ := x; Heap.lt_size e

mutual
theorem Rd.fresh (hy : ∀ b, Y b → h.objs.size ≤ b) : ∀ {d : D} {v : Value}, Rd X h d v → Rd (Un X Y) h d v
  | .none, _, r => by simpa only [Rd] using r
  | .bool _, _, r => by simpa only [Rd] using r
  | .int _, _, r => by simpa only [Rd] using r
  | .str _, _, r => by simpa only [Rd] using r
  | .ptr _, _, r => by simpa only [Rd] using r
  | .tup l, v, r => by
    simp only [Rd] at r ⊢
    obtain ⟨a, vs, e, hx, ht, hl⟩ := r
    exact ⟨a, vs, e, fun y => y.elim hx fun y => Nat.lt_irrefl _ (Nat.lt_of_lt_of_le (lt_of_isTuple ht) (hy _ y)), ht, RdL.fresh hy hl⟩
  | .list l, v, r => by
    simp only [Rd] at r ⊢
    obtain ⟨a, vs, e, hx, ht, hl⟩ := r
    exact ⟨a, vs, e, fun y => y.elim hx fun y => Nat.lt_irrefl _ (Nat.lt_of_lt_of_le (lt_of_isList ht) (hy _ y)), ht, RdL.fresh hy hl⟩
  | .ws .., v, r => by
    simp only [Rd] at r ⊢
    obtain ⟨x, e, dx, m, h1, h2, h3, h4, h5, h6, h7, h8, p, q, vs, t, h9, h10, h11, h12, h13, h14⟩ := r
    have no : ∀ {b}, b < h.objs.size → ¬ X b → ¬ Un X Y b := fun hb hx y => y.elim hx fun y => Nat.lt_irrefl _ (Nat.lt_of_lt_of_le hb (hy _ y))
    exact ⟨x, e, dx, m, no (Heap.lt_size h3) h1, no h4.lt h2, h3, h4, h5, h6, h7, h8, p, q, vs, t, h9, no (lt_of_isTuple h12) h10, no (lt_of_isTuple h13) h11, h12, h13, h14⟩
theorem RdL.fresh (hy : ∀ b, Y b → h.objs.size ≤ b) : ∀ {ds : List D} {vs : List Value}, RdL X h ds vs → RdL (Un X Y) h ds vs
  | [], _, r => by simpa only [RdL] using r
  | d :: ds, vs, r => by
    simp only [RdL] at r ⊢
    obtain ⟨v, vr, e, h1, h2⟩ := r
    exact ⟨v, vr, e, Rd.fresh hy h1, RdL.fresh hy h2⟩
end

theorem ne_code {T : String} (h : T ≠ "code") : Value.type T ≠ .type "code" := fun e => h (by injection e)

/-- the mutable set grows by what is new -/
theorem EnvAt.grow (e : EnvAt P X env sc ρ s) (st : Step P E0 s s') (hy : ∀ b, Y b → s.heap.objs.size ≤ b) (a : At P (Un X Y) s'.heap) : EnvAt P (Un X Y) env sc ρ s' := by
  have g : Agree (Un X Y) s.heap s'.heap := st.heap.keep.weak fun _ y => y.elim
  have e' := e.step st
  obtain ⟨m, hm, hl⟩ := e.lcl
  refine ⟨a, e.hsc, e.hk, e.hg, e.hb, .inl e.xl, ⟨m, ns_agree st.heap.keep (fun y => y) hm, fun x d p q => ?_⟩, fun x d p q => ?_, e.knd, fun n c hm => let ⟨a, b, v, q⟩ := e'.xc n c hm; ⟨.inl a, b, v, q⟩⟩
  · obtain ⟨v, h1, h2⟩ := hl x d p q
    exact ⟨v, h1, (h2.fresh hy).mono g fun _ y => y⟩
  · obtain ⟨c, v, h1, h2, h3⟩ := e.cel x d p q
    exact ⟨c, v, h1, isCell_agree st.heap.keep (fun y => y) h2, (h3.fresh hy).mono g fun _ y => y⟩

/-- an iterator that hands on ds, one after the other -/
structure Iter (P : Prm) (tgt : Expr) (X Y : ASet) (it : Value) (J : List D → Shared → Prop) : Prop where
  next : ∀ A s d ds, A.handled = none → At P X s.heap → J (d :: ds) s → wpAny (model P.prog P.w) A (pyNext it) (fun r s' => ∃ v, r = some v ∧
    wpAny (model P.prog P.w) A (letOwnedTupleGo tgt it v) (fun _ s'' => Step P Y s s'' ∧ Rd X s''.heap d v ∧ J ds s'') F0 s') F0 s
  stop : ∀ A s, A.handled = none → At P X s.heap → J [] s → wpAny (model P.prog P.w) A (pyNext it) (fun r s' => r = none ∧ Step P Y s s') F0 s
  frame : ∀ Z s s' ds, At P X s.heap → J ds s → Step P Z s s' → (∀ b, Z b → ¬ Y b) → (∀ b, Z b → X b) → J ds s'
  self : ∀ A s ds (Q : Value → Shared → Prop) E, J ds s → Q it s → wpAny (model P.prog P.w) A (pyIter it) Q E s
  sub : ∀ b, Y b → X b

/-- an expression whose value is walked over: the iterator lies in Y; W: what is made later and may be changed -/
noncomputable def ItAt (P : Prm) (X : ASet) (tgt : Expr) (ds : List D) (s : Shared) (it : Value) (s2 : Shared) : Prop :=
  ∃ Y : ASet, Step P E0 s s2 ∧ (∀ b, Y b → s.heap.objs.size ≤ b) ∧ At P (Un X Y) s2.heap ∧
    ∀ (W : ASet) (s' : Shared), Step P E0 s2 s' → (∀ b, W b → s2.heap.objs.size ≤ b) → At P (Un (Un X Y) W) s'.heap → ∃ J, Iter P tgt (Un (Un X Y) W) Y it J ∧ J ds s'
noncomputable def EvIt (P : Prm) (n : Nat) (sc : Scope) (ρ : Rho) (tgt : Expr) (e : Expr) (ds : List D) : Prop :=
  ∀ X env A s, EnvAt P X env sc ρ s → Room A n → wpAny (model P.prog P.w) A (eval e env) (fun x s1 => wpAny (model P.prog P.w) A (pyIter x) (fun it s2 => ItAt P X tgt ds s it s2) F0 s1) F0 s

noncomputable def nameTgt : Expr → Bool
  | .Name .. => true
  | _ => false
noncomputable def tupTgt : Expr → Bool
  | .Tuple .. => true
  | _ => false

/-- a list iterator's state -/
noncomputable def JList (X : ASet) (I ax : Addr) (items : Array Value) (ds : List D) (s : Shared) : Prop :=
  ∃ i, s.heap.IsListIter I ax i ∧ s.heap.IsList ax items ∧ ¬ X ax ∧ I ≠ ax ∧ RdL X s.heap ds (items.toList.drop i)

theorem nt_listIter {a l i} (x : h.IsListIter a l i) : ∃ o, h.get? a = some o ∧ (∀ ps, o ≠ tabObj ps) := let ⟨o, ho, hc, _⟩ := x; ⟨o, ho, nt_cls hc⟩

theorem notTab_of (a : At P X h) {c : Addr} {o : Obj} (ho : h.get? c = some o) (hn : ∀ ps, o ≠ tabObj ps) : ∀ t ∈ P.tabs, c ≠ t.P := fun t ht q => by
  subst q
  rcases (a.tab t ht).2 with y | ⟨c', _, y, _⟩ <;> (rw [ho] at y; cases y; exact hn _ rfl)

theorem letGo_name {tgt : Expr} (h : nameTgt tgt = true) (it v : Value) : letOwnedTupleGo tgt it v = pure () := by
  cases tgt <;> first | rfl | exact absurd h Bool.false_ne_true

theorem iter_list {tgt : Expr} {I ax : Addr} {items : Array Value} (ht : (nameTgt tgt || tupTgt tgt) = true) (hI : X I) : Iter P tgt X (fun b => b = I) (.ref I) (JList X I ax items) where
  next := fun A s d ds hh a j0 => by
    obtain ⟨i, hit, hl, hx, hne, hr⟩ := j0
    simp only [RdL] at hr
    obtain ⟨v, vr, e, r1, r2⟩ := hr
    have hv : items[i]? = some v := by
      have : (items.toList.drop i)[0]? = some v := by rw [e]; rfl
      simpa using this
    have hvr : vr = items.toList.drop (i + 1) := by
      have : (items.toList.drop i).drop 1 = vr := by rw [e]; rfl
      rw [← this, List.drop_drop]
    refine wpAny_pyNext_list_item hit hl hv fun h' hit' hs => ⟨v, rfl, ?_⟩
    obtain ⟨o, ho, hn⟩ := nt_listIter hit
    have st : HStep P (fun b => b = I) s.heap h' := HStep.update a hI (notTab_of a ho hn) hs
    have ag : Agree X s.heap h' := st.keep.weak fun b y => y ▸ hI
    have fin : Step P (fun b => b = I) s { s with heap := h' } ∧ Rd X h' d v ∧ JList X I ax items ds { s with heap := h' } :=
      ⟨step_heap st, r1.mono ag fun _ y => y, i + 1, hit', isList_agree ag hx hl, hx, hne, hvr ▸ r2.mono ag fun _ y => y⟩
    cases tgt <;> first | (exact absurd ht Bool.false_ne_true) | exact wpAny_pure fin | skip
    rename_i elts k pos
    cases v with
    | ref T => exact wpAny_letOwnedTupleGo_listiter hit' fin
    | _ => exact wpAny_pure fin
  stop := fun A s hh a j0 => by
    obtain ⟨i, hit, hl, hx, hne, hr⟩ := j0
    simp only [RdL] at hr
    have hv : items[i]? = none := by
      have := congrArg List.length hr
      simp at this
      simp; (clear hx hne; omega)
    obtain ⟨o, ho, hn⟩ := nt_listIter hit
    have nt := notTab_of a ho hn
    refine wpAny_mono (sized (wpAny_pyNext_list_end (Q := fun r s' => r = none ∧ ∃ h', s' = { s with heap := h' } ∧ Heap.ExtBut I s.heap h') (E := F0) hh hit hl hv fun h' hs => ⟨rfl, h', rfl, hs⟩)) (fun r s' ⟨sz, e, h', e', hs⟩ => ?_) fun _ _ x => x
    subst e'
    refine ⟨e, step_heap ⟨fun b o hb _ e => hs b o hb e, fun b o e e1 => hs b o (fun q => by rw [q, a.xlow I hI] at e; cases e) e1, fun X' t hm _ ⟨x0, x⟩ => ?_, sz⟩⟩
    have hP : t.P ≠ I := fun q => nt t hm q.symm
    refine ⟨x0, x.elim (fun e => .inl (hs _ _ hP e)) fun ⟨c', hx, e, o, vs, q, e1, e2⟩ => .inr ⟨c', hx, hs _ _ hP e, o, vs, q, hs _ _ (fun r => ?_) e1, e2⟩⟩
    subst r
    rcases (a.tab t hm).2 with y | ⟨c₂, hx2, y, _⟩
    · rw [e] at y; simp at y
    · rw [e] at y; simp at y; rw [y] at hI; exact hx2 hI
  frame := fun Z s s' ds a j0 st hz hzx => by
    obtain ⟨i, hit, hl, hx, hne, hr⟩ := j0
    have ag : Agree X s.heap s'.heap := st.heap.keep.weak hzx
    obtain ⟨o, ho, hc, hd⟩ := hit
    exact ⟨i, ⟨o, st.heap.keep _ _ (fun z => hz _ z rfl) (nt_cls hc) ho, hc, hd⟩, isList_agree ag hx hl, hx, hne, hr.mono ag fun _ y => y⟩
  self := fun A s ds Q E ⟨i, hit, _⟩ q => wpAny_pyIter_listiter hit q
  sub := fun b y => y ▸ hI

theorem evit_list {tgt e : Expr} {ds : List D} (he : Ev P n sc ρ e (.list ds)) (ht : (nameTgt tgt || tupTgt tgt) = true := by rfl) : EvIt P n sc ρ tgt e ds := fun X env A s e0 rm => by
  refine ev_of he e0 rm fun x s1 st1 e1 r1 => ?_
  obtain ⟨a, vs, rfl, hx, hl, hr⟩ := list_rd r1
  have hlt := lt_of_isList hl
  refine wpAny_pyIter_list hl ⟨fun b => b = s1.heap.objs.size, st1.trans step_push, fun b y => y ▸ st1.heap.size, ?_, fun W s' st hW aW => ?_⟩
  · exact e1.at'.more (e1.at'.step (HStep.push (Y := E0) _)) (Nat.le_refl _) (Heap.get?_push_size _ rfl) (nc_cls rfl)
  · have hW' : ∀ b, W b → s1.heap.objs.size < b := fun b w => by have := hW b w; rw [Heap.size_push] at this; exact this
    have ag : Agree X s1.heap s'.heap := (new_agree.trans (st.heap.keep.weak fun _ y => y.elim))
    have nx : ¬ Un (Un X fun b => b = s1.heap.objs.size) W a := fun y => y.elim (fun y => y.elim hx fun y => Nat.ne_of_lt hlt y) fun w => Nat.lt_irrefl _ (Nat.lt_trans hlt (hW' _ w))
    refine ⟨JList _ s1.heap.objs.size a vs, iter_list ht (.inl (.inr rfl)), 0, ?_, isList_agree ag hx hl, nx, Nat.ne_of_gt hlt, ?_⟩
    · exact ⟨_, st.heap.keep _ _ (fun y => y) (nt_cls rfl) (Heap.get?_push_size _ rfl), rfl, rfl⟩
    · simp only [List.drop_zero]
      have h1 := hr.fresh (Y := fun b => b = s1.heap.objs.size) fun b y => Nat.le_of_eq y.symm
      have h2 := h1.fresh (Y := W) fun b w => Nat.le_of_lt (hW' b w)
      exact h2.mono (new_agree.trans (st.heap.keep.weak fun _ y => y.elim)) fun _ y => y
end
end Mine
end
section
open PySem PySem.W PySem.Calls PyProof.Rows
set_option Elab.async false
set_option maxRecDepth 100000
set_option linter.unusedVariables false
namespace Mine

section
variable {P : Prm} {X X' Y : ASet} {env : Env} {sc : Scope} {ρ ρ' : Rho} {s s' : Shared} {A : Around} {n : Nat} {h h' : Heap}

theorem lookup_cons_ne {x y : Str} {d : D} (hne : y ≠ x) : List.lookup y ((x, d) :: ρ) = ρ.lookup y := by
  rw [List.lookup_cons, beq_eq_false_iff_ne.mpr hne]
theorem lookup_cons_eq {x : Str} {d : D} : List.lookup x ((x, d) :: ρ) = some d := by simp

theorem notTab_ns (a : At P X h) {c : Addr} {m} (hn : h.Ns c m) : ∀ t ∈ P.tabs, c ≠ t.P := by
  obtain ⟨o, es, ep, ho, hd, _⟩ := hn
  exact notTab_of a ho (nt_dict hd)

/-- a local name is stored -/
theorem EnvAt.storeL (e : EnvAt P X env sc ρ s) {x : Str} {d : D} {v : Value} {m : Str → Option Value} {tk : Nat} (hm : s.heap.Ns env.locals m) (hx : sc.names.lookup x = some .local) (r : Rd X s.heap d v)
    (hn : h'.Ns env.locals (fun y => if y = x then some v else m y)) (hs : Heap.SameBut env.locals s.heap h') :
    Step P (fun b => b = env.locals) s { s with heap := h', toks := tk } ∧ EnvAt P X env sc ((x, d) :: ρ) { s with heap := h', toks := tk } := by
  have st : HStep P (fun b => b = env.locals) s.heap h' := HStep.update e.at' e.xl (notTab_ns e.at' hm) hs
  have ag : Agree X s.heap h' := st.keep.weak fun b y => y ▸ e.xl
  refine ⟨step_heap st, e.at'.step st, e.hsc, e.hk, e.hg, e.hb, e.xl, ⟨_, hn, fun y d' hl hk => ?_⟩, fun y d' hl hk => ?_, fun y d' hl => ?_, fun n c hm => ?_⟩
  · by_cases hyx : y = x
    · subst hyx
      rw [lookup_cons_eq] at hl; cases hl
      exact ⟨v, by simp, r.mono ag fun _ y => y⟩
    · rw [lookup_cons_ne hyx] at hl
      obtain ⟨m', hm', hl'⟩ := e.lcl
      obtain ⟨v', p, q⟩ := hl' y d' hl hk
      have : m y = m' y := by
        obtain ⟨o, es, ep, ho, hd, _, hf⟩ := hm
        obtain ⟨o', es', ep', ho', hd', _, hf'⟩ := hm'
        rw [ho] at ho'; cases ho'
        rw [hd] at hd'; cases hd'
        rw [← hf, ← hf']
      exact ⟨v', by simp [hyx, this, p], q.mono ag fun _ y => y⟩
  · have hyx : y ≠ x := fun q => by subst q; rcases hk with hk | hk <;> (rw [hx] at hk; cases hk)
    rw [lookup_cons_ne hyx] at hl
    obtain ⟨c, v', p, q, r'⟩ := e.cel y d' hl hk
    obtain ⟨_, hc, _⟩ := e.xc y c (mem_lookup p)
    exact ⟨c, v', p, q.sameBut hs hc, r'.mono ag fun _ y => y⟩
  · by_cases hyx : y = x
    · subst hyx; exact .inl hx
    · rw [lookup_cons_ne hyx] at hl; exact e.knd y d' hl
  · obtain ⟨a, b, v', q⟩ := e.xc n c hm
    exact ⟨a, b, v', q.sameBut hs b⟩

theorem store_local {x : Str} {d : D} {v : Value} {E : Value → Shared → Prop} {Q : Unit → Shared → Prop} (e : EnvAt P X env sc ρ s) (hx : sc.names.lookup x = some .local) (r : Rd X s.heap d v)
    (k : ∀ s', Step P (fun b => b = env.locals) s s' → EnvAt P X env sc ((x, d) :: ρ) s' → Q () s') : wpAny (model P.prog P.w) A (storeName env x v) Q E s := by
  obtain ⟨m, hm, _⟩ := e.lcl
  exact wpAny_storeName_local ((kindOf_eq e x).trans hx) hm (fun h' hn hs => let ⟨a, b⟩ := e.storeL hm hx r hn hs; k _ a b) (noSpecial e)

noncomputable def BindT (P : Prm) (sc : Scope) (tgt : Expr) (d : D) (β : Rho) : Prop :=
  ∀ X env A s ρ v, EnvAt P X env sc ρ s → A.handled = none → Rd X s.heap d v → wpAny (model P.prog P.w) A (assign tgt env v) (fun _ s' => Step P (fun b => b = env.locals) s s' ∧ EnvAt P X env sc (β ++ ρ) s') F0 s

theorem bind_name {x : Str} {pos : Pos} {d : D} (hx : sc.names.lookup x = some .local := by rfl) : BindT P sc (.Name x pos) d [(x, d)] := fun X env A s ρ v e hh r =>
  wpAny_assign_Name (store_local e hx r fun s' st e' => ⟨st, e'⟩)

theorem wp_unpack2 {t : Addr} {items : Array Value} {k : Nat} {E : Value → Shared → Prop} {Q : List Value → Shared → Prop} (a : At P X s.heap) (hh : A.handled = none) (ht : s.heap.IsTuple t items) (hk : items.size = k)
    (q : ∀ s', Step P E0 s s' → Q items.toList s') : wpAny (model P.prog P.w) A (unpackItems (.ref t) k none) Q E s := by
  subst hk
  refine wpAny_mono (sized (wpAny_unpackItems_tuple (Q := fun l s' => l = items.toList ∧ ∃ h', s' = { s with heap := h' } ∧ Heap.ExtBut s.heap.objs.size s.heap h') (E := E) hh ht fun h' hs => ⟨rfl, h', rfl, hs⟩)) (fun l s' ⟨sz, e, h', e', hs⟩ => ?_) fun _ _ x => x
  subst e e'
  exact q _ (step_heap (.of_keeps (fun b o e => hs b o (Nat.ne_of_lt (Heap.lt_size e)) e) sz))

theorem bind_two {x y : Str} {px py pos : Pos} {k : Nat} {d1 d2 : D} (hx : sc.names.lookup x = some .local := by rfl) (hy : sc.names.lookup y = some .local := by rfl) :
    BindT P sc (.Tuple [.Name x px, .Name y py] k pos) (.tup [d1, d2]) [(y, d2), (x, d1)] := fun X env A s ρ v e hh r => by
  obtain ⟨t, vs, rfl, hX, ht, hr⟩ := tup_rd r
  have hsz : vs.size = 2 := by have := rdL_length hr; simpa using this.symm
  show wpAny _ A (do standAt pos; assignInOrder [assign (.Name x px) env, assign (.Name y py) env] (← holding [.ref t] (unpackItems (.ref t) 2 none))) _ _ s
  refine wpAny_bind (wpAny_standAt (wpAny_bind (wpAny_holding (wp_unpack2 e.at' hh ht hsz fun s1 st1 => ?_))))
  have e1 := e.step st1
  have hr1 := hr.step st1
  simp only [RdL] at hr1
  obtain ⟨v1, _, e2, r1, v2, _, e3, r2, e4⟩ := hr1
  rw [e2, e3, e4]
  show wpAny _ A (do holding [v2] (assign (.Name x px) env v1); (do holding [] (assign (.Name y py) env v2); pure ())) _ _ s1
  refine wpAny_bind (wpAny_holding (wpAny_assign_Name (store_local e1 hx r1 fun s2 st2 e2 => wpAny_bind (wpAny_holding (wpAny_assign_Name (store_local e2 hy (r2.mono (st2.heap.keep.weak fun b q => q ▸ e1.xl) fun _ y => y) fun s3 st3 e3 => wpAny_pure ⟨(st1.any.trans st2).trans st3, e3⟩))))))

/-- the cells that a nested scope takes along -/
noncomputable def closOf (cells : List (Str × Addr)) : List (Str × NameKind) → List (Str × Addr) → List (Str × Addr)
  | [], acc => acc
  | (x, k) :: r, acc => closOf cells r (if k == .free then (match cells.lookup x with | some c => (x, c) :: acc | none => acc) else acc)
theorem closureFor_eq {scope : Scope} (hf : ∀ x, (x, NameKind.free) ∈ scope.names → (env.cells.lookup x).isSome = true) : closureFor scope env = pure (closOf env.cells scope.names []) := by
  have key : ∀ (names : List (Str × NameKind)) (acc : List (Str × Addr)), (∀ x, (x, NameKind.free) ∈ names → (env.cells.lookup x).isSome = true) →
      (forIn names acc fun (x : Str × NameKind) (r : List (Str × Addr)) => match x with
        | (name, kind) => if (kind == NameKind.free) = true then do let a ← cellOf env name; pure (ForInStep.yield ((name, a) :: r)) else pure (ForInStep.yield r) : Sem _) = pure (closOf env.cells names acc) := by
    intro names
    induction names with
    | nil => intro acc _; rfl
    | cons y r ih =>
      intro acc hf
      obtain ⟨x, k⟩ := y
      rw [List.forIn_cons]
      unfold closOf
      by_cases hk : k = .free
      · subst hk
        have := hf x (.head _)
        obtain ⟨c, hc⟩ := Option.isSome_iff_exists.mp this
        have hco : cellOf env x = pure c := by unfold cellOf; rw [hc]
        simp only [beq_self_eq_true, if_true, hco, hc]
        exact ih _ fun z hz => hf z (.tail _ hz)
      · have hb : (k == NameKind.free) = false := by simpa using hk
        simp only [hb, Bool.false_eq_true, if_false]
        exact ih _ fun z hz => hf z (.tail _ hz)
  unfold closureFor
  have := key scope.names [] hf
  simp only [bind_pure] at this ⊢
  exact this

theorem closOf_mem {cells : List (Str × Addr)} : ∀ (names : List (Str × NameKind)) (acc : List (Str × Addr)) (x : Str) (c : Addr), (x, c) ∈ closOf cells names acc → cells.lookup x = some c ∨ (x, c) ∈ acc
  | [], acc, x, c, hm => .inr hm
  | (y, k) :: r, acc, x, c, hm => by
    unfold closOf at hm
    rcases closOf_mem r _ x c hm with q | q
    · exact .inl q
    · split at q
      · split at q
        · rename_i c' hc'
          rcases List.mem_cons.mp q with e | q
          · cases e; exact .inl hc'
          · exact .inr q
        · exact .inr q
      · exact .inr q
theorem closOf_keep {cells : List (Str × Addr)} : ∀ (names : List (Str × NameKind)) (acc : List (Str × Addr)) (p : Str × Addr), p ∈ acc → p ∈ closOf cells names acc
  | [], acc, p, hm => hm
  | (y, k) :: r, acc, p, hm => by
    unfold closOf
    refine closOf_keep r _ p ?_
    split
    · split
      · exact .tail _ hm
      · exact hm
    · exact hm
theorem closOf_has {cells : List (Str × Addr)} {x : Str} {c : Addr} (hc : cells.lookup x = some c) : ∀ (names : List (Str × NameKind)) (acc : List (Str × Addr)), (x, NameKind.free) ∈ names → (x, c) ∈ closOf cells names acc
  | (y, k) :: r, acc, hm => by
    unfold closOf
    rcases List.mem_cons.mp hm with e | hm
    · cases e
      refine closOf_keep r _ _ ?_
      simp [hc]
    · exact closOf_has hc r _ hm
theorem lookup_of_fun {l : List (Str × Addr)} {x : Str} {c : Addr} (hm : (x, c) ∈ l) (hu : ∀ c', (x, c') ∈ l → c' = c) : l.lookup x = some c := by
  induction l with
  | nil => cases hm
  | cons p r ih =>
    obtain ⟨y, b⟩ := p
    rw [List.lookup_cons]
    cases hb : x == y with
    | true =>
      have := eq_of_beq hb; subst this
      simp only
      rw [hu b (.head _)]
    | false =>
      simp only
      have hne : x ≠ y := fun q => by subst q; simp at hb
      refine ih ?_ fun c' h => hu c' (.tail _ h)
      rcases List.mem_cons.mp hm with e | h
      · cases e; exact absurd rfl hne
      · exact h
theorem closOf_lookup {cells : List (Str × Addr)} {names : List (Str × NameKind)} {x : Str} {c : Addr} (hc : cells.lookup x = some c) (hx : (x, NameKind.free) ∈ names) : (closOf cells names []).lookup x = some c :=
  lookup_of_fun (closOf_has hc names [] hx) fun c' hm => by
    rcases closOf_mem names [] x c' hm with q | q
    · rw [hc] at q; exact (Option.some.inj q).symm
    · cases q

/-- the scope that a block's frame gets -/
noncomputable def compSc (scope sc : Scope) : Scope :=
  { scope with names := scope.names.map fun (n, k) => if (k == .free && sc.kind == .function && sc.names.lookup n == some .cell) then (n, .cell) else (n, k) }
theorem relabel_eq {scope : Scope} (hsc : env.scope = sc) : relabel scope env = compSc scope sc := by
  unfold relabel compSc Env.kindOf; rw [hsc]

theorem tests_sound {E : Value → Shared → Prop} : ∀ {ifs : List Expr} {b : Bool} {s : Shared} {Q : Bool → Shared → Prop}, TrL P n sc ρ .And ifs b → EnvAt P X env sc ρ s → Room A n → (∀ s', Step P E0 s s' → Q b s') →
    wpAny (model P.prog P.w) A (forIn ifs true fun c r => if r = true then do let ok ← isTrue c env (eval c env); pure (ForInStep.yield ok) else pure (ForInStep.yield r)) Q E s := by
  have dead : ∀ {ifs : List Expr} {s : Shared} {Q : Bool → Shared → Prop}, Q false s → wpAny (model P.prog P.w) A (forIn ifs false fun c r => if r = true then do let ok ← isTrue c env (eval c env); pure (ForInStep.yield ok) else pure (ForInStep.yield r)) Q E s := by
    intro ifs
    induction ifs with
    | nil => intro s Q q; exact wpAny_pure q
    | cons c r ih => intro s Q q; rw [List.forIn_cons]; exact ih q
  intro ifs
  induction ifs with
  | nil => intro b s Q h e rm k; cases h; exact wpAny_pure (k s .refl)
  | cons c r ih =>
    intro b s Q h e rm k
    obtain ⟨c', hc, hr⟩ := h
    rw [List.forIn_cons]
    simp only [if_true]
    refine wpAny_bind (wpAny_bind (tr_of hc e rm fun s1 st1 e1 => wpAny_pure ?_))
    cases c' with
    | true => exact ih hr e1 rm fun s2 st2 => k s2 (st1.trans st2)
    | false => simp at hr; subst hr; exact dead (k s1 st1)

theorem compTurn_list' (elt target iter : Expr) (ifs : List Expr) (scope : Scope) (pos : Pos) (it acc : Value) (env : Env) :
    compTurn (.ListComp elt [⟨target, iter, ifs, 0⟩] scope pos) 0 it acc env = (do
      standAt iter.pos
      match ← pyNext it with
      | none => pure (.done .next)
      | some v =>
        letOwnedTupleGo target it v
        assign target env v
        let ok ← (forIn ifs true fun c r => if r = true then do let ok ← isTrue c env (eval c env); pure (ForInStep.yield ok) else pure (ForInStep.yield r))
        if ok then
          (do let _ ← call (.builtin "list.append") [acc, ← eval elt env])
        again (.compLoop (.ListComp elt [⟨target, iter, ifs, 0⟩] scope pos) 0 it acc env)) := by rfl

/-- the block's own loop -/
theorem comp_loop {elt tgt iter : Expr} {ifs : List Expr} {scope : Scope} {pos : Pos} {cenv : Env} {ρc : Rho} {it : Value} {D₀ : Addr} {J : List D → Shared → Prop} {p : D → Bool} {f : D → D} {β : D → Rho}
    (rm : Room A n) (I : Iter P tgt X Y it J) (hD : X D₀) (hDC : D₀ ≠ cenv.locals) (hYD : ¬ Y D₀) (hYC : ¬ Y cenv.locals) (hcl : ∀ n c, (n, c) ∈ cenv.cells → c ≠ D₀ ∧ ¬ Y c) :
    ∀ (ds : List D) (out : List D) (s : Shared) (ys : Array Value),
    (∀ d ∈ ds, BindT P sc tgt d (β d)) → (∀ d ∈ ds, TrL P n sc (β d ++ ρc) .And ifs (p d)) → (∀ d ∈ ds, p d = true → Ev P n sc (β d ++ ρc) elt (f d)) → (∀ d ∈ ds, ∀ q ∈ ρc, (β d ++ ρc).lookup q.1 = some q.2) →
    EnvAt P X cenv sc ρc s → J ds s → s.heap.IsList D₀ ys → RdL X s.heap out ys.toList → out.length + ds.length ≤ 1000000 →
    codeAny (model P.prog P.w) A (.compLoop (.ListComp elt [⟨tgt, iter, ifs, 0⟩] scope pos) 0 it (.ref D₀) cenv)
      (fun r s' => r = .ok .next ∧ Step P (fun b => Y b ∨ b = cenv.locals ∨ b = D₀) s s' ∧ (∃ m, s'.heap.Ns cenv.locals m) ∧ ∃ ys', s'.heap.IsList D₀ ys' ∧ RdL X s'.heap (out ++ (ds.filter p).map f) ys'.toList) s := by
  intro ds
  induction ds with
  | nil =>
    intro out s ys hb ht he hρ e j hl hr hz
    refine codeAny_of_tree ?_
    show wpAny _ A ((compTurn (.ListComp elt [⟨tgt, iter, ifs, 0⟩] scope pos) 0 it (.ref D₀) cenv).onRaise (fun x => do noteFrame x cenv; theTreesLotGoes x)) _ _ s
    refine wpAny_noted (wp_E0 ?_)
    rw [compTurn_list']
    refine wpAny_bind (wpAny_standAt (wpAny_bind (wpAny_mono (I.stop A s rm.1 e.at' j) (fun r s1 ⟨e1, st⟩ => ?_) fun _ _ x => x)))
    subst e1
    have ag : Agree X s.heap s1.heap := st.heap.keep.weak I.sub
    obtain ⟨m, hm, _⟩ := e.lcl
    refine wpAny_pure ⟨rfl, st.weak fun b y => .inl y, ⟨m, ns_agree st.heap.keep hYC hm⟩, ys, isList_agree st.heap.keep hYD hl, ?_⟩
    simpa using hr.mono ag fun _ y => y
  | cons d ds ih =>
    intro out s ys hb ht he hρ e j hl hr hz
    refine codeAny_of_tree ?_
    show wpAny _ A ((compTurn (.ListComp elt [⟨tgt, iter, ifs, 0⟩] scope pos) 0 it (.ref D₀) cenv).onRaise (fun x => do noteFrame x cenv; theTreesLotGoes x)) _ _ s
    refine wpAny_noted (wp_E0 ?_)
    rw [compTurn_list']
    refine wpAny_bind (wpAny_standAt (wpAny_bind (wpAny_mono (I.next A s d ds rm.1 e.at' j) (fun r s1 ⟨v, e1, h1⟩ => ?_) fun _ _ x => x)))
    subst e1
    refine wpAny_bind (wpAny_mono h1 (fun _ s2 ⟨st2, r2, j2⟩ => ?_) fun _ _ x => x)
    have seat : ∀ b, Y b → ¬ Seat cenv b := fun b y => by
      rintro (q | ⟨n, hm⟩)
      · exact hYC (q ▸ y)
      · exact (hcl n b hm).2 y
    have e2 : EnvAt P X cenv sc ρc s2 := e.stepY st2 I.sub seat
    refine wpAny_bind (wpAny_mono (hb d (.head _) X cenv A s2 ρc v e2 rm.1 r2) (fun _ s3 ⟨st3, e3⟩ => ?_) fun _ _ x => x)
    refine wpAny_bind (tests_sound (ht d (.head _)) e3 rm fun s4 st4 => ?_)
    have e4 := e3.step st4
    have e4' := e4.sub (hρ d (.head _))
    -- what has been changed so far
    have st14 : Step P (fun b => Y b ∨ b = cenv.locals ∨ b = D₀) s s4 := ((st2.weak fun b y => .inl y).trans (st3.weak fun b y => .inr (.inl y))).trans st4.any
    have nD : ¬ Y D₀ ∧ D₀ ≠ cenv.locals := ⟨hYD, hDC⟩
    have hl4 : s4.heap.IsList D₀ ys := isList_agree st4.heap.keep (fun y => y) (isList_agree st3.heap.keep hDC (isList_agree st2.heap.keep hYD hl))
    have ag14 : Agree X s.heap s4.heap := st14.heap.keep.weak fun b y => y.elim (I.sub b) fun y => y.elim (fun q => q ▸ e.xl) fun q => q ▸ hD
    have hr4 : RdL X s4.heap out ys.toList := hr.mono ag14 fun _ y => y
    have j4 : J ds s4 := I.frame E0 s3 s4 ds e3.at' (I.frame _ s2 s3 ds e2.at' j2 st3 (fun b q y => hYC (q ▸ y)) fun b q => q ▸ e.xl) st4 (fun b y => y.elim) fun b y => y.elim
    cases hp : p d with
    | false =>
      refine wpAny_pure ⟨rfl, codeAny_mono (ih out s4 ys (fun d hd => hb d (.tail _ hd)) (fun d hd => ht d (.tail _ hd)) (fun d hd => he d (.tail _ hd)) (fun d hd => hρ d (.tail _ hd)) e4' j4 hl4 hr4 (by simp at hz; (clear hDC hYD hYC nD; omega))) fun r s' ⟨q1, q2, q3, q4⟩ => ?_⟩
      refine ⟨q1, st14.trans q2, q3, ?_⟩
      rw [List.filter_cons_of_neg (by simp [hp])]; exact q4
    | true =>
      simp only [if_true]
      refine wpAny_bind (wpAny_bind (ev_of (he d (.head _) hp) e4 rm fun x s5 st5 e5 r5 => wpAny_bind ?_))
      have hl5 : s5.heap.IsList D₀ ys := isList_agree st5.heap.keep (fun y => y) hl4
      have hr5 : RdL X s5.heap out ys.toList := hr4.step st5
      have hlen := rdL_length hr4
      refine wpAny_list_append hl5 (fun h6 hl6 hs6 => wpAny_pure (wpAny_pure ⟨rfl, ?_⟩)) (by rw [sizeLine_eq]; simp at hlen hz; (clear hDC hYD hYC nD; omega))
      obtain ⟨oD, hoD, hcD, hdD⟩ := id hl5
      have st6 : HStep P (fun b => b = D₀) s5.heap h6 := HStep.update e5.at' hD (notTab_of e5.at' hoD (nt_cls hcD)) hs6
      have ag6 : Agree X s5.heap h6 := st6.keep.weak fun b q => q ▸ hD
      have e6 : EnvAt P X cenv sc ρc { s5 with heap := h6 } := (e4'.step st5).stepY (Y := fun b => b = D₀) (step_heap st6) (fun b q => q ▸ hD) fun b q => by
        subst q
        rintro (q | ⟨n, hm⟩)
        · exact hDC q
        · exact (hcl n _ hm).1 rfl
      have j6 : J ds { s5 with heap := h6 } := I.frame _ s5 _ ds e5.at' (I.frame E0 s4 s5 ds e4.at' j4 st5 (fun b y => y.elim) fun b y => y.elim) (step_heap st6) (fun b q y => hYD (q ▸ y)) fun b q => q ▸ hD
      have hr6 : RdL X h6 (out ++ [f d]) (ys.push x).toList := by
        rw [Array.toList_push]
        exact rdL_append (hr5.mono ag6 fun _ y => y) (by simp only [RdL]; exact ⟨x, [], rfl, r5.mono ag6 fun _ y => y, rfl⟩)
      refine codeAny_mono (ih (out ++ [f d]) _ (ys.push x) (fun d hd => hb d (.tail _ hd)) (fun d hd => ht d (.tail _ hd)) (fun d hd => he d (.tail _ hd)) (fun d hd => hρ d (.tail _ hd)) e6 j6 hl6 hr6 (by simp at hz ⊢; (clear hDC hYD hYC nD; omega))) fun r s' ⟨q1, q2, q3, q4⟩ => ?_
      refine ⟨q1, ((st14.trans st5.any).trans (step_heap (st6.weak fun b q => .inr (.inr q)))).trans q2, q3, ?_⟩
      rw [List.filter_cons_of_pos hp]
      simpa using q4
end
end Mine
end
section
open PySem PySem.W PySem.Calls PyProof.Rows
set_option Elab.async false
set_option maxRecDepth 100000
set_option linter.unusedVariables false
namespace Mine

/-- what a block takes along: its free names, all cells or free names of the frame around, and how they are read -/
noncomputable def Caps (scope sc : Scope) (ρ ρc : Rho) : Prop :=
  (scope.names.filterMap fun (x, k) => if k == .free then some x else none) = ρc.map (·.1) ∧
  (∀ p ∈ ρc, ρ.lookup p.1 = some p.2) ∧
  ((ρc.map (·.1)).all fun x => (sc.names.lookup x == some .cell || sc.names.lookup x == some .free) && ((compSc scope sc).names.lookup x == some .cell || (compSc scope sc).names.lookup x == some .free)) = true ∧
  (scope.names.all fun (x, k) => k != .cell) = true ∧ scope.kind = .function ∧
  (scope.names.all fun (x, k) => k != .local || scope.names.lookup x == some .local) = true

section
variable {P : Prm} {X X' Y : ASet} {env : Env} {sc scope : Scope} {ρ ρc : Rho} {s s' : Shared} {A : Around} {n : Nat} {h h' : Heap}

theorem caps_free (c : Caps scope sc ρ ρc) (e : EnvAt P X env sc ρ s) {x : Str} (hx : (x, NameKind.free) ∈ scope.names) : ∃ d, (x, d) ∈ ρc ∧ ∃ a v, env.cells.lookup x = some a ∧ s.heap.IsCell a (some v) ∧ Rd X s.heap d v := by
  obtain ⟨c1, c2, c3, _⟩ := c
  have : x ∈ ρc.map (·.1) := by rw [← c1]; exact List.mem_filterMap.mpr ⟨(x, .free), hx, by simp⟩
  obtain ⟨⟨y, d⟩, hm, rfl⟩ := List.mem_map.mp this
  refine ⟨d, hm, ?_⟩
  have k := List.all_eq_true.mp c3 y (List.mem_map.mpr ⟨_, hm, rfl⟩)
  simp only [Bool.and_eq_true, Bool.or_eq_true, beq_iff_eq] at k
  exact e.cel y d (c2 _ hm) k.1

/-- the block's own frame -/
theorem cenv_at (c : Caps scope sc ρ ρc) (e : EnvAt P X env sc ρ s) {cenv : Env} {m : Str → Option Value} (hs : cenv.scope = compSc scope sc) (hg : cenv.globals = env.globals) (hb : cenv.builtins = env.builtins)
    (hc : cenv.cells = closOf env.cells scope.names []) (hl : X cenv.locals) (hm : s.heap.Ns cenv.locals m) (hne : ∀ n c, (n, c) ∈ env.cells → c ≠ cenv.locals) : EnvAt P X cenv (compSc scope sc) ρc s := by
  have c' := c
  obtain ⟨c1, c2, c3, c4, c5, _⟩ := c
  have kn : ∀ x d, ρc.lookup x = some d → (compSc scope sc).names.lookup x = some .cell ∨ (compSc scope sc).names.lookup x = some .free := fun x d hx => by
    have k := List.all_eq_true.mp c3 x (List.mem_map.mpr ⟨_, mem_lookup hx, rfl⟩)
    simp only [Bool.and_eq_true, Bool.or_eq_true, beq_iff_eq] at k
    exact k.2
  refine ⟨e.at', hs, c5, hg.trans e.hg, hb.trans e.hb, hl, ⟨m, hm, fun x d hx hk => ?_⟩, fun x d hx _ => ?_, fun x d hx => .inr (kn x d hx), fun n a hma => ?_⟩
  · rcases kn x d hx with q | q <;> (rw [hk] at q; cases q)
  · have hxm := mem_lookup hx
    have : x ∈ scope.names.filterMap fun (x, k) => if k == .free then some x else none := by rw [c1]; exact List.mem_map.mpr ⟨_, hxm, rfl⟩
    obtain ⟨⟨y, k⟩, hy, hyk⟩ := List.mem_filterMap.mp this
    by_cases hkf' : k = .free
    · subst hkf'
      have hyx : y = x := by simpa using hyk
      subst hyx
      have k := List.all_eq_true.mp c3 y (List.mem_map.mpr ⟨_, hxm, rfl⟩)
      simp only [Bool.and_eq_true, Bool.or_eq_true, beq_iff_eq] at k
      obtain ⟨a, v, h1, h2, h3⟩ := e.cel y d (c2 _ hxm) k.1
      exact ⟨a, v, by rw [hc]; exact closOf_lookup h1 hy, h2, h3⟩
    · simp [hkf'] at hyk
  · rw [hc] at hma
    rcases closOf_mem _ _ n a hma with q | q
    · obtain ⟨h1, h2, h3⟩ := e.xc n a (mem_lookup q)
      exact ⟨h1, hne _ _ (mem_lookup q), h3⟩
    · cases q

theorem At.more2 {h₀ : Heap} (a₀ : At P X h₀) (a : At P X h) {Z : ASet} (hz : ∀ c, Z c → h₀.objs.size ≤ c ∧ ∃ o, h.get? c = some o ∧ NC o) : At P (Un X Z) h :=
  ⟨a.low, fun b x => x.elim (a.xlow b) fun z => by
      cases q : P.G.get? b with
      | none => rfl
      | some o' => exact absurd (Heap.lt_size (a₀.low _ _ q)) (Nat.not_lt.mpr (hz b z).1),
    fun t ht => by
      obtain ⟨y0, y⟩ := a.tab t ht
      refine ⟨.inl y0, y.elim .inl fun ⟨c', hx, e, o', vs, q, e1, e2, r⟩ => .inr ⟨c', fun q => q.elim hx fun q => ?_, e, o', vs, q, e1, e2, r⟩⟩
      obtain ⟨_, o, ho, hn⟩ := hz c' q
      rw [ho] at e1; cases e1; exact hn _ e2 r.1,
    fun b x => x.elim (a.below b) fun z => let ⟨_, o, ho, _⟩ := hz b z; Heap.lt_size ho⟩

/-- a block's run, from the first iterable to its last turn -/
theorem comp_run {elt tgt iter : Expr} {ifs : List Expr} {pos : Pos} {ds : List D} {p : D → Bool} {f : D → D} {β : D → Rho} {E : Value → Shared → Prop} {R : Value → Env → Result → Shared → Prop}
    (hit : EvIt P n sc ρ tgt iter ds) (cp : Caps scope sc ρ ρc) (hb : ∀ d ∈ ds, BindT P (compSc scope sc) tgt d (β d)) (ht : ∀ d ∈ ds, TrL P n (compSc scope sc) (β d ++ ρc) .And ifs (p d))
    (he : ∀ d ∈ ds, p d = true → Ev P n (compSc scope sc) (β d ++ ρc) elt (f d)) (hρ : ∀ d ∈ ds, ∀ q ∈ ρc, (β d ++ ρc).lookup q.1 = some q.2) (hsz : ds.length ≤ 1000000) (e : EnvAt P X env sc ρ s) (rm : Room A n)
    (hR : ∀ D₀ cenv s', Step P E0 s s' → EnvAt P X env sc ρ s' → Rd (Un X fun b => b = cenv.locals) s'.heap (.list ((ds.filter p).map f)) (.ref D₀) → s.heap.objs.size ≤ D₀ → s.heap.objs.size ≤ cenv.locals → D₀ ≠ cenv.locals → (∃ m, s'.heap.Ns cenv.locals m) → R (.ref D₀) cenv (.ok .next) s') :
    wpAny (model P.prog P.w) A (eval iter env) (fun x s₁ => wpAny (model P.prog P.w) A (pyIter x) (fun it s₂ => wpAny (model P.prog P.w) A (newList []) (fun acc s₃ =>
      wpAny (model P.prog P.w) A (newFunctionEnv scope env.globals (closOf env.cells scope.names []) [] env.qual none .none (some env)) (fun cenv s₄ =>
        codeAny (model P.prog P.w) A (.compStart (.ListComp elt [⟨tgt, iter, ifs, 0⟩] scope pos) 0 it acc { cenv with scope := relabel scope env }) (R acc cenv) s₄) E s₃) E s₂) E s₁) E s := by
  refine wpAny_mono (hit X env A s e rm) (fun x s1 h1 => wpAny_mono h1 (fun it s2 ⟨Y, st2, hY, a2, hJ⟩ => ?_) fun _ _ y => y.elim) fun _ _ y => y.elim
  refine wpAny_newObj_type (T := "list") ?_ (by show ([] : List Value).toArray.size ≤ sizeLine; rw [sizeLine_eq]; simp)
  refine wpAny_newFunctionEnv (fun x hx => ?_) (by simp) (fun h4 hns hsb => ?_) cp.2.2.2.2.1
  · have := List.all_eq_true.mp cp.2.2.2.1 x hx
    intro q; obtain ⟨y, k⟩ := x; simp only at q; subst q; simp at this
  dsimp only at hns hsb ⊢
  -- the list D₀, the frame C
  have hsz3 : (s2.heap.push { cls := .type "list", dict := none, data := .seq ([] : List Value).toArray }).objs.size = s2.heap.objs.size + 1 := Heap.size_push ..
  rw [hsz3] at hns hsb ⊢
  have k4 : ∀ b o, s2.heap.get? b = some o → h4.get? b = some o := fun b o eb =>
    hsb.extBut b o (Nat.ne_of_lt (Nat.lt_succ_of_lt (Heap.lt_size eb))) (Heap.get?_push_of_some _ (Heap.get?_push_of_some _ eb))
  have sz4 : h4.objs.size = s2.heap.objs.size + 2 := by rw [hsb.1, Heap.size_push, hsz3]
  have st4 : Step P E0 s2 { s2 with heap := h4, toks := s2.toks + ([] : List (Str × Value)).length } := step_heap (.of_keeps k4 (by (clear hsz hsz3; omega)))
  have hDl : h4.IsList s2.heap.objs.size #[] := ⟨_, hsb.extBut _ _ (Nat.ne_of_lt (Nat.lt_succ_self _)) (Heap.get?_push_of_some _ (Heap.get?_push_size _ rfl)), rfl, _, rfl⟩
  obtain ⟨oD, hoD, hcD, _⟩ := id hDl
  obtain ⟨oC, esC, epC, hoC, hdC, _⟩ := id hns
  have a4 : At P (Un (Un X Y) fun b => b = s2.heap.objs.size ∨ b = s2.heap.objs.size + 1) h4 := a2.more2 (a2.step st4.heap) fun c hc => by
    rcases hc with rfl | rfl
    · exact ⟨Nat.le_refl _, _, hoD, nc_cls hcD⟩
    · exact ⟨Nat.le_succ _, _, hoC, nc_dict hdC⟩
  obtain ⟨J, I, j⟩ := hJ (fun b => b = s2.heap.objs.size ∨ b = s2.heap.objs.size + 1) _ st4 (fun b w => w.elim (fun w => Nat.le_of_eq w.symm) fun w => w ▸ Nat.le_succ _) a4
  have eX : EnvAt P (Un (Un X Y) fun b => b = s2.heap.objs.size ∨ b = s2.heap.objs.size + 1) env sc ρ { s2 with heap := h4, toks := s2.toks + ([] : List (Str × Value)).length } :=
    (e.grow st2 hY a2).grow st4 (fun b w => w.elim (fun w => Nat.le_of_eq w.symm) fun w => w ▸ Nat.le_succ _) a4
  have oldlt : ∀ b, X b → b < s.heap.objs.size := e.at'.below
  have ylt : ∀ b, Y b → b < s2.heap.objs.size := fun b y => a2.below b (.inr y)
  have clt : ∀ n c, (n, c) ∈ env.cells → c < s.heap.objs.size := fun n c hm => oldlt c (e.xc n c hm).1
  have s12 := st2.heap.size
  have eC := cenv_at (cenv := { newEnv scope (s2.heap.objs.size + 1) env.globals (closOf env.cells scope.names []) env.qual none .none (some env) builtinsNs with scope := relabel scope env }) cp eX (relabel_eq e.hsc) rfl rfl rfl (.inr (.inr rfl)) hns
    fun n c hm => Nat.ne_of_lt (Nat.lt_succ_of_lt (Nat.lt_of_lt_of_le (clt n c hm) s12))
  have loop := comp_loop (elt := elt) (tgt := tgt) (iter := iter) (ifs := ifs) (scope := scope) (pos := pos) (p := p) (f := f) (β := β) (D₀ := s2.heap.objs.size) rm I (.inr (.inl rfl)) (Nat.ne_of_lt (Nat.lt_succ_self _))
    (fun y => Nat.lt_irrefl _ (ylt _ y)) (fun y => Nat.lt_irrefl _ (Nat.lt_trans (Nat.lt_succ_self _) (ylt _ y)))
    (fun n c hm => by
      rcases closOf_mem _ _ n c hm with q | q
      · have := clt n c (mem_lookup q)
        exact ⟨Nat.ne_of_lt (Nat.lt_of_lt_of_le this s12), fun y => Nat.lt_irrefl _ (Nat.lt_of_lt_of_le this (hY c y))⟩
      · cases q) ds [] _ #[] hb ht he hρ eC j hDl (by simp [RdL]) (by simpa using hsz)
  have fin := codeAny_mono (R' := R (.ref s2.heap.objs.size) (newEnv scope (s2.heap.objs.size + 1) env.globals (closOf env.cells scope.names []) env.qual none .none (some env) builtinsNs)) loop fun r s' ⟨q1, q2, q3, ys', q4, q5⟩ => by
    subst q1
    have stA : Step P E0 s s' := (st2.trans st4).own (q2.weak (Y' := fun b => s.heap.objs.size ≤ b) fun b y => by
      rcases y with y | rfl | rfl
      · exact hY b y
      · exact Nat.le_succ_of_le s12
      · exact s12) fun b y => y
    refine hR _ _ s' stA (e.step stA) ?_ s12 (Nat.le_succ_of_le s12) (Nat.ne_of_lt (Nat.lt_succ_self _)) q3
    simp only [Rd]
    exact ⟨_, ys', rfl, fun x => x.elim (fun x => Nat.lt_irrefl _ (Nat.lt_of_lt_of_le (oldlt _ x) s12)) fun q => Nat.ne_of_lt (Nat.lt_succ_self _) q, q4, by simpa using q5.mono Agree.refl fun b x => x.elim (fun x => .inl (.inl x)) fun q => .inr (.inr q)⟩
  exact codeAny_compStart_list fin (I.self _ _ _ _ _ j fin)
end
end Mine
end
section
open PySem PySem.W PySem.Calls PyProof.Rows
set_option Elab.async false
set_option maxRecDepth 100000
set_option linter.unusedVariables false
namespace Mine

section
variable {P : Prm} {X X' Y Z : ASet} {env : Env} {sc scope : Scope} {ρ ρ' ρc : Rho} {s s' s₀ : Shared} {A : Around} {n : Nat} {h h' : Heap}

/-- a change in a frame that is no one's any more -/
theorem drop_frame {s₁ : Shared} {C : Addr} {d : D} {v : Value} (e₀ : EnvAt P X env sc ρ s) (st : Step P E0 s s₁) (hC : s.heap.objs.size ≤ C) {m} (hm : s₁.heap.Ns C m) (hs : Heap.SameBut C s₁.heap h') (r : Rd (Un X fun b => b = C) s₁.heap d v) :
    Step P E0 s { s₁ with heap := h' } ∧ Rd X h' d v := by
  have a1 := e₀.at'.step st.heap
  obtain ⟨oC, esC, epC, hoC, hdC, r'⟩ := id hm
  have a2 : At P (Un X fun b => b = C) s₁.heap := e₀.at'.more a1 hC hoC (nc_dict hdC)
  have hst : HStep P (fun b => b = C) s₁.heap h' := HStep.update a2 (.inr rfl) (notTab_ns a2 hm) hs
  exact ⟨st.own (step_heap hst) fun b q => q ▸ hC, r.mono (hst.keep.weak fun b q => .inr q) fun b x => .inl x⟩

theorem ev_comp {elt tgt iter : Expr} {ifs : List Expr} {pos : Pos} {ds : List D} {p : D → Bool} {f : D → D} {β : D → Rho}
    (hit : EvIt P n sc ρ tgt iter ds) (cp : Caps scope sc ρ ρc) (hb : ∀ d ∈ ds, BindT P (compSc scope sc) tgt d (β d)) (ht : ∀ d ∈ ds, TrL P n (compSc scope sc) (β d ++ ρc) .And ifs (p d))
    (he : ∀ d ∈ ds, p d = true → Ev P n (compSc scope sc) (β d ++ ρc) elt (f d)) (hρ : ∀ d ∈ ds, ∀ q ∈ ρc, (β d ++ ρc).lookup q.1 = some q.2) (hsz : ds.length ≤ 1000000)
    (hfold : ∀ env x, foldedSetIterable iter env x = pure x := by intro _ _; rfl) : Ev P n sc ρ (.ListComp elt [⟨tgt, iter, ifs, 0⟩] scope pos) (.list ((ds.filter p).map f)) := fun X env A s e rm => by
  rw [eval_ListComp]
  refine wpAny_comprehension_free (g := ⟨tgt, iter, ifs, 0⟩) (gs := []) rfl (hfold env) (closureFor_eq fun x hx => ?_) cp.2.2.2.2.1 (fun x hx hl => ?_) (comp_run hit cp hb ht he hρ hsz e rm fun D₀ cenv s' st e' r h1 h2 h3 ⟨m, hm⟩ => ?_)
  · obtain ⟨d, _, a, v, ha, _⟩ := caps_free cp e hx; rw [ha]; rfl
  · have := List.all_eq_true.mp cp.2.2.2.2.2 x hx
    obtain ⟨y, k⟩ := x; simp only at hl; subst hl; simpa using this
  · exact ⟨m, hm, fun h' hs => drop_frame e st h2 hm hs r⟩

theorem Step.ownZ {s₁ s₂ : Shared} (a : Step P Z s s₁) (b : Step P Y s₁ s₂) (hy : ∀ q, Y q → Z q ∨ s.heap.objs.size ≤ q) : Step P Z s s₂ :=
  ⟨⟨fun q o z hn e => b.heap.keep q o (fun y => (hy q y).elim z fun y => Nat.lt_irrefl _ (Nat.lt_of_lt_of_le (Heap.lt_size e) y)) hn (a.heap.keep q o z hn e), fun q o e e1 => b.heap.low q o e (a.heap.low q o e e1),
    fun X t ht hx k => b.heap.tab X t ht (fun q y => Nat.lt_of_lt_of_le (hx q y) a.heap.size) (a.heap.tab X t ht hx k), Nat.le_trans a.heap.size b.heap.size⟩, b.os.trans a.os, fun i x e => b.gens i x (a.gens i x e), fun e => b.bare (a.bare e)⟩
/-- a smaller mutable set -/
theorem EnvAt.less {s₁ : Shared} (e : EnvAt P X' env sc ρ s₁) (hs : ∀ b, X b → X' b) (a : EnvAt P X env sc ρ' s) : EnvAt P X env sc ρ s₁ := by
  obtain ⟨m, hm, hl⟩ := e.lcl
  exact ⟨e.at'.less hs fun t ht => (a.at'.tab t ht).1, e.hsc, e.hk, e.hg, e.hb, a.xl, ⟨m, hm, fun x d p q => let ⟨v, r1, r2⟩ := hl x d p q; ⟨v, r1, r2.mono .refl hs⟩⟩,
    fun x d p q => let ⟨c, v, r1, r2, r3⟩ := e.cel x d p q; ⟨c, v, r1, r2, r3.mono .refl hs⟩, e.knd, fun n c hm => let ⟨p, q⟩ := e.xc n c hm; ⟨(a.xc n c hm).1, q⟩⟩

/-- a def's frame, as its statements go on: s₀ where it began, Z what it may change -/
structure Sta (P : Prm) (Z : ASet) (s₀ : Shared) (X : ASet) (env : Env) (sc : Scope) (ρ : Rho) (s : Shared) : Prop where
  e : EnvAt P X env sc ρ s
  st : Step P Z s₀ s
  zl : Z env.locals
  zc : ∀ x c, sc.names.lookup x = some .cell → env.cells.lookup x = some c → Z c
  zx : ∀ b, Z b → X b
  apart : env.cells.Pairwise fun x y => x.2 ≠ y.2
  own : ∀ x, sc.names.lookup x = some .cell → ∃ c, env.cells.lookup x = some c

theorem Sta.step (a : Sta P Z s₀ X env sc ρ s) (st : Step P E0 s s') : Sta P Z s₀ X env sc ρ s' := ⟨a.e.step st, a.st.trans st.any, a.zl, a.zc, a.zx, a.apart, a.own⟩
theorem Sta.sub (a : Sta P Z s₀ X env sc ρ s) (hs : ∀ p ∈ ρ', ρ.lookup p.1 = some p.2) : Sta P Z s₀ X env sc ρ' s := ⟨a.e.sub hs, a.st, a.zl, a.zc, a.zx, a.apart, a.own⟩
/-- rooted anew, and back -/
theorem Sta.root (a : Sta P Z s₀ X env sc ρ s) : Sta P Z s X env sc ρ s := ⟨a.e, .refl, a.zl, a.zc, a.zx, a.apart, a.own⟩
theorem Sta.back (a : Sta P Z s₀ X env sc ρ s) (b : Sta P Z s X env sc ρ' s') : Sta P Z s₀ X env sc ρ' s' := ⟨b.e, a.st.trans b.st, b.zl, b.zc, b.zx, b.apart, b.own⟩

/-- a name of the frame is stored -/
theorem Sta.store {x : Str} {d : D} {v : Value} {E : Value → Shared → Prop} {Q : Unit → Shared → Prop} (a : Sta P Z s₀ X env sc ρ s) (hx : sc.names.lookup x = some .local ∨ sc.names.lookup x = some .cell) (r : Rd X s.heap d v)
    (k : ∀ s', Step P (Seat env) s s' → Sta P Z s₀ X env sc ((x, d) :: ρ) s' → Q () s') : wpAny (model P.prog P.w) A (storeName env x v) Q E s := by
  rcases hx with hx | hx
  · exact store_local a.e hx r fun s' st e' => k s' (st.weak fun b q => .inl q) ⟨e', a.st.trans (st.weak fun b q => q ▸ a.zl), a.zl, a.zc, a.zx, a.apart, a.own⟩
  · obtain ⟨c, hc⟩ := a.own x hx
    have zc := a.zc x c hx hc
    obtain ⟨xc, nl, v₀, hv₀⟩ := a.e.xc x c (mem_lookup hc)
    refine wpAny_storeName_cell (kind_eq a.e) ((kindOf_eq a.e x).trans hx) hc hv₀ fun h' hv hs => ?_
    obtain ⟨o, ho, hd⟩ := hv₀
    have st : HStep P (fun b => b = c) s.heap h' := HStep.update a.e.at' xc (notTab_of a.e.at' ho (nt_cell hd)) hs
    have ag : Agree X s.heap h' := st.keep.weak fun b q => q ▸ xc
    refine k _ (step_heap (st.weak fun b q => .inr ⟨x, q ▸ mem_lookup hc⟩)) ⟨⟨a.e.at'.step st, a.e.hsc, a.e.hk, a.e.hg, a.e.hb, a.e.xl, ?_, fun y d' hl hk => ?_, fun y d' hl => ?_, fun n c' hm => ?_⟩, a.st.trans (step_heap (st.weak fun b q => q ▸ zc)), a.zl, a.zc, a.zx, a.apart, a.own⟩
    · obtain ⟨m, hm, hl⟩ := a.e.lcl
      refine ⟨m, hm.sameBut hs (Ne.symm nl), fun y d' hy hk => ?_⟩
      have hyx : y ≠ x := fun q => by subst q; rw [hx] at hk; cases hk
      rw [lookup_cons_ne hyx] at hy
      obtain ⟨v', p, q⟩ := hl y d' hy hk
      exact ⟨v', p, q.mono ag fun _ y => y⟩
    · by_cases hyx : y = x
      · subst hyx
        rw [lookup_cons_eq] at hl; cases hl
        exact ⟨c, v, hc, hv, r.mono ag fun _ y => y⟩
      · rw [lookup_cons_ne hyx] at hl
        obtain ⟨c', v', p, q, r'⟩ := a.e.cel y d' hl hk
        have hcc : c' ≠ c := fun q => hyx (name_of_addr a.apart (mem_lookup p) (q ▸ mem_lookup hc))
        exact ⟨c', v', p, q.sameBut hs hcc, r'.mono ag fun _ y => y⟩
    · by_cases hyx : y = x
      · subst hyx; exact .inr (.inl hx)
      · rw [lookup_cons_ne hyx] at hl; exact a.e.knd y d' hl
    · obtain ⟨p, q, v', hv'⟩ := a.e.xc n c' hm
      by_cases hcc : c' = c
      · subst hcc; exact ⟨p, q, _, hv⟩
      · exact ⟨p, q, v', hv'.sameBut hs hcc⟩

noncomputable abbrev Stored (sc : Scope) (x : Str) : Prop := sc.names.lookup x = some .local ∨ sc.names.lookup x = some .cell

/-- x = e -/
theorem st_assign {x : Str} {e : Expr} {px pos : Pos} {d : D} {E : Value → Shared → Prop} {Q : Flow → Shared → Prop} (a : Sta P Z s₀ X env sc ρ s) (rm : Room A n) (he : Ev P n sc ρ e d) (hx : Stored sc x)
    (k : ∀ s', Step P (Seat env) s s' → Sta P Z s₀ X env sc ((x, d) :: ρ) s' → Q .next s') (hsw : ∀ env, swapsWith e (some (.Name x px)) pos.line env = pure false := by intro _; rfl) :
    wpAny (model P.prog P.w) A (exec (.Assign [.Name x px] e pos) env) Q E s :=
  wpAny_Assign_Name (ev_of he a.e rm fun v s1 st1 e1 r1 => (a.step st1).store hx r1 fun s2 st2 a2 => k s2 (st1.any.trans st2) a2) (hsw env)

/-- x = [..], exchanged stores -/
theorem st_assign_comp {x : Str} {px spos : Pos} {elt tgt iter : Expr} {ifs : List Expr} {pos : Pos} {ds : List D} {p : D → Bool} {f : D → D} {β : D → Rho} {E : Value → Shared → Prop} {Q : Flow → Shared → Prop} (a : Sta P Z s₀ X env sc ρ s) (rm : Room A n)
    (hit : EvIt P n sc ρ tgt iter ds) (cp : Caps scope sc ρ ρc) (hb : ∀ d ∈ ds, BindT P (compSc scope sc) tgt d (β d)) (ht : ∀ d ∈ ds, TrL P n (compSc scope sc) (β d ++ ρc) .And ifs (p d))
    (he : ∀ d ∈ ds, p d = true → Ev P n (compSc scope sc) (β d ++ ρc) elt (f d)) (hρ : ∀ d ∈ ds, ∀ q ∈ ρc, (β d ++ ρc).lookup q.1 = some q.2) (hsz : ds.length ≤ 1000000)
    (hx : sc.names.lookup x = some .local)
    (k : ∀ s', Sta P Z s₀ X env sc ((x, .list ((ds.filter p).map f)) :: ρ) s' → Q .next s')
    (hsw : swapsWith (.ListComp elt [⟨tgt, iter, ifs, 0⟩] scope pos) (some (.Name x px)) spos.line env = pure true)
    (hfold : ∀ env x, foldedSetIterable iter env x = pure x := by intro _ _; rfl) :
    wpAny (model P.prog P.w) A (exec (.Assign [.Name x px] (.ListComp elt [⟨tgt, iter, ifs, 0⟩] scope pos) spos) env) Q E s := by
  rw [exec_Assign_Name_used _ _ _ _ hsw]
  refine wpAny_bind (wpAny_standAt (wpAny_bind ?_))
  show wpAny _ A (do let _ ← comprehension (.ListComp elt [⟨tgt, iter, ifs, 0⟩] scope pos) scope env _ (newList []) false (eval iter env) (some (assign (.Name x px) env))) _ _ s
  refine wpAny_bind (wpAny_mono (wpAny_comprehension_free (E := E) (Q := fun _ s' => Q .next s') (g := ⟨tgt, iter, ifs, 0⟩) (gs := []) rfl (hfold env) (closureFor_eq fun x hx => ?_) cp.2.2.2.2.1 (fun x hx hl => ?_)
    (comp_run hit cp hb ht he hρ hsz a.e rm fun D₀ cenv s' st e' r h1 h2 h3 ⟨m, hm⟩ => ?_)) (fun _ s' q => wpAny_pure (wpAny_pure q)) fun _ _ y => y)
  · obtain ⟨d, _, c, v, hc, _⟩ := caps_free cp a.e hx; rw [hc]; rfl
  · have := List.all_eq_true.mp cp.2.2.2.2.2 x hx
    obtain ⟨y, k⟩ := x; simp only at hl; subst hl; simpa using this
  · have a1 := a.e.at'.step st.heap
    obtain ⟨oC, esC, epC, hoC, hdC, r'⟩ := id hm
    have a2 : At P (Un X fun b => b = cenv.locals) s'.heap := a.e.at'.more a1 h2 hoC (nc_dict hdC)
    have eG : EnvAt P (Un X fun b => b = cenv.locals) env sc ρ s' := a.e.grow st (fun b q => q ▸ h2) a2
    have aG : Sta P Z s₀ (Un X fun b => b = cenv.locals) env sc ρ s' := ⟨eG, a.st.trans st.any, a.zl, a.zc, fun b z => .inl (a.zx b z), a.apart, a.own⟩
    have nZ : ¬ Z cenv.locals := fun z => Nat.lt_irrefl _ (Nat.lt_of_lt_of_le (a.e.at'.below _ (a.zx _ z)) h2)
    refine wpAny_assign_Name (aG.root.store (.inl hx) r fun s2 _ b2 => ?_)
    have hm2 := ns_agree b2.st.heap.keep nZ hm
    refine ⟨m, hm2, fun h' hs => k _ ?_⟩
    have hst : HStep P (fun b => b = cenv.locals) s2.heap h' := HStep.update b2.e.at' (.inr rfl) (notTab_ns b2.e.at' hm2) hs
    have e3 := b2.e.stepY (s' := { s2 with heap := h' }) (step_heap hst) (fun b q => .inr q) fun b q => by
      subst q
      rintro (q | ⟨n, hc⟩)
      · exact nZ (q ▸ a.zl)
      · exact Nat.lt_irrefl _ (Nat.lt_of_lt_of_le (a.e.at'.below _ (a.e.xc n _ hc).1) h2)
    exact ⟨e3.less (fun b x => .inl x) a.e, a.st.trans ((st.any.trans b2.st).ownZ (step_heap hst) fun b q => .inr (q ▸ h2)), a.zl, a.zc, a.zx, a.apart, a.own⟩
end
end Mine
end
section
open PySem PySem.W PySem.Calls PyProof.Rows
set_option Elab.async false
set_option maxRecDepth 100000
set_option linter.unusedVariables false
namespace Mine

/-- a def of the text, by its statement -/
noncomputable def defParams : Stmt → Arguments
  | .FunctionDef _ a _ _ _ _ _ _ _ _ => a
  | _ => default
noncomputable def defBody : Stmt → List Stmt
  | .FunctionDef _ _ b _ _ _ _ _ _ _ => b
  | _ => []
noncomputable def defScope : Stmt → Scope
  | .FunctionDef _ _ _ _ _ _ sc _ _ _ => sc
  | _ => default

/-- the function object at a: it runs d -/
structure FnObj (P : Prm) (a : Addr) (d : Stmt) (fd : FuncData) : Prop where
  look : ∃ oc od osl, P.K.lookup a = some ⟨oc, od, .func fd, osl⟩
  params : fd.params = defParams d
  body : fd.body = .stmts (defBody d)
  scope : fd.scope = defScope d
  clo : fd.closure = []
  globals : fd.globals = mainGlobals
  builtins : fd.builtins = builtinsNs
  code : codeIn P.K fd.code fd.qualname = true
  dv : fd.defaults = .none
  kd : fd.kwdefaults = .none

/-- parameters by place alone -/
noncomputable def plainPar (a : Arguments) : Bool := a.posonlyargs.isEmpty && a.vararg.isNone && a.kwonlyargs.isEmpty && a.kwarg.isNone && a.defaults.isEmpty

section
variable {P : Prm} {X X' Y Z : ASet} {env : Env} {sc scope : Scope} {ρ ρ' ρc : Rho} {s s' s₀ : Shared} {A : Around} {n : Nat} {h h' : Heap}

theorem bindL_not {k : Str → Option NameKind} : ∀ {binds : List (Str × Value)} {m : Str → Option Value} {x : Str}, (∀ p ∈ binds, p.1 ≠ x) → bindL k binds m x = m x
  | [], _, _, _ => rfl
  | (y, v) :: r, m, x, hn => by
    unfold bindL
    rw [bindL_not fun p hp => hn p (.tail _ hp)]
    have : x ≠ y := fun q => hn _ (.head _) q.symm
    split <;> simp [this]
theorem bindC_not {k : Str → Option NameKind} : ∀ {binds : List (Str × Value)} {m : Str → Option Value} {x : Str}, (∀ p ∈ binds, p.1 ≠ x) → bindC k binds m x = m x
  | [], _, _, _ => rfl
  | (y, v) :: r, m, x, hn => by
    unfold bindC
    rw [bindC_not fun p hp => hn p (.tail _ hp)]
    have : x ≠ y := fun q => hn _ (.head _) q.symm
    split <;> simp [this]
theorem mem_zip_fst {α : Type} : ∀ {xs : List Str} {vs : List α} {p : Str × α}, p ∈ xs.zip vs → p.1 ∈ xs := fun h => (List.of_mem_zip h).1

theorem binds_rd : ∀ {xs : List Str} {ds : List D} {vs : List Value} {x : Str} {d : D}, xs.Nodup → RdL X h ds vs → (xs.zip ds).lookup x = some d →
    ∃ v, Rd X h d v ∧ ∀ (k : Str → Option NameKind) (m : Str → Option Value), (k x = some .local → bindL k (xs.zip vs) m x = some v) ∧ (k x ≠ some .local → bindC k (xs.zip vs) m x = some v)
  | [], ds, vs, x, d, _, _, e => by simp at e
  | y :: xs, [], vs, x, d, _, _, e => by simp at e
  | y :: xs, d' :: ds, vs, x, d, hn, r, e => by
    simp only [RdL] at r
    obtain ⟨v, vr, rfl, h1, h2⟩ := r
    rw [List.zip_cons_cons, List.lookup_cons] at e
    have hny : y ∉ xs := (List.nodup_cons.mp hn).1
    cases hb : x == y with
    | true =>
      have := eq_of_beq hb; subst this
      rw [hb] at e; cases e
      refine ⟨v, h1, fun k m => ⟨fun hk => ?_, fun hk => ?_⟩⟩
      · rw [List.zip_cons_cons]; unfold bindL
        rw [bindL_not fun p hp q => hny (by have := mem_zip_fst hp; rw [q] at this; exact this), if_pos hk]; simp
      · rw [List.zip_cons_cons]; unfold bindC
        rw [bindC_not fun p hp q => hny (by have := mem_zip_fst hp; rw [q] at this; exact this), if_neg hk]; simp
    | false =>
      rw [hb] at e
      obtain ⟨w, hw, hk⟩ := binds_rd (List.nodup_cons.mp hn).2 h2 e
      refine ⟨w, hw, fun k m => ⟨fun q => ?_, fun q => ?_⟩⟩
      · rw [List.zip_cons_cons]; unfold bindL; exact (hk k _).1 q
      · rw [List.zip_cons_cons]; unfold bindC; exact (hk k _).2 q

/-- what a def's body does, seen from its own frame -/
noncomputable def BodyOK (P : Prm) (n : Nat) (fd : FuncData) (d : Stmt) (ρ : Rho) (r : D) : Prop :=
  ∀ X Z env A s, Sta P Z s X env (defScope d) ρ s → Room A n → env.code = fd.code → env.qual = fd.qualname ++ ".<locals>." → wpAny (model P.prog P.w) A (execs (defBody d) env) (fun f s' => ∃ v, f = .ret v ∧ Step P Z s s' ∧ Rd X s'.heap r v) F0 s

theorem room_deeper (rm : Room A (n + 1)) : Room (A.deeper env) n := ⟨rm.1, by have := rm.2.1; show A.depth + 1 + n < 990; omega, by have := rm.2.2; show A.units + 3 + 20 * n < 9700; omega⟩
theorem room_le {m : Nat} (rm : Room A n) (hm : m ≤ n) : Room A m := ⟨rm.1, by have := rm.2.1; omega, by have := rm.2.2; omega⟩
theorem room_in (rm : Room A (n + 1)) : Room A.in1 n := ⟨rm.1, by have := rm.2.1; show A.depth + n < 990; omega, by have := rm.2.2; show A.units + 1 + 20 * n < 9700; omega⟩
theorem room_depth (rm : Room A n) : A.depth < recursionLimit := by have := rm.2.1; show _ < 1000; omega

theorem code_own {a : Addr} {d : Stmt} {fd : FuncData} {ds : List D} {r : D} {vs : List Value} {xs : List Str} {R : Result → Shared → Prop} (p : PrmOK P) (F : FnObj P a d fd) (hb : BodyOK P n fd d (xs.zip ds) r) (at' : At P X s.heap) (rm : Room A (n + 1)) (hr : RdL X s.heap ds vs)
    (hx : (defParams d).args.map (·.arg) = xs) (hlen : xs.length = ds.length) (hnd : xs.Nodup) (hpp : bindArgs fd ⟨vs, []⟩ = pure (xs.zip vs))
    (hk : (xs.all fun x => (defScope d).names.lookup x == some .local || (defScope d).names.lookup x == some .cell) = true) (hfun : ((defScope d).kind = .function ∧ (defScope d).isCoroutine = false ∧ (defScope d).isGenerator = false))
    (hcn : ((cellsFrom 0 (defScope d).names []).map (·.1)).Nodup)
    (k : ∀ v s', Step P E0 s s' → Rd X s'.heap r v → R (.ok (.ret v)) s') : codeAny (model P.prog P.w) A (.call (.ref a) ⟨vs, []⟩) R s := by
  obtain ⟨oc, od, osl, hl⟩ := F.look
  have ho := at'.kin p _ _ hl
  obtain ⟨h1, h2, h3⟩ := hfun
  have hsc := F.scope
  refine codeAny_call_cells (fd := fd) (room_depth rm) ho rfl (at'.nolimit p) (codeRec_of (at'.kin p) F.code) F.body hpp F.clo (fun x hx' => ?_) (fun s₁ IC => ?_) (by rw [hsc]; exact h2) (by rw [hsc]; exact h3) (by rw [hsc]; exact h1)
  · have := List.all_eq_true.mp hk x.1 (mem_zip_fst hx')
    rw [hsc]
    rcases Bool.or_eq_true_iff.mp this with q | q
    · exact .inl (by simpa using q)
    · exact .inr ⟨by simpa using q, cellsFrom_some _ _ _ (.inl (by simpa using q))⟩
  · obtain ⟨h₁, tk, rfl⟩ := IC.toInCall.same
    have hns := IC.toInCall.ns
    have keep := IC.toInCall.keep
    have habove := IC.above
    have hcellAt := IC.cell
    have hap := IC.apart
    dsimp only at hns keep habove hcellAt hap
    have hL : (callEnvC fd s.heap.objs.size a).locals = s.heap.objs.size := rfl
    have hC : (callEnvC fd s.heap.objs.size a).cells = cellsFrom (s.heap.objs.size + 1) fd.scope.names [] := rfl
    have hkind : ∀ y, (callEnvC fd s.heap.objs.size a).kindOf y = (defScope d).names.lookup y := fun y => by rw [← hsc]; rfl
    generalize henv : callEnvC fd s.heap.objs.size a = env at *
    have lkC : ∀ n c, (n, c) ∈ env.cells → env.cells.lookup n = some c := fun n c hm =>
      lookup_of_mem_nodup (by rw [hC, hsc, cellsFrom_names (defScope d).names (s.heap.objs.size + 1) 0 [] [] rfl]; exact hcn) hm
    have cellOk : ∀ n c, (n, c) ∈ env.cells → s.heap.objs.size < c ∧ ∃ v, h₁.IsCell c v := fun n c hm => ⟨by have := habove n c hm; rw [hL] at this; exact this, _, hcellAt n c (lkC n c hm)⟩
    have aX : At P (Un X (Seat env)) h₁ := at'.more2 (at'.step (HStep.of_keeps (Y := E0) keep (Nat.le_of_lt (by have := hns.lt; rw [hL] at this; exact this)))) fun c hc => by
      rcases hc with rfl | ⟨n, hm⟩
      · obtain ⟨o, es, ep, ho, hd, _⟩ := hns
        exact ⟨Nat.le_of_eq hL.symm, o, ho, nc_dict hd⟩
      · obtain ⟨h1, v, o, ho, hd⟩ := cellOk n c hm
        exact ⟨Nat.le_of_lt h1, o, ho, nc_cell hd⟩
    have rX : RdL (Un X (Seat env)) h₁ ds vs := (hr.fresh (Y := Seat env) fun b hb => by
      rcases hb with rfl | ⟨n, hm⟩
      · exact Nat.le_of_eq hL.symm
      · exact Nat.le_of_lt (cellOk n b hm).1).mono (fun b o _ _ e => keep b o e) fun _ y => y
    have ext : Step P E0 s { s with heap := h₁, toks := tk } := step_heap (.of_keeps keep (Nat.le_of_lt (by have := hns.lt; rw [hL] at this; exact this)))
    have envS : env.scope = defScope d := by rw [← hsc, ← henv]; rfl
    have lk : ∀ x dx, (xs.zip ds).lookup x = some dx → x ∈ xs := fun x dx q => mem_zip_fst (mem_lookup q)
    have kx : ∀ x, x ∈ xs → (defScope d).names.lookup x = some .local ∨ (defScope d).names.lookup x = some .cell := fun x q => by
      have := List.all_eq_true.mp hk x q
      simpa using this
    have e1 : EnvAt P (Un X (Seat env)) env (defScope d) (xs.zip ds) { s with heap := h₁, toks := tk } := by
      refine ⟨aX, envS, h1, ?_, ?_, .inr (.inl rfl), ⟨_, hns, fun x dx q hkx => ?_⟩, fun x dx q hkx => ?_, fun x dx q => (kx x (lk x dx q)).elim .inl fun q => .inr (.inl q), fun n c hm => ?_⟩
      · rw [← henv]; exact F.globals
      · rw [← henv]; exact F.builtins
      · obtain ⟨v, hv, hh⟩ := binds_rd hnd rX q
        exact ⟨v, (hh _ _).1 ((hkind x).trans hkx), hv⟩
      · obtain ⟨v, hv, hh⟩ := binds_rd hnd rX q
        have hkc : (defScope d).names.lookup x = some .cell := by
          rcases kx x (lk x dx q) with q' | q'
          · rcases hkx with q2 | q2 <;> (rw [q'] at q2; cases q2)
          · exact q'
        obtain ⟨c, hc⟩ := Option.isSome_iff_exists.mp (cellsFrom_some (x := x) (defScope d).names (s.heap.objs.size + 1) [] (.inl hkc))
        have hc' : env.cells.lookup x = some c := by rw [hC, hsc]; exact hc
        refine ⟨c, v, hc', ?_, hv⟩
        have := hcellAt x c hc'
        rw [(hh env.kindOf fun _ => none).2 (by rw [hkind x, hkc]; simp)] at this
        exact this
      · obtain ⟨q1, q2⟩ := cellOk n c hm
        exact ⟨.inr (.inr ⟨n, hm⟩), by rw [hL]; exact Nat.ne_of_gt q1, q2⟩
    have S : Sta P (Seat env) { s with heap := h₁, toks := tk } (Un X (Seat env)) env (defScope d) (xs.zip ds) { s with heap := h₁, toks := tk } :=
      ⟨e1, .refl, .inl rfl, fun x c _ hc => .inr ⟨x, mem_lookup hc⟩, fun b z => .inr z, hap, fun x hx => by
        obtain ⟨c, hc⟩ := Option.isSome_iff_exists.mp (cellsFrom_some (x := x) (defScope d).names (s.heap.objs.size + 1) [] (.inl hx))
        exact ⟨c, by rw [hC, hsc]; exact hc⟩⟩
    refine wpAny_mono (hb _ _ _ (A.deeper env) _ S (room_deeper rm) (by rw [← henv]; rfl) (by rw [← henv]; rfl)) (fun f s' ⟨v, hf, st, hv⟩ => ?_) fun _ _ y => y.elim
    subst hf
    exact k v s' (ext.own st fun b hb => by
      rcases hb with rfl | ⟨n, hm⟩
      · exact Nat.le_of_eq hL.symm
      · exact Nat.le_of_lt (cellOk n b hm).1) (hv.mono .refl fun b x => .inl x)

/-- what is asked of a def that is called by place -/
structure DefOK (d : Stmt) (xs : List Str) : Prop where
  par : (defParams d).args.map (·.arg) = xs
  nd : xs.Nodup
  kinds : (xs.all fun x => (defScope d).names.lookup x == some .local || (defScope d).names.lookup x == some .cell) = true
  fn : (defScope d).kind = .function ∧ (defScope d).isCoroutine = false ∧ (defScope d).isGenerator = false
  cells : ((cellsFrom 0 (defScope d).names []).map (·.1)).Nodup

theorem call_own {a : Addr} {d : Stmt} {fd : FuncData} {ds : List D} {r : D} {xs : List Str} (p : PrmOK P) (F : FnObj P a d fd) (O : DefOK d xs) (hb : BodyOK P n fd d (xs.zip ds) r) (hlen : xs.length = ds.length)
    (hpp : ∀ vs, vs.length = xs.length → bindArgs fd ⟨vs, []⟩ = pure (xs.zip vs)) : CallOK P (n + 1) (.ref a) ds r := fun X A s vs at' rm hr =>
  wpAny_call (code_own p F hb at' rm hr O.par hlen O.nd (hpp vs (by rw [hlen, rdL_length hr])) O.kinds O.fn O.cells fun v s' st hv => ⟨st, hv⟩)
end
end Mine
end
section
open PySem PySem.W PySem.Calls PyProof.Rows
set_option Elab.async false
set_option maxRecDepth 100000
set_option linter.unusedVariables false
namespace Mine

noncomputable abbrev One (a : Addr) : ASet := fun b => b = a
/-- a list of the frame's own, that it fills: ints -/
noncomputable def OwnZ (s : Shared) (a : Addr) (ns : List Int) : Prop := ∃ vs, (∃ k, IsL s.heap a vs k) ∧ IntsAre vs.toList ns

section
variable {P : Prm} {X X' Y Z : ASet} {env : Env} {sc scope : Scope} {ρ ρ' ρc : Rho} {s s' s₀ : Shared} {A : Around} {n : Nat} {h h' : Heap}

theorem isL_agree {a : Addr} {vs} (g : Agree Y h h') (hy : ¬ Y a) : (∃ k, IsL h a vs k) → ∃ k, IsL h' a vs k := fun ⟨k, x⟩ => ⟨k, g a _ hy (nt_cls rfl) x⟩
theorem OwnZ.step {a : Addr} {ns : List Int} (o : OwnZ s a ns) (st : Step P Y s s') (hy : ¬ Y a) : OwnZ s' a ns := let ⟨vs, p, i⟩ := o; ⟨vs, isL_agree st.heap.keep hy p, i⟩
theorem OwnZ.step0 {a : Addr} {ns : List Int} (o : OwnZ s a ns) (st : Step P E0 s s') : OwnZ s' a ns := o.step st fun y => y
theorem OwnZ.rd {a : Addr} {ns : List Int} (o : OwnZ s a ns) (hx : ¬ X a) : Rd X s.heap (Zs ns) (.ref a) := by
  obtain ⟨vs, ⟨k, p⟩, i⟩ := o
  simp only [Rd]
  exact ⟨a, vs, rfl, hx, p.isList, of_intsAre i⟩

/-- an own list, read by value: the frame seen with it as data -/
theorem EnvAt.asList (e : EnvAt P X env sc ρ s) {x : Str} {a : Addr} {ns : List Int} (hx : ρ.lookup x = some (.ptr a)) (o : OwnZ s a ns) (ha : ∀ t ∈ P.tabs, a ≠ t.P) (hl : a ≠ env.locals) (hc : ∀ n c, (n, c) ∈ env.cells → a ≠ c) :
    EnvAt P (fun b => X b ∧ b ≠ a) env sc ((x, Zs ns) :: ρ) s := by
  obtain ⟨m, hm, hl'⟩ := e.lcl
  refine ⟨e.at'.less (fun b y => y.1) fun t ht => ⟨(e.at'.tab t ht).1, Ne.symm (ha t ht)⟩, e.hsc, e.hk, e.hg, e.hb, ⟨e.xl, Ne.symm hl⟩, ⟨m, hm, fun y d hy hk => ?_⟩, fun y d hy hk => ?_, fun y d hy => ?_, fun n c hm => let ⟨p, q⟩ := e.xc n c hm; ⟨⟨p, Ne.symm (hc n c hm)⟩, q⟩⟩
  · by_cases hyx : y = x
    · subst hyx
      rw [lookup_cons_eq] at hy; cases hy
      obtain ⟨v, p, q⟩ := hl' y _ hx hk
      simp only [Rd] at q; subst q
      exact ⟨_, p, o.rd fun y => y.2 rfl⟩
    · rw [lookup_cons_ne hyx] at hy
      obtain ⟨v, p, q⟩ := hl' y d hy hk
      exact ⟨v, p, q.mono .refl fun b y => y.1⟩
  · by_cases hyx : y = x
    · subst hyx
      rw [lookup_cons_eq] at hy; cases hy
      obtain ⟨c, v, p, q, r⟩ := e.cel y _ hx hk
      simp only [Rd] at r; subst r
      exact ⟨c, _, p, q, o.rd fun y => y.2 rfl⟩
    · rw [lookup_cons_ne hyx] at hy
      obtain ⟨c, v, p, q, r⟩ := e.cel y d hy hk
      exact ⟨c, v, p, q, r.mono .refl fun b y => y.1⟩
  · by_cases hyx : y = x
    · subst hyx; exact e.knd y _ hx
    · rw [lookup_cons_ne hyx] at hy; exact e.knd y d hy

theorem OwnZ.notSeat {a : Addr} {ns : List Int} (o : OwnZ s a ns) (e : EnvAt P X env sc ρ s) : (∀ t ∈ P.tabs, a ≠ t.P) ∧ a ≠ env.locals ∧ ∀ n c, (n, c) ∈ env.cells → a ≠ c := by
  obtain ⟨vs, ⟨k, ho⟩, _⟩ := o
  refine ⟨notTab_of e.at' ho (nt_cls rfl), fun q => ?_, fun n c hm q => ?_⟩
  · obtain ⟨m, ⟨o', es, ep, ho', hd', _⟩, _⟩ := e.lcl
    rw [← q, ho] at ho'; cases ho'; cases hd'
  · obtain ⟨_, _, v, o', ho', hd'⟩ := e.xc n c hm
    rw [← q, ho] at ho'; cases ho'; cases hd'
theorem EnvAt.own (e : EnvAt P X env sc ρ s) {x : Str} {a : Addr} {ns : List Int} (hx : ρ.lookup x = some (.ptr a)) (o : OwnZ s a ns) : EnvAt P (fun b => X b ∧ b ≠ a) env sc ((x, Zs ns) :: ρ) s :=
  let ⟨p, q, r⟩ := o.notSeat e; e.asList hx o p q r

/-- evaluation where own lists are read by value: the value is flat -/
theorem ev_own {x : Str} {a : Addr} {ns : List Int} {e : Expr} {d : D} {E : Value → Shared → Prop} {Q : Value → Shared → Prop} (h : Ev P n sc ((x, Zs ns) :: ρ) e d) (hx : ρ.lookup x = some (.ptr a)) (o : OwnZ s a ns) (e0 : EnvAt P X env sc ρ s) (rm : Room A n) (hf : d.flat = true)
    (k : ∀ v s', Step P E0 s s' → Rd X s'.heap d v → Q v s') : wpAny (model P.prog P.w) A (eval e env) Q E s :=
  ev_of h (e0.own hx o) rm fun v s' st e' r => k v s' st (r.flat hf)
theorem tr_own {x : Str} {a : Addr} {ns : List Int} {e : Expr} {b : Bool} {E : Value → Shared → Prop} {Q : Bool → Shared → Prop} (h : Tr P n sc ((x, Zs ns) :: ρ) e b) (hx : ρ.lookup x = some (.ptr a)) (o : OwnZ s a ns) (e0 : EnvAt P X env sc ρ s) (rm : Room A n)
    (k : ∀ s', Step P E0 s s' → Q b s') : wpAny (model P.prog P.w) A (isTrue e env (eval e env)) Q E s :=
  tr_of h (e0.own hx o) rm fun s' st e' => k s' st

/-- x = [..], a list that the frame will fill -/
theorem st_new {x : Str} {es : List Expr} {px lp pos : Pos} {ns : List Int} {E : Value → Shared → Prop} {Q : Flow → Shared → Prop} (a : Sta P Z s₀ X env sc ρ s) (rm : Room A n) (he : EvL P n sc ρ es (ns.map .int)) (hx : Stored sc x) (hlen : ns.length ≤ 1000)
    (k : ∀ c s', s.heap.objs.size ≤ c → Step P (Seat env) s s' → Sta P (Un Z (One c)) s₀ (Un X (One c)) env sc ((x, .ptr c) :: ρ) s' → OwnZ s' c ns → Q .next s') :
    wpAny (model P.prog P.w) A (exec (.Assign [.Name x px] (.List es lp) pos) env) Q E s := by
  refine wpAny_Assign_Name ?_ rfl
  refine wpAny_List_spliced (evl_sound he a.e rm fun vs s1 st1 e1 r1 => ?_)
  have hl := rdL_length r1
  refine ⟨by rw [sizeLine_eq]; simp at hl; (clear hx; omega), ?_⟩
  have a1 := a.step st1
  have stp : Step P E0 s1 { s1 with heap := s1.heap.push { cls := .type "list", data := .seq vs.toArray } } := step_push
  have aX : At P (Un X (One s1.heap.objs.size)) (s1.heap.push { cls := .type "list", data := .seq vs.toArray }) := e1.at'.more (e1.at'.step stp.heap) (Nat.le_refl _) (Heap.get?_push_size _ rfl) (nc_cls rfl)
  have e2 := e1.grow stp (fun b y => Nat.le_of_eq (Eq.symm y)) aX
  have hO : OwnZ { s1 with heap := s1.heap.push { cls := .type "list", data := .seq vs.toArray } } s1.heap.objs.size ns := ⟨vs.toArray, ⟨0, Heap.get?_push_size _ rfl⟩, intsAre_of (by simpa using r1)⟩
  have a2 : Sta P (Un Z (One s1.heap.objs.size)) s₀ (Un X (One s1.heap.objs.size)) env sc ρ { s1 with heap := s1.heap.push { cls := .type "list", data := .seq vs.toArray } } :=
    ⟨e2, (a1.st.trans stp.any).weak fun b z => .inl z, .inl a.zl, fun x c h1 h2 => .inl (a.zc x c h1 h2), fun b z => z.elim (fun z => .inl (a.zx b z)) .inr, a.apart, a.own⟩
  obtain ⟨nt, nl, nc⟩ := hO.notSeat e2
  refine a2.store hx (d := .ptr s1.heap.objs.size) (by simp only [Rd]) fun s3 st3 a3 => ?_
  exact k _ s3 st1.heap.size ((st1.trans stp).any.trans st3) a3 (hO.step st3 fun y => y.elim nl fun ⟨n, hm⟩ => nc n _ hm rfl)

theorem OwnZ.seat {a : Addr} {ns : List Int} (o : OwnZ s a ns) (e : EnvAt P X env sc ρ s) (st : Step P (Seat env) s s') : OwnZ s' a ns := by
  obtain ⟨nt, nl, nc⟩ := o.notSeat e
  exact o.step st fun y => y.elim nl fun ⟨n, hm⟩ => nc n _ hm rfl

/-- return e -/
theorem st_return {e : Expr} {pos : Pos} {d : D} {E : Value → Shared → Prop} {Q : Flow → Shared → Prop} (a : Sta P Z s₀ X env sc ρ s) (rm : Room A n) (he : Ev P n sc ρ e d)
    (k : ∀ v s', Step P Z s₀ s' → Rd X s'.heap d v → Q (.ret v) s') : wpAny (model P.prog P.w) A (exec (.Return (some e) pos) env) Q E s :=
  wpAny_Return_some (ev_of he a.e rm fun v s1 st1 e1 r1 => k v s1 (a.step st1).st r1)
/-- return e, an own list read -/
theorem st_return_own {x : Str} {c : Addr} {ns : List Int} {e : Expr} {pos : Pos} {d : D} {E : Value → Shared → Prop} {Q : Flow → Shared → Prop} (a : Sta P Z s₀ X env sc ρ s) (rm : Room A n) (hx : ρ.lookup x = some (.ptr c)) (o : OwnZ s c ns) (he : Ev P n sc ((x, Zs ns) :: ρ) e d)
    (k : ∀ v s', Step P Z s₀ s' → Rd (fun b => X b ∧ b ≠ c) s'.heap d v → Q (.ret v) s') : wpAny (model P.prog P.w) A (exec (.Return (some e) pos) env) Q E s :=
  wpAny_Return_some (ev_of he (a.e.own hx o) rm fun v s1 st1 e1 r1 => k v s1 (a.step st1).st r1)

theorem st_if {test : Expr} {body orelse : List Stmt} {pos : Pos} {b : Bool} {E : Value → Shared → Prop} {Q : Flow → Shared → Prop} (a : Sta P Z s₀ X env sc ρ s) (rm : Room A n) (ht : Tr P n sc ρ test b)
    (h1 : b = true → ∀ s', Step P E0 s s' → Sta P Z s₀ X env sc ρ s' → wpAny (model P.prog P.w) A (execs body env) Q E s')
    (h2 : b = false → ∀ s', Step P E0 s s' → Sta P Z s₀ X env sc ρ s' → wpAny (model P.prog P.w) A (execs orelse env) Q E s') : wpAny (model P.prog P.w) A (exec (.If test body orelse pos) env) Q E s := by
  refine wpAny_If (tr_of ht a.e rm fun s1 st1 e1 => ?_)
  cases b with
  | true => exact h1 rfl s1 st1 (a.step st1)
  | false => exact h2 rfl s1 st1 (a.step st1)
/-- a test that reads an own list -/
theorem st_if_own {x : Str} {c : Addr} {ns : List Int} {test : Expr} {body orelse : List Stmt} {pos : Pos} {b : Bool} {E : Value → Shared → Prop} {Q : Flow → Shared → Prop} (a : Sta P Z s₀ X env sc ρ s) (rm : Room A n) (hx : ρ.lookup x = some (.ptr c)) (o : OwnZ s c ns) (ht : Tr P n sc ((x, Zs ns) :: ρ) test b)
    (h1 : b = true → ∀ s', Step P E0 s s' → Sta P Z s₀ X env sc ρ s' → wpAny (model P.prog P.w) A (execs body env) Q E s')
    (h2 : b = false → ∀ s', Step P E0 s s' → Sta P Z s₀ X env sc ρ s' → wpAny (model P.prog P.w) A (execs orelse env) Q E s') : wpAny (model P.prog P.w) A (exec (.If test body orelse pos) env) Q E s := by
  refine wpAny_If (tr_own ht hx o a.e rm fun s1 st1 => ?_)
  cases b with
  | true => exact h1 rfl s1 st1 (a.step st1)
  | false => exact h2 rfl s1 st1 (a.step st1)

/-- x, y = e, e a pair -/
theorem st_pair {x y : Str} {px py tp pos : Pos} {k0 : Nat} {e : Expr} {d1 d2 : D} {E : Value → Shared → Prop} {Q : Flow → Shared → Prop} (a : Sta P Z s₀ X env sc ρ s) (rm : Room A n) (he : Ev P n sc ρ e (.tup [d1, d2]))
    (hx : Stored sc x) (hy : Stored sc y) (k : ∀ s', Step P (Seat env) s s' → Sta P Z s₀ X env sc ((y, d2) :: (x, d1) :: ρ) s' → Q .next s')
    (hsw : ∀ env, swappedStores [.Tuple [.Name x px, .Name y py] k0 tp] e env = pure none := by intro _; rfl) (hnc : ∀ env, swapsWithSole [.Tuple [.Name x px, .Name y py] k0 tp] e pos.line env = pure false := by intro _; rfl) :
    wpAny (model P.prog P.w) A (exec (.Assign [.Tuple [.Name x px, .Name y py] k0 tp] e pos) env) Q E s := by
  show wpAny _ A (do
    standAt pos
    if ← swapsWithSole [.Tuple [.Name x px, .Name y py] k0 tp] e pos.line env then do
      evalThenUse e env fun v => assignAll v ((assignEach [.Tuple [.Name x px, .Name y py] k0 tp] env).map (·.2))
      pure .next
    else do
      let v ← eval e env
      assignStores env v (← swappedStores [.Tuple [.Name x px, .Name y py] k0 tp] e env) ((assignEach [.Tuple [.Name x px, .Name y py] k0 tp] env).map (·.2))) Q E s
  refine wpAny_bind (wpAny_standAt (wpAny_bind (wpAny_of_eq (hnc env) ?_)))
  simp only [Bool.false_eq_true, if_false]
  refine wpAny_bind (ev_of he a.e rm fun v s1 st1 e1 r1 => wpAny_bind (wpAny_of_eq (hsw env) ?_))
  obtain ⟨t, vs, rfl, hX, ht, hr⟩ := tup_rd r1
  have hsz : vs.size = 2 := by have := rdL_length hr; simpa using this.symm
  show wpAny _ A (do assign (.Tuple [.Name x px, .Name y py] k0 tp) env (.ref t); pure .next) Q E s1
  refine wpAny_bind ?_
  show wpAny _ A (do standAt tp; assignInOrder [assign (.Name x px) env, assign (.Name y py) env] (← holding [.ref t] (unpackItems (.ref t) 2 none))) _ E s1
  refine wpAny_bind (wpAny_standAt (wpAny_bind (wpAny_holding (wp_unpack2 e1.at' rm.1 ht hsz fun s2 st2 => ?_))))
  have a2 := (a.step st1).step st2
  have hr2 := hr.step st2
  simp only [RdL] at hr2
  obtain ⟨v1, _, q1, r1, v2, _, q2, r2, q3⟩ := hr2
  rw [q1, q2, q3]
  show wpAny _ A (do holding [v2] (assign (.Name x px) env v1); (do holding [] (assign (.Name y py) env v2); pure ())) _ E s2
  refine wpAny_bind (wpAny_holding (wpAny_assign_Name (a2.store hx r1 fun s3 st3 a3 => wpAny_bind (wpAny_holding (wpAny_assign_Name (a3.store hy (r2.mono (st3.heap.keep.weak fun b q => ?_) fun _ y => y) fun s4 st4 a4 => wpAny_pure (wpAny_pure ?_)))))))
  · rcases q with rfl | ⟨n, hm⟩
    · exact a2.e.xl
    · exact (a2.e.xc n b hm).1
  · exact k s4 (((st1.trans st2).any.trans st3).trans st4) a4
end
end Mine
end
section
open PySem PySem.W PySem.Calls PyProof.Rows
set_option Elab.async false
set_option maxRecDepth 100000
set_option linter.unusedVariables false
namespace Mine

noncomputable abbrev Owns := List (Addr × List Int)
/-- the lists that the frame fills, as they stand -/
noncomputable def OwnsAt (Z : ASet) (s : Shared) (os : Owns) : Prop := ∀ p ∈ os, Z p.1 ∧ OwnZ s p.1 p.2

section
variable {P : Prm} {X X' Y Z : ASet} {env : Env} {sc scope : Scope} {ρ ρ' ρc : Rho} {s s' s₀ : Shared} {A : Around} {n : Nat} {h h' : Heap} {os : Owns}

theorem OwnsAt.step (o : OwnsAt Z s os) (st : Step P Y s s') (hy : ∀ b, Y b → ¬ Z b) : OwnsAt Z s' os := fun p hp => ⟨(o p hp).1, (o p hp).2.step st fun y => hy _ y (o p hp).1⟩
theorem OwnsAt.step0 (o : OwnsAt Z s os) (st : Step P E0 s s') : OwnsAt Z s' os := o.step st fun b y => y.elim
theorem OwnsAt.seat (o : OwnsAt Z s os) (e : EnvAt P X env sc ρ s) (st : Step P (Seat env) s s') : OwnsAt Z s' os := fun p hp => ⟨(o p hp).1, (o p hp).2.seat e st⟩

/-- how a loop ends -/
structure LoopEnd where
  nxt : Rho → Owns → Prop
  brk : Rho → Owns → Prop
  ret : D → Prop

/-- a for over what is walked over; I: what holds of the frame and its lists ahead of each turn, ds being left -/
theorem st_for {tgt iter : Expr} {body : List Stmt} {pos : Pos} {ds : List D} {E : Value → Shared → Prop} {Q : Flow → Shared → Prop} (I : List D → Rho → Owns → Prop) (B : Rho → Owns → Prop) (R : D → Prop)
    (a : Sta P Z s₀ X env sc ρ s) (rm : Room A n) (hit : EvIt P n sc ρ tgt iter ds) (o : OwnsAt Z s os) (init : I ds ρ os)
    (turn : ∀ (X' : ASet) d ds' ρ os s v, (∀ b, X b → X' b) → I (d :: ds') ρ os → Sta P Z s X' env sc ρ s → OwnsAt Z s os → Rd X' s.heap d v →
      wpAny (model P.prog P.w) A (assign tgt env v) (fun _ s' => wpAny (model P.prog P.w) A (execs body env) (fun f s'' => match f with
        | .next | .cont => ∃ ρ' os', I ds' ρ' os' ∧ Sta P Z s X' env sc ρ' s'' ∧ OwnsAt Z s'' os'
        | .brk => ∃ ρ' os', B ρ' os' ∧ Sta P Z s X' env sc ρ' s'' ∧ OwnsAt Z s'' os'
        | .ret v => ∃ r, R r ∧ Step P Z s s'' ∧ Rd X' s''.heap r v) F0 s') F0 s)
    (done : ∀ ρ' os' s', (I [] ρ' os' ∨ B ρ' os') → Sta P Z s₀ X env sc ρ' s' → OwnsAt Z s' os' → Q .next s')
    (rets : ∀ r v s', R r → Step P Z s₀ s' → Rd X s'.heap r v → Q (.ret v) s')
    (hs : ∀ env x, foldedSetIterable iter env x = pure x := by intro _ _; rfl) :
    wpAny (model P.prog P.w) A (exec (.For tgt iter body [] pos) env) Q E s := by
  refine wpAny_For (wpAny_mono (hit X env A s a.e rm) (fun x s1 h1 => wpAny_mono h1 (fun it s2 ⟨Y, st2, hY, a2, hJ⟩ => ?_) fun _ _ y => y.elim) fun _ _ y => y.elim) (hs env)
  obtain ⟨J, It, j⟩ := hJ E0 s2 .refl (fun b y => y.elim) (a2.less (fun b y => y.elim id fun y => y.elim) fun t ht => .inl (a2.tab t ht).1)
  -- the frame, with the iterator's place shut off
  have nY : ∀ b, Y b → ¬ Z b := fun b y z => Nat.lt_irrefl _ (Nat.lt_of_lt_of_le (a.e.at'.below _ (a.zx b z)) (hY b y))
  have eX : EnvAt P (Un (Un X Y) E0) env sc ρ s2 := (a.e.grow st2 hY a2).grow (Y := E0) .refl (fun b y => y.elim) (a2.less (fun b y => y.elim id fun y => y.elim) fun t ht => .inl (a2.tab t ht).1)
  have aX : Sta P Z s2 (Un (Un X Y) E0) env sc ρ s2 := ⟨eX, .refl, a.zl, a.zc, fun b z => .inl (.inl (a.zx b z)), a.apart, a.own⟩
  have seat : ∀ b, Y b → ¬ Seat env b := fun b y q => by
    rcases q with rfl | ⟨n, hm⟩
    · exact nY _ y a.zl
    · exact Nat.lt_irrefl _ (Nat.lt_of_lt_of_le (a.e.at'.below _ (a.e.xc n b hm).1) (hY b y))
  -- what is left of a loop that ended in s3
  have whole : ∀ {s3 : Shared}, Step P (Un Z Y) s2 s3 → Step P Z s₀ s3 := fun {s3} st => a.st.trans ((st2.any : Step P Z s s2).ownZ st fun q y => y.elim .inl fun y => .inr (hY q y))
  have back : ∀ {ρ' : Rho} {s3 : Shared}, EnvAt P (Un (Un X Y) E0) env sc ρ' s3 → Step P (Un Z Y) s2 s3 → Sta P Z s₀ X env sc ρ' s3 := fun {ρ' s3} b st =>
    ⟨b.less (fun b x => .inl (.inl x)) a.e, whole st, a.zl, a.zc, a.zx, a.apart, a.own⟩
  have root : ∀ {ρ' : Rho} {s3 : Shared}, EnvAt P (Un (Un X Y) E0) env sc ρ' s3 → Sta P Z s3 (Un (Un X Y) E0) env sc ρ' s3 := fun {ρ' s3} b => ⟨b, .refl, a.zl, a.zc, fun b z => .inl (.inl (a.zx b z)), a.apart, a.own⟩
  have loop : ∀ (ds : List D) (ρ' : Rho) (os' : Owns) (s3 : Shared), I ds ρ' os' → EnvAt P (Un (Un X Y) E0) env sc ρ' s3 → OwnsAt Z s3 os' → J ds s3 →
      Step P (Un Z Y) s2 s3 → codeAny (model P.prog P.w) A (.forLoop tgt it body [] env) (fun r s' => match r with | .ok f => Q f s' | .error e => cameBackBy (model P.prog P.w) A env E e s') s3 := by
    intro ds
    induction ds with
    | nil =>
      intro ρ' os' s3 hI e3 o3 j3 st3
      refine codeAny_of_tree ?_
      show wpAny _ A ((forTurn tgt it body [] env).onRaise (fun x => do noteFrame x env; theTreesLotGoes x)) _ _ s3
      refine wpAny_noted (wp_E0 ?_)
      unfold forTurn
      refine wpAny_bind (wpAny_standAt (wpAny_bind (wpAny_onRaise (wpAny_mono (It.stop A s3 rm.1 e3.at' j3) (fun r s4 ⟨q, st4⟩ => ?_) fun _ _ x => x.elim))))
      subst q
      refine wpAny_pure ⟨rfl, codeAny_block (wpAny_execs_nil ?_)⟩
      have e4 := e3.stepY st4 (fun b y => .inl (.inr y)) seat
      exact done ρ' os' s4 (.inl hI) (back e4 (st3.trans (st4.weak fun b y => .inr y))) (o3.step st4 nY)
    | cons d ds ih =>
      intro ρ' os' s3 hI e3 o3 j3 st3
      refine codeAny_of_tree ?_
      show wpAny _ A ((forTurn tgt it body [] env).onRaise (fun x => do noteFrame x env; theTreesLotGoes x)) _ _ s3
      refine wpAny_noted (wp_E0 ?_)
      unfold forTurn
      refine wpAny_bind (wpAny_standAt (wpAny_bind (wpAny_onRaise (wpAny_mono (It.next A s3 d ds rm.1 e3.at' j3) (fun r s4 ⟨v, q, h4⟩ => ?_) fun _ _ x => x.elim))))
      subst q
      refine wpAny_bind (wpAny_mono h4 (fun _ s5 ⟨st5, r5, j5⟩ => ?_) fun _ _ x => x)
      have e5 := e3.stepY st5 (fun b y => .inl (.inr y)) seat
      have o5 := o3.step st5 nY
      have st25 := st3.trans (st5.weak (Y' := Un Z Y) fun b y => .inr y)
      refine wpAny_bind (wpAny_mono (turn _ d ds ρ' os' s5 v (fun b x => .inl (.inl x)) hI (root e5) o5 r5) (fun _ s6 h6 => wpAny_bind (wpAny_mono h6 (fun f s7 h7 => ?_) fun _ _ x => x)) fun _ _ x => x)
      have nxt : (∃ ρ' os', I ds ρ' os' ∧ Sta P Z s5 (Un (Un X Y) E0) env sc ρ' s7 ∧ OwnsAt Z s7 os') → codeAny (model P.prog P.w) A (.forLoop tgt it body [] env) (fun r s' => match r with | .ok f => Q f s' | .error e => cameBackBy (model P.prog P.w) A env E e s') s7 :=
        fun ⟨ρ₂, os₂, hI₂, a₂, o₂⟩ => ih ρ₂ os₂ s7 hI₂ a₂.e o₂ (It.frame Z s5 s7 ds e5.at' j5 a₂.st (fun b z y => nY b y z) fun b z => .inl (.inl (a.zx b z))) (st25.trans (a₂.st.weak fun b z => .inl z))
      cases f with
      | next => exact wpAny_pure ⟨rfl, nxt h7⟩
      | cont => exact wpAny_pure ⟨rfl, nxt h7⟩
      | brk =>
        obtain ⟨ρ₂, os₂, hB, a₂, o₂⟩ := h7
        exact wpAny_pure (done ρ₂ os₂ s7 (.inr hB) (back a₂.e (st25.trans (a₂.st.weak fun b z => .inl z))) o₂)
      | ret v =>
        obtain ⟨r, hr, st7, rr⟩ := h7
        exact wpAny_pure (rets r v s7 hr (whole (st25.trans (st7.weak fun b z => .inl z))) (rr.mono .refl fun b x => .inl (.inl x)))
  exact loop ds ρ os s2 init eX (o.step0 st2) j .refl

/-- a while -/
theorem st_while {test : Expr} {body : List Stmt} {pos : Pos} {E : Value → Shared → Prop} {Q : Flow → Shared → Prop} (I : Nat → Rho → Owns → Prop) (R : D → Prop) (m : Nat)
    (a : Sta P Z s₀ X env sc ρ s) (o : OwnsAt Z s os) (init : I m ρ os)
    (turn : ∀ m ρ os s, I m ρ os → Sta P Z s₀ X env sc ρ s → OwnsAt Z s os → wpAny (model P.prog P.w) A (isTrue test env (eval test env)) (fun b s' =>
      if b then wpAny (model P.prog P.w) A (execs body env) (fun f s'' => match f with
          | .next | .cont => ∃ m' ρ' os', m' < m ∧ I m' ρ' os' ∧ Sta P Z s₀ X env sc ρ' s'' ∧ OwnsAt Z s'' os'
          | .brk => Q .next s''
          | .ret v => Q (.ret v) s'') F0 s'
      else Q .next s') F0 s) :
    wpAny (model P.prog P.w) A (exec (.While test body [] pos) env) Q E s := by
  refine wpAny_While (codeAny_whileLoop (fun m s => ∃ ρ os, I m ρ os ∧ Sta P Z s₀ X env sc ρ s ∧ OwnsAt Z s os) (fun m s ⟨ρ, os, hI, a, o⟩ => ?_) m ⟨ρ, os, init, a, o⟩)
  refine wpAny_mono (turn m ρ os s hI a o) (fun b s' h => ?_) fun _ _ x => x.elim
  cases b with
  | false => exact wpAny_execs_nil h
  | true =>
    simp only [if_true] at h ⊢
    refine wpAny_mono h (fun f s'' h2 => ?_) fun _ _ x => x.elim
    cases f with
    | next => obtain ⟨m', ρ', os', h1, h2, h3, h4⟩ := h2; exact ⟨m', h1, ρ', os', h2, h3, h4⟩
    | cont => obtain ⟨m', ρ', os', h1, h2, h3, h4⟩ := h2; exact ⟨m', h1, ρ', os', h2, h3, h4⟩
    | brk => exact h2
    | ret v => exact h2
end
end Mine
end
section
open PySem PySem.W PySem.Calls PyProof.Rows
set_option Elab.async false
set_option maxRecDepth 100000
set_option linter.unusedVariables false
namespace Mine

section
variable {P : Prm} {X X' Y Z : ASet} {env : Env} {sc scope : Scope} {ρ ρ' ρc : Rho} {s s' s₀ : Shared} {A : Around} {n : Nat} {h h' : Heap}

/-- only what lies in Y is changed -/
theorem HStep.but (a : At P X h) (hY : ∀ b, Y b → X b) (hNT : ∀ b, Y b → ∀ t ∈ P.tabs, b ≠ t.P) (k : ∀ b o, ¬ Y b → h.get? b = some o → h'.get? b = some o) (sz : h.objs.size ≤ h'.objs.size) : HStep P Y h h' where
  keep := fun b o hb _ e => k b o hb e
  low := fun b o e e1 => k b o (fun q => by rw [a.xlow b (hY b q)] at e; cases e) e1
  tab := fun X' t hm _ ⟨x0, x⟩ => by
    obtain ⟨y0, y⟩ := a.tab t hm
    have hP : ¬ Y t.P := fun q => hNT _ q t hm rfl
    refine ⟨x0, x.elim (fun e => .inl (k _ _ hP e)) fun ⟨c', hx, e, o, vs, q, e1, e2⟩ => .inr ⟨c', hx, k _ _ hP e, o, vs, q, k _ _ (fun r => ?_) e1, e2⟩⟩
    rcases y with y | ⟨c₂, hx2, y, _⟩
    · rw [e] at y; simp at y
    · rw [e] at y
      simp at y
      exact hx2 (hY _ (y ▸ r))
  size := sz

theorem notTab_fresh {h₀ : Heap} (a₀ : At P X h₀) {b : Addr} (hb : h₀.objs.size ≤ b) : ∀ t ∈ P.tabs, b ≠ t.P := fun t ht q => by
  subst q
  exact Nat.lt_irrefl _ (Nat.lt_of_lt_of_le (a₀.below _ (a₀.tab t ht).1) hb)

theorem stop_ext {I : Addr} {it : Value} (a : At P X s.heap) (hI : X I) (nt : ∀ t ∈ P.tabs, I ≠ t.P)
    (hp : ∀ (Q : Option Value → Shared → Prop), (∀ h', Heap.ExtBut I s.heap h' → Q none { s with heap := h' }) → wpAny (model P.prog P.w) A (pyNext it) Q F0 s) :
    wpAny (model P.prog P.w) A (pyNext it) (fun r s' => r = none ∧ Step P (One I) s s') F0 s := by
  refine wpAny_mono (sized (hp (fun r s' => r = none ∧ ∃ h', s' = { s with heap := h' } ∧ Heap.ExtBut I s.heap h') fun h' hs => ⟨rfl, h', rfl, hs⟩)) (fun r s' ⟨sz, e, h', e', hs⟩ => ?_) fun _ _ x => x
  subst e'
  exact ⟨e, step_heap (HStep.but (Y := One I) a (fun b q => (show b = I from q) ▸ hI) (fun b q => (show b = I from q) ▸ nt) (fun b o hb e => hs b o hb e) sz)⟩

-- ranges
noncomputable def rangeD (a : Int) (k : Nat) : List D := (List.range k).map fun (i : Nat) => D.int (a + (i : Int))
theorem rangeD_succ {a : Int} {k : Nat} : rangeD a (k + 1) = .int a :: rangeD (a + 1) k := by
  unfold rangeD
  rw [List.range_succ_eq_map]
  simp only [List.map_cons, List.map_map, Int.natCast_zero, Int.add_zero]
  congr 1
  refine List.map_congr_left fun i _ => ?_
  simp [Int.add_comm, Int.add_left_comm]

noncomputable def JRange (I : Addr) (ds : List D) (s : Shared) : Prop := ∃ a k, IsRangeIter s.heap I a (k : Nat) 1 ∧ ds = rangeD a k
theorem iter_range {tgt : Expr} {I : Addr} (ht : nameTgt tgt = true) (hI : X I) : Iter P tgt X (One I) (.ref I) (JRange I) where
  next := fun A s d ds hh a j0 => by
    obtain ⟨x, k, hit, e⟩ := j0
    cases k with
    | zero => simp [rangeD] at e
    | succ k =>
      rw [rangeD_succ] at e
      obtain ⟨rfl, rfl⟩ := List.cons.inj e
      refine wpAny_pyNext_range_item hit (by omega) fun h' hit' hs => ⟨_, rfl, ?_⟩
      rw [letGo_name ht]
      have st : HStep P (One I) s.heap h' := HStep.update a hI (notTab_of a hit (nt_cls rfl)) hs
      exact wpAny_pure ⟨step_heap st, rd_int, x + 1, k, by simpa using hit', rfl⟩
  stop := fun A s hh a j0 => by
    obtain ⟨x, k, hit, e⟩ := j0
    have hk : k = 0 := by
      cases k with
      | zero => rfl
      | succ k => rw [rangeD_succ] at e; cases e
    subst hk
    exact stop_ext a hI (notTab_of a hit (nt_cls rfl)) fun Q hq => wpAny_pyNext_range_end hh hit (by simp) hq
  frame := fun Z s s' ds a j0 st hz hzx => by
    obtain ⟨x, k, hit, e⟩ := j0
    exact ⟨x, k, st.heap.keep _ _ (fun z => hz _ z rfl) (nt_cls rfl) hit, e⟩
  self := fun A s ds Q E ⟨x, k, hit, e⟩ q => wpAny_pyIter_rangeiter hit q
  sub := fun b y => y ▸ hI

theorem range_small {a b : Int} (h1 : -(2 ^ 40) ≤ a) (h2 : a ≤ 2 ^ 40) (h3 : -(2 ^ 40) ≤ b) (h4 : b ≤ 2 ^ 40) : Builtin.Range.small a b 1 = true ∧ Builtin.Range.rangeSize a b 1 = ((b - a).toNat : Int) := by
  have e : Builtin.Range.rangeSize a b 1 = ((b - a).toNat : Int) := by
    unfold Builtin.Range.rangeSize
    simp only [show (1 : Int) > 0 from by decide, if_true]
    by_cases h : a < b
    · simp [h]; (clear h1 h2 h3 h4; omega)
    · simp [h]; (clear h1 h2 h3 h4; omega)
  refine ⟨?_, e⟩
  unfold Builtin.Range.small
  rw [e]
  simp [Builtin.Range.rangeFitsLong]
  (clear e; omega)

theorem it_range_obj {tgt : Expr} {r : Addr} {a b : Int} {t u v : Tok} (ht : nameTgt tgt = true) (e1 : At P X s.heap) {s₁ : Shared} (a1 : At P X s₁.heap) (st1 : Step P E0 s s₁) (hr : IsRange s₁.heap r a b 1 t u v) (h1 : -(2 ^ 40) ≤ a) (h2 : a ≤ 2 ^ 40) (h3 : -(2 ^ 40) ≤ b) (h4 : b ≤ 2 ^ 40) :
    wpAny (model P.prog P.w) A (pyIter (.ref r)) (fun it s2 => ItAt P X tgt (rangeD a (b - a).toNat) s it s2) F0 s₁ := by
  obtain ⟨q1, q2⟩ := range_small h1 h2 h3 h4
  refine wpAny_pyIter_range hr q1 ⟨One s₁.heap.objs.size, st1.trans step_push, fun c y => y ▸ st1.heap.size, a1.more (a1.step (HStep.push (Y := E0) _)) (Nat.le_refl _) (Heap.get?_push_size _ rfl) (nc_cls rfl), fun W s' st hW aW => ?_⟩
  refine ⟨JRange s₁.heap.objs.size, iter_range ht (.inl (.inr rfl)), a, (b - a).toNat, ?_, rfl⟩
  have := st.heap.keep _ _ (fun y => y) (nt_cls rfl) (Heap.get?_push_size s₁.heap (o := { cls := .type "range_iterator", data := .fields #[rawInt a, rawInt (Builtin.Range.rangeSize a b 1), rawInt 1] }) rfl)
  rw [q2] at this
  exact this

theorem evit_range1 {tgt : Expr} {xp pos : Pos} {e : Expr} {k : Int} (p : PrmOK P) (g : Glo P "range" (.type "range")) (he : Ev P n sc ρ e (.int k)) (h3 : -(2 ^ 40) ≤ k) (h4 : k ≤ 2 ^ 40)
    (ht : nameTgt tgt = true := by rfl) (hx : sc.names.lookup (Str.ofString "range") = some .globalImplicit := by rfl) (hs : isStarred e = false := by rfl) : EvIt P n sc ρ tgt (.Call (.Name "range" xp) [e] [] pos) (rangeD 0 k.toNat) := fun X env A s e0 rm => by
  show wpAny _ A (do callWith pos (← eval (.Name "range" xp) env) [] (backTo pos (starEach [e] env)) []) _ _ s
  refine wpAny_bind (eval_glo p e0 g hx (PyProof.Rows.callWith_type (by rw [starEach_plain hs]; rfl) (evalArgs_evl (evl_cons he evl_nil hs) e0 rm fun vs s1 st1 e1 r1 => ?_)))
  simp only [RdL] at r1
  obtain ⟨v, _, rfl, r1, rfl⟩ := r1
  obtain ⟨t, rfl⟩ := int_rd r1
  refine call_range_1 ?_
  have := it_range_obj (P := P) (X := X) (A := A) (tgt := tgt) (a := 0) (b := k) ht e0.at' (e1.at'.step (HStep.push (Y := E0) { cls := .type "range", data := .fields #[.int 0 s1.toks, .int k t, .int 1 (s1.toks + 1)] })) (s₁ := { s1 with heap := _, toks := s1.toks + 1 + 1 }) (st1.trans step_push) (Heap.get?_push_size _ rfl) (by (clear h3 h4; omega)) (by (clear h3 h4; omega)) h3 h4
  rw [show k - 0 = k from Int.sub_zero k] at this
  exact this
theorem evit_range2 {tgt : Expr} {xp pos : Pos} {e e' : Expr} {j k : Int} (p : PrmOK P) (g : Glo P "range" (.type "range")) (he : Ev P n sc ρ e (.int j)) (he' : Ev P n sc ρ e' (.int k)) (h1 : -(2 ^ 40) ≤ j) (h2 : j ≤ 2 ^ 40) (h3 : -(2 ^ 40) ≤ k) (h4 : k ≤ 2 ^ 40)
    (ht : nameTgt tgt = true := by rfl) (hx : sc.names.lookup (Str.ofString "range") = some .globalImplicit := by rfl) (hs : isStarred e = false := by rfl) (hs' : isStarred e' = false := by rfl) : EvIt P n sc ρ tgt (.Call (.Name "range" xp) [e, e'] [] pos) (rangeD j (k - j).toNat) := fun X env A s e0 rm => by
  show wpAny _ A (do callWith pos (← eval (.Name "range" xp) env) [] (backTo pos (starEach [e, e'] env)) []) _ _ s
  refine wpAny_bind (eval_glo p e0 g hx (PyProof.Rows.callWith_type (by rw [starEach_plain hs, starEach_plain hs']; rfl) (evalArgs_evl (evl_cons he (evl_cons he' evl_nil hs') hs) e0 rm fun vs s1 st1 e1 r1 => ?_)))
  simp only [RdL] at r1
  obtain ⟨v, _, rfl, r1, w, _, rfl, r2, rfl⟩ := r1
  obtain ⟨t, rfl⟩ := int_rd r1
  obtain ⟨u, rfl⟩ := int_rd r2
  refine call_range_2 ?_
  exact it_range_obj (P := P) (X := X) (A := A) (tgt := tgt) (a := j) (b := k) ht e0.at' (e1.at'.step (HStep.push (Y := E0) { cls := .type "range", data := .fields #[.int j t, .int k u, .int 1 s1.toks] })) (s₁ := { s1 with heap := _, toks := s1.toks + 1 }) (st1.trans step_push) (Heap.get?_push_size _ rfl) h1 h2 h3 h4

-- texts, sign by sign
noncomputable def signs (x : List Nat) : List D := x.map fun c => .str ⟨#[c]⟩
noncomputable def JStr (I : Addr) (x : Str) (t : Tok) (ds : List D) (s : Shared) : Prop := ∃ i, s.heap.IsStrIter I "str_ascii_iterator" x t i ∧ ds = signs (x.cps.toList.drop i)
theorem iter_str {tgt : Expr} {I : Addr} {x : Str} {t : Tok} (ht : nameTgt tgt = true) (hI : X I) : Iter P tgt X (One I) (.ref I) (JStr I x t) where
  next := fun A s d ds hh a j0 => by
    obtain ⟨i, hit, e⟩ := j0
    cases hc : x.cps.toList.drop i with
    | nil => rw [hc] at e; simp [signs] at e
    | cons c r =>
      rw [hc] at e
      obtain ⟨rfl, rfl⟩ := List.cons.inj e
      have hx : x.cps[i]? = some c := by
        have : (x.cps.toList.drop i)[0]? = some c := by rw [hc]; rfl
        simpa using this
      have hr : r = x.cps.toList.drop (i + 1) := by
        have : (x.cps.toList.drop i).drop 1 = r := by rw [hc]; rfl
        rw [← this, List.drop_drop]
      obtain ⟨o, ho, hcl, hd⟩ := id hit
      refine wpAny_pyNext_ascii_item hit hx fun h' hit' hs => ⟨_, rfl, ?_⟩
      rw [letGo_name ht]
      have st : HStep P (One I) s.heap h' := HStep.update a hI (notTab_of a ho (nt_cls hcl)) hs
      exact wpAny_pure ⟨step_heap st, rd_str, i + 1, hit', by rw [← hr]; rfl⟩
  stop := fun A s hh a j0 => by
    obtain ⟨i, hit, e⟩ := j0
    have hn : x.cps[i]? = none := by
      have : x.cps.toList.drop i = [] := by simpa [signs] using e.symm
      have := congrArg List.length this
      simp at this
      simp; omega
    obtain ⟨o, ho, hcl, hd⟩ := id hit
    exact stop_ext a hI (notTab_of a ho (nt_cls hcl)) fun Q hq => wpAny_pyNext_ascii_end hh hit hn hq
  frame := fun Z s s' ds a j0 st hz hzx => by
    obtain ⟨i, ⟨o, ho, hcl, hd⟩, e⟩ := j0
    exact ⟨i, ⟨o, st.heap.keep _ _ (fun z => hz _ z rfl) (nt_cls hcl) ho, hcl, hd⟩, e⟩
  self := fun A s ds Q E ⟨i, hit, e⟩ q => wpAny_pyIter_striter_ascii hit q
  sub := fun b y => y ▸ hI
theorem evit_str {tgt e : Expr} {x : Str} (he : Ev P n sc ρ e (.str x)) (hx : x.cps.all (· < 128) = true) (ht : nameTgt tgt = true := by rfl) : EvIt P n sc ρ tgt e (signs x.cps.toList) := fun X env A s e0 rm => by
  refine ev_of he e0 rm fun v s1 st1 e1 r1 => ?_
  obtain ⟨t, rfl⟩ := str_rd r1
  refine wpAny_pyIter_ascii hx ⟨One s1.heap.objs.size, st1.trans step_push, fun b y => y ▸ st1.heap.size, e1.at'.more (e1.at'.step (HStep.push (Y := E0) _)) (Nat.le_refl _) (Heap.get?_push_size _ rfl) (nc_cls rfl), fun W s' st hW aW => ?_⟩
  exact ⟨JStr s1.heap.objs.size x t, iter_str ht (.inl (.inr rfl)), 0, ⟨_, st.heap.keep _ _ (fun y => y) (nt_cls rfl) (Heap.get?_push_size _ rfl), rfl, rfl⟩, by simp⟩
end
end Mine
end
section
open PySem PySem.W PySem.Calls PyProof.Rows
set_option Elab.async false
set_option maxRecDepth 100000
set_option linter.unusedVariables false
namespace Mine

noncomputable def zipD : List D → List D → List D
  | a :: as, b :: bs => .tup [a, b] :: zipD as bs
  | _, _ => []

section
variable {P : Prm} {X X' Y Z : ASet} {env : Env} {sc scope : Scope} {ρ ρ' ρc : Rho} {s s' s₀ : Shared} {A : Around} {n : Nat} {h h' : Heap}

theorem rdL_uncons {d : D} {ds : List D} {items : Array Value} {i : Nat} (r : RdL X h (d :: ds) (items.toList.drop i)) : ∃ v, items[i]? = some v ∧ Rd X h d v ∧ RdL X h ds (items.toList.drop (i + 1)) := by
  simp only [RdL] at r
  obtain ⟨v, vr, e, r1, r2⟩ := r
  have hv : items[i]? = some v := by
    have : (items.toList.drop i)[0]? = some v := by rw [e]; rfl
    simpa using this
  have hvr : vr = items.toList.drop (i + 1) := by
    have : (items.toList.drop i).drop 1 = vr := by rw [e]; rfl
    rw [← this, List.drop_drop]
  exact ⟨v, hv, r1, hvr ▸ r2⟩
theorem rdL_end {items : Array Value} {i : Nat} (r : RdL X h [] (items.toList.drop i)) : items[i]? = none := by
  simp only [RdL] at r
  have := congrArg List.length r
  simp at this
  simp; omega

noncomputable abbrev YZip (z TO i1 i2 : Addr) : ASet := fun b => b = z ∨ b = TO ∨ b = i1 ∨ b = i2
noncomputable def JZip (X : ASet) (z TI TO i1 i2 l1 l2 : Addr) (xs ys : Array Value) (ds : List D) (s : Shared) : Prop :=
  ∃ i d1 d2, IsZip s.heap z TI TO .none ∧ IsPair s.heap TI (.ref i1) (.ref i2) ∧ (∃ a b, IsPair s.heap TO a b) ∧ s.heap.IsListIter i1 l1 i ∧ s.heap.IsListIter i2 l2 i ∧ s.heap.IsList l1 xs ∧ s.heap.IsList l2 ys ∧
    RdL X s.heap d1 (xs.toList.drop i) ∧ RdL X s.heap d2 (ys.toList.drop i) ∧ ds = zipD d1 d2

theorem iter_zip {tgt : Expr} {z TI TO i1 i2 l1 l2 : Addr} {xs ys : Array Value} (ht : tupTgt tgt = true) (Ap : ZipApart z TI TO i1 i2 l1 l2) (hY : ∀ b, YZip z TO i1 i2 b → X b) (hTI : ¬ X TI) (h1 : ¬ X l1) (h2 : ¬ X l2) :
    Iter P tgt X (YZip z TO i1 i2) (.ref z) (JZip X z TI TO i1 i2 l1 l2 xs ys) where
  next := fun A s d ds hh a j0 => by
    obtain ⟨i, d1, d2, j1, j2, ⟨ta, tb, j3⟩, j4, j5, j6, j7, r1, r2, e⟩ := j0
    cases d1 with
    | nil => simp [zipD] at e
    | cons u1 d1 =>
      cases d2 with
      | nil => simp [zipD] at e
      | cons u2 d2 =>
        unfold zipD at e
        obtain ⟨rfl, rfl⟩ := List.cons.inj e
        obtain ⟨v1, hv1, q1, t1⟩ := rdL_uncons r1
        obtain ⟨v2, hv2, q2, t2⟩ := rdL_uncons r2
        have ntY : ∀ b, YZip z TO i1 i2 b → ∀ t ∈ P.tabs, b ≠ t.P := fun b y => by
          rcases y with rfl | rfl | rfl | rfl
          · exact notTab_of a j1 (nt_cls rfl)
          · exact notTab_of a j3 (nt_cls rfl)
          · obtain ⟨o, ho, hn⟩ := nt_listIter j4; exact notTab_of a ho hn
          · obtain ⟨o, ho, hn⟩ := nt_listIter j5; exact notTab_of a ho hn
        refine wpAny_pyNext_zip_item Ap j1 j2 j3 j4 j5 j6 j7 hv1 hv2 fun h' k1 k2 k3 k4 k5 k6 k7 => ⟨_, rfl, ?_⟩
        cases tgt <;> first | (exact absurd ht Bool.false_ne_true) | skip
        rename_i elts kk pos
        refine wpAny_letOwnedTupleGo_zip k1 fun h'' k1' hs => ?_
        have nz : ¬ X s.heap.objs.size := fresh_not a
        have Tz : s.heap.objs.size ≠ z := fun q => nz (q ▸ hY z (.inl rfl))
        have keep : ∀ b o, ¬ YZip z TO i1 i2 b → s.heap.get? b = some o → h''.get? b = some o := fun b o y e =>
          hs.extBut b o (fun q => y (.inl q)) (k7 b o (fun q => y (.inl q)) (fun q => y (.inr (.inl q))) (fun q => y (.inr (.inr (.inl q)))) (fun q => y (.inr (.inr (.inr q)))) e)
        have st : HStep P (YZip z TO i1 i2) s.heap h'' := HStep.but a hY ntY keep (by rw [hs.1, k6]; exact Nat.le_succ _)
        have ag : Agree X s.heap h'' := st.keep.weak hY
        have up : ∀ {c : Addr} {o : Obj}, c ≠ z → h'.get? c = some o → h''.get? c = some o := fun hc e => hs.extBut _ _ hc e
        refine ⟨step_heap st, ?_, i + 1, d1, d2, k1', up Ap.TIz (k7 _ _ Ap.TIz Ap.TITO Ap.TIi1 Ap.TIi2 j2), ⟨_, _, up Ap.TOz k2⟩, k3.extBut hs.extBut Ap.i1z, ?_, isList_agree ag h1 j6, isList_agree ag h2 j7, t1.mono ag fun _ y => y, t2.mono ag fun _ y => y, rfl⟩
        · simp only [Rd]
          exact ⟨_, #[v1, v2], rfl, nz, ⟨_, up Tz k5, rfl, _, rfl⟩, by simp only [RdL]; exact ⟨v1, _, rfl, q1.mono ag fun _ y => y, v2, _, rfl, q2.mono ag fun _ y => y, rfl⟩⟩
        · refine k4.extBut hs.extBut fun q => ?_
          obtain ⟨o, ho, hc, _⟩ := j5
          have := hY i2 (.inr (.inr (.inr rfl)))
          subst q
          have j1' : s.heap.get? i2 = _ := j1
          rw [ho] at j1'
          cases j1'
          have hc' : (Value.type "zip") = .type "list_iterator" := hc
          injection hc' with hc'
          exact absurd hc' (by decide)
  stop := fun A s hh a j0 => by
    obtain ⟨i, d1, d2, j1, j2, ⟨ta, tb, j3⟩, j4, j5, j6, j7, r1, r2, e⟩ := j0
    have hend : xs[i]? = none ∨ ys[i]? = none := by
      cases d1 with
      | nil => exact .inl (rdL_end r1)
      | cons u1 d1 =>
        cases d2 with
        | nil => exact .inr (rdL_end r2)
        | cons u2 d2 => simp [zipD] at e
    have ntY : ∀ b, YZip z TO i1 i2 b → ∀ t ∈ P.tabs, b ≠ t.P := fun b y => by
      rcases y with rfl | rfl | rfl | rfl
      · exact notTab_of a j1 (nt_cls rfl)
      · exact notTab_of a j3 (nt_cls rfl)
      · obtain ⟨o, ho, hn⟩ := nt_listIter j4; exact notTab_of a ho hn
      · obtain ⟨o, ho, hn⟩ := nt_listIter j5; exact notTab_of a ho hn
    refine wpAny_mono (sized (wpAny_pyNext_zip_end (Q := fun r s' => r = none ∧ ∃ h', s' = { s with heap := h' } ∧ ∀ c o, c ≠ z → c ≠ TO → c ≠ i1 → c ≠ i2 → s.heap.get? c = some o → h'.get? c = some o) (E := F0) hh Ap j1 j2 j3 j4 j5 j6 j7 hend fun h' hk => ⟨rfl, h', rfl, hk⟩))
      (fun r s' ⟨sz, e, h', e', hk⟩ => ?_) fun _ _ x => x
    subst e'
    exact ⟨e, step_heap (HStep.but a hY ntY (fun b o y => hk b o (fun q => y (.inl q)) (fun q => y (.inr (.inl q))) (fun q => y (.inr (.inr (.inl q)))) (fun q => y (.inr (.inr (.inr q))))) sz)⟩
  frame := fun Z s s' ds a j0 st hz hzx => by
    obtain ⟨i, d1, d2, j1, j2, ⟨ta, tb, j3⟩, ⟨o4, a4, b4, c4⟩, ⟨o5, a5, b5, c5⟩, j6, j7, r1, r2, e⟩ := j0
    have ag : Agree X s.heap s'.heap := st.heap.keep.weak hzx
    have nZ : ∀ b, YZip z TO i1 i2 b → ¬ Z b := fun b y q => hz b q y
    exact ⟨i, d1, d2, st.heap.keep _ _ (nZ _ (.inl rfl)) (nt_cls rfl) j1, st.heap.keep _ _ (fun q => hTI (hzx _ q)) (nt_cls rfl) j2, ⟨ta, tb, st.heap.keep _ _ (nZ _ (.inr (.inl rfl))) (nt_cls rfl) j3⟩,
      ⟨o4, st.heap.keep _ _ (nZ _ (.inr (.inr (.inl rfl)))) (nt_cls b4) a4, b4, c4⟩, ⟨o5, st.heap.keep _ _ (nZ _ (.inr (.inr (.inr rfl)))) (nt_cls b5) a5, b5, c5⟩, isList_agree ag h1 j6, isList_agree ag h2 j7, r1.mono ag fun _ y => y, r2.mono ag fun _ y => y, e⟩
  self := fun A s ds Q E ⟨i, d1, d2, j1, _⟩ q => wpAny_pyIter_zip j1 q
  sub := hY

theorem evit_zip {tgt : Expr} {xp pos : Pos} {e e' : Expr} {ds ds' : List D} (p : PrmOK P) (g : Glo P "zip" (.type "zip")) (he : Ev P n sc ρ e (.list ds)) (he' : Ev P n sc ρ e' (.list ds'))
    (ht : tupTgt tgt = true := by rfl) (hx : sc.names.lookup (Str.ofString "zip") = some .globalImplicit := by rfl) (hs : isStarred e = false := by rfl) (hs' : isStarred e' = false := by rfl) : EvIt P n sc ρ tgt (.Call (.Name "zip" xp) [e, e'] [] pos) (zipD ds ds') := fun X env A s e0 rm => by
  show wpAny _ A (do callWith pos (← eval (.Name "zip" xp) env) [] (backTo pos (starEach [e, e'] env)) []) _ _ s
  refine wpAny_bind (eval_glo p e0 g hx (PyProof.Rows.callWith_type (by rw [starEach_plain hs, starEach_plain hs']; rfl) (evalArgs_evl (evl_cons he (evl_cons he' evl_nil hs') hs) e0 rm fun vs s1 st1 e1 r1 => ?_)))
  simp only [RdL] at r1
  obtain ⟨v, _, rfl, r1, w, _, rfl, r2, rfl⟩ := r1
  obtain ⟨l1, xs, rfl, hx1, hl1, hr1⟩ := list_rd r1
  obtain ⟨l2, ys, rfl, hx2, hl2, hr2⟩ := list_rd r2
  have lt1 := lt_of_isList hl1
  have lt2 := lt_of_isList hl2
  refine call_zip_2 hl1 hl2 fun h' k1 k2 k3 k4 k5 k6 k7 => ?_
  generalize hB : s1.heap.objs.size = B at *
  have st2 : Step P E0 s1 { s1 with heap := h' } := step_heap (.of_keeps k7 (by (clear hx1 hx2 lt1 lt2; omega)))
  have pit : wpAny (model P.prog P.w) A (pyIter (.ref (B + 4))) (fun it s2 => it = .ref (B + 4) ∧ s2 = { s1 with heap := h' }) F0 { s1 with heap := h' } := wpAny_pyIter_zip k1 ⟨rfl, rfl⟩
  refine wpAny_mono pit (fun it s2 ⟨q1, q2⟩ => ?_) fun _ _ x => x
  subst q1 q2
  have hsz := st1.heap.size
  have fr : ∀ b, YZip (B + 4) (B + 3) B (B + 1) b → B ≤ b := fun b y => by rcases y with rfl | rfl | rfl | rfl <;> first | exact Nat.le_refl _ | exact Nat.le_add_right _ _
  refine ⟨YZip (B + 4) (B + 3) B (B + 1), st1.trans st2, fun b y => Nat.le_trans (hB ▸ hsz) (fr b y), ?_, fun W s' st hW aW => ?_⟩
  · refine e1.at'.more2 (e1.at'.step st2.heap) fun c y => ⟨by rw [hB]; exact fr c y, ?_⟩
    rcases y with rfl | rfl | rfl | rfl
    · exact ⟨_, k1, nc_cls rfl⟩
    · exact ⟨_, k3, nc_cls rfl⟩
    · obtain ⟨o, ho, hc, _⟩ := k4; exact ⟨o, ho, nc_cls hc⟩
    · obtain ⟨o, ho, hc, _⟩ := k5; exact ⟨o, ho, nc_cls hc⟩
  · have hW' : ∀ b, W b → B + 5 ≤ b := fun b w => by have := hW b w; simp only at this; rw [k6] at this; exact this
    have below : ∀ b, X b → b < B := fun b x => by have := e1.at'.below b x; rw [hB] at this; exact this
    have nX : ∀ {b}, b < B + 5 → ¬ X b → ¬ YZip (B + 4) (B + 3) B (B + 1) b → ¬ Un (Un X (YZip (B + 4) (B + 3) B (B + 1))) W b := fun hb hx hy q => q.elim (fun q => q.elim hx hy) fun w => Nat.lt_irrefl _ (Nat.lt_of_lt_of_le hb (hW' _ w))
    have old : ∀ {l}, l < B → ¬ YZip (B + 4) (B + 3) B (B + 1) l := fun hl y => Nat.lt_irrefl _ (Nat.lt_of_lt_of_le hl (fr _ y))
    have lift : ∀ {ds : List D} {vs : List Value}, RdL X s1.heap ds vs → RdL (Un (Un X (YZip (B + 4) (B + 3) B (B + 1))) W) s'.heap ds vs := fun r =>
      (((r.fresh (Y := YZip (B + 4) (B + 3) B (B + 1)) fun b y => by rw [hB]; exact fr b y).fresh (Y := W) fun b w => by rw [hB]; exact Nat.le_trans (Nat.le_add_right _ _) (hW' b w))).mono ((st2.trans st).heap.keep.weak fun _ y => y.elim) fun _ y => y
    have kp : ∀ {c : Addr} {o : Obj} {T : String}, o.cls = .type T → h'.get? c = some o → s'.heap.get? c = some o := fun hc e => st.heap.keep _ _ (fun y => y) (nt_cls hc) e
    have lA : s'.heap.IsList l1 xs := isList_agree (st2.trans st).heap.keep (fun y => y) hl1
    have lB : s'.heap.IsList l2 ys := isList_agree (st2.trans st).heap.keep (fun y => y) hl2
    refine ⟨JZip _ (B + 4) (B + 2) (B + 3) B (B + 1) l1 l2 xs ys, iter_zip ht ?_ (fun b y => .inl (.inr y)) (nX (Nat.add_lt_add_left (by decide) B) (fun x => Nat.lt_irrefl _ (Nat.lt_of_le_of_lt (Nat.le_add_right _ _) (below _ x))) (fun y => ?_)) (nX (Nat.lt_of_lt_of_le lt1 (Nat.le_add_right _ _)) hx1 (old lt1)) (nX (Nat.lt_of_lt_of_le lt2 (Nat.le_add_right _ _)) hx2 (old lt2)),
      0, ds, ds', kp rfl k1, kp rfl k2, ⟨_, _, kp rfl k3⟩, ?_, ?_, lA, lB, by simpa using lift hr1, by simpa using lift hr2, rfl⟩
    · have a1 : @LT.lt Nat _ l1 B := lt1
      have a2 : @LT.lt Nat _ l2 B := lt2
      constructor <;> (intro q; have q' : @Eq Nat _ _ := q; omega)
    · rcases y with y | y | y | y <;> (have y' : @Eq Nat _ _ := y; (clear hx1 hx2 hB lt1 lt2 k6 hsz y; omega))
    · obtain ⟨o, ho, hc, hd⟩ := k4; exact ⟨o, kp hc ho, hc, hd⟩
    · obtain ⟨o, ho, hc, hd⟩ := k5; exact ⟨o, kp hc ho, hc, hd⟩
end
end Mine
end
section
open PySem PySem.W PySem.Calls PyProof.Rows
set_option Elab.async false
set_option maxRecDepth 100000
set_option linter.unusedVariables false
namespace Mine

noncomputable def enumD : Nat → List D → List D
  | i, d :: ds => .tup [.int i, d] :: enumD (i + 1) ds
  | _, [] => []

section
variable {P : Prm} {X X' Y Z : ASet} {env : Env} {sc scope : Scope} {ρ ρ' ρc : Rho} {s s' s₀ : Shared} {A : Around} {n : Nat} {h h' : Heap}

noncomputable abbrev YEnum (e it : Addr) : ASet := fun b => b = e ∨ b = it
noncomputable def JEnum (X : ASet) (e it l : Addr) (xs : Array Value) (ds : List D) (s : Shared) : Prop :=
  ∃ (i : Nat) (old : Value) (d : List D), IsEnum s.heap e it (i : Int) old ∧ s.heap.IsListIter it l i ∧ s.heap.IsList l xs ∧ RdL X s.heap d (xs.toList.drop i) ∧ ds = enumD i d

theorem iter_enum {tgt : Expr} {e it l : Addr} {xs : Array Value} (ht : tupTgt tgt = true) (hei : e ≠ it) (hY : ∀ b, YEnum e it b → X b) (h1 : ¬ X l) : Iter P tgt X (YEnum e it) (.ref e) (JEnum X e it l xs) where
  next := fun A s d ds hh a j0 => by
    obtain ⟨i, old, d1, j1, j2, j3, r1, q⟩ := j0
    cases d1 with
    | nil => simp [enumD] at q
    | cons u1 d1 =>
      unfold enumD at q
      obtain ⟨rfl, rfl⟩ := List.cons.inj q
      obtain ⟨v1, hv1, q1, t1⟩ := rdL_uncons r1
      obtain ⟨oi, hoi, hci, hdi⟩ := id j2
      have ntY : ∀ b, YEnum e it b → ∀ t ∈ P.tabs, b ≠ t.P := fun b y => by
        rcases y with rfl | rfl
        · exact notTab_of a j1 (nt_cls rfl)
        · exact notTab_of a hoi (nt_cls hci)
      refine wpAny_pyNext_enum_item j1 j2 j3 hv1 hei fun h' k1 k2 k3 k4 k5 => ⟨_, rfl, ?_⟩
      cases tgt <;> first | (exact absurd ht Bool.false_ne_true) | skip
      rename_i elts kk pos
      refine wpAny_letOwnedTupleGo_enum k1 fun h'' k1' hs => ?_
      have nz : ¬ X s.heap.objs.size := fresh_not a
      have Te : s.heap.objs.size ≠ e := fun q => nz (q ▸ hY e (.inl rfl))
      have keep : ∀ b o, ¬ YEnum e it b → s.heap.get? b = some o → h''.get? b = some o := fun b o y eb =>
        hs.extBut b o (fun q => y (.inl q)) (k5 b o (fun q => y (.inl q)) (fun q => y (.inr q)) eb)
      have st : HStep P (YEnum e it) s.heap h'' := HStep.but a hY ntY keep (by rw [hs.1, k4]; exact Nat.le_succ _)
      have ag : Agree X s.heap h'' := st.keep.weak hY
      refine ⟨step_heap st, ?_, i + 1, v1, d1, by simpa using k1', k2.extBut hs.extBut (Ne.symm hei), isList_agree ag h1 j3, t1.mono ag fun _ y => y, rfl⟩
      simp only [Rd]
      refine ⟨_, #[.int i s.toks, v1], rfl, nz, ⟨_, hs.extBut _ _ Te k3, rfl, _, rfl⟩, ?_⟩
      simp only [RdL, Rd]
      exact ⟨_, _, rfl, ⟨_, rfl⟩, v1, _, rfl, q1.mono ag fun _ y => y, rfl⟩
  stop := fun A s hh a j0 => by
    obtain ⟨i, old, d1, j1, j2, j3, r1, q⟩ := j0
    have hend : xs[i]? = none := by
      cases d1 with
      | nil => exact rdL_end r1
      | cons u1 d1 => simp [enumD] at q
    obtain ⟨oi, hoi, hci, hdi⟩ := id j2
    refine wpAny_mono (stop_ext a (hY it (.inr rfl)) (notTab_of a hoi (nt_cls hci)) fun Q hq => wpAny_pyNext_enum_end hh j1 j2 j3 hend hq) (fun r s' ⟨p, q⟩ => ⟨p, q.weak fun b y => .inr y⟩) fun _ _ x => x
  frame := fun Z s s' ds a j0 st hz hzx => by
    obtain ⟨i, old, d1, j1, ⟨oi, hoi, hci, hdi⟩, j3, r1, q⟩ := j0
    have ag : Agree X s.heap s'.heap := st.heap.keep.weak hzx
    exact ⟨i, old, d1, st.heap.keep _ _ (fun z => hz _ z (.inl rfl)) (nt_cls rfl) j1, ⟨oi, st.heap.keep _ _ (fun z => hz _ z (.inr rfl)) (nt_cls hci) hoi, hci, hdi⟩, isList_agree ag h1 j3, r1.mono ag fun _ y => y, q⟩
  self := fun A s ds Q E ⟨i, old, d1, j1, _⟩ q => wpAny_pyIter_enum j1 q
  sub := hY

theorem evit_enum {tgt : Expr} {xp pos : Pos} {e : Expr} {ds : List D} (p : PrmOK P) (g : Glo P "enumerate" (.type "enumerate")) (he : Ev P n sc ρ e (.list ds))
    (ht : tupTgt tgt = true := by rfl) (hx : sc.names.lookup (Str.ofString "enumerate") = some .globalImplicit := by rfl) (hs : isStarred e = false := by rfl) : EvIt P n sc ρ tgt (.Call (.Name "enumerate" xp) [e] [] pos) (enumD 0 ds) := fun X env A s e0 rm => by
  show wpAny _ A (do callWith pos (← eval (.Name "enumerate" xp) env) [] (backTo pos (starEach [e] env)) []) _ _ s
  refine wpAny_bind (eval_glo p e0 g hx (PyProof.Rows.callWith_type (by rw [starEach_plain hs]; rfl) (evalArgs_evl (evl_cons he evl_nil hs) e0 rm fun vs s1 st1 e1 r1 => ?_)))
  simp only [RdL] at r1
  obtain ⟨v, _, rfl, r1, rfl⟩ := r1
  obtain ⟨l1, xs, rfl, hx1, hl1, hr1⟩ := list_rd r1
  have lt1 := lt_of_isList hl1
  refine call_enumerate_list hl1 fun h' k1 k4 k6 k7 => ?_
  generalize hB : s1.heap.objs.size = B at *
  have st2 : Step P E0 s1 { s1 with heap := h' } := step_heap (.of_keeps k7 (by (clear hx1 lt1; omega)))
  have pit : wpAny (model P.prog P.w) A (pyIter (.ref (B + 1))) (fun it s2 => it = .ref (B + 1) ∧ s2 = { s1 with heap := h' }) F0 { s1 with heap := h' } := wpAny_pyIter_enum k1 ⟨rfl, rfl⟩
  refine wpAny_mono pit (fun it s2 ⟨q1, q2⟩ => ?_) fun _ _ x => x
  subst q1 q2
  have hsz := st1.heap.size
  have fr : ∀ b, YEnum (B + 1) B b → B ≤ b := fun b y => by rcases y with rfl | rfl <;> first | exact Nat.le_refl _ | exact Nat.le_add_right _ _
  refine ⟨YEnum (B + 1) B, st1.trans st2, fun b y => Nat.le_trans (hB ▸ hsz) (fr b y), ?_, fun W s' st hW aW => ?_⟩
  · refine e1.at'.more2 (e1.at'.step st2.heap) fun c y => ⟨by rw [hB]; exact fr c y, ?_⟩
    rcases y with rfl | rfl
    · exact ⟨_, k1, nc_cls rfl⟩
    · obtain ⟨o, ho, hc, _⟩ := k4; exact ⟨o, ho, nc_cls hc⟩
  · have hW' : ∀ b, W b → B + 2 ≤ b := fun b w => by have := hW b w; simp only at this; rw [k6] at this; exact this
    have old : ¬ YEnum (B + 1) B l1 := fun y => Nat.lt_irrefl _ (Nat.lt_of_lt_of_le lt1 (fr _ y))
    have nX : ¬ Un (Un X (YEnum (B + 1) B)) W l1 := fun q => q.elim (fun q => q.elim hx1 old) fun w => Nat.lt_irrefl _ (Nat.lt_of_lt_of_le lt1 (Nat.le_trans (Nat.le_add_right _ _) (hW' _ w)))
    have lift : RdL (Un (Un X (YEnum (B + 1) B)) W) s'.heap ds xs.toList :=
      (((hr1.fresh (Y := YEnum (B + 1) B) fun b y => by rw [hB]; exact fr b y).fresh (Y := W) fun b w => by rw [hB]; exact Nat.le_trans (Nat.le_add_right _ _) (hW' b w))).mono ((st2.trans st).heap.keep.weak fun _ y => y.elim) fun _ y => y
    have kp : ∀ {c : Addr} {o : Obj} {T : String}, o.cls = .type T → h'.get? c = some o → s'.heap.get? c = some o := fun hc e => st.heap.keep _ _ (fun y => y) (nt_cls hc) e
    refine ⟨JEnum _ (B + 1) B l1 xs, iter_enum ht (fun q => by have q' : @Eq Nat _ _ := q; (clear hx1 hB lt1 k6 hsz old nX q; omega)) (fun b y => .inl (.inr y)) nX, 0, .none, ds, by simpa using kp rfl k1, ?_, isList_agree (st2.trans st).heap.keep (fun y => y) hl1, by simpa using lift, rfl⟩
    obtain ⟨o, ho, hc, hd⟩ := k4; exact ⟨o, kp hc ho, hc, hd⟩

-- reversed
noncomputable def JRev (X : ASet) (I l : Addr) (xs : Array Value) (ds : List D) (s : Shared) : Prop :=
  ∃ i : Nat, i ≤ xs.size ∧ s.heap.IsRevIter I l ((i : Int) - 1) ∧ s.heap.IsList l xs ∧ RdL X s.heap ds (xs.toList.take i).reverse
theorem iter_rev {tgt : Expr} {I l : Addr} {xs : Array Value} (ht : nameTgt tgt = true) (hI : X I) (h1 : ¬ X l) : Iter P tgt X (One I) (.ref I) (JRev X I l xs) where
  next := fun A s d ds hh a j0 => by
    obtain ⟨i, hi, j1, j2, r⟩ := j0
    cases i with
    | zero => simp [RdL] at r
    | succ i =>
      have hlt : i < xs.size := by (clear h1; omega)
      have e : (xs.toList.take (i + 1)).reverse = xs[i] :: (xs.toList.take i).reverse := by
        rw [List.take_add_one]; simp [hlt]
      rw [e] at r
      simp only [RdL] at r
      obtain ⟨v, vr, q, r1, r2⟩ := r
      obtain ⟨q1, q2⟩ := List.cons.inj q
      subst q1 q2
      obtain ⟨o, ho, hc, hd⟩ := id j1
      refine wpAny_pyNext_rev_item (i := i) (x := xs[i]) (by simpa using j1) j2 (by simp [hlt]) fun h' k1 hs => ⟨_, rfl, ?_⟩
      rw [letGo_name ht]
      have st : HStep P (One I) s.heap h' := HStep.update a hI (notTab_of a ho (nt_cls hc)) hs
      have ag : Agree X s.heap h' := st.keep.weak fun b y => (show b = I from y) ▸ hI
      exact wpAny_pure ⟨step_heap st, r1.mono ag fun _ y => y, i, by (clear h1; omega), k1, isList_agree ag h1 j2, r2.mono ag fun _ y => y⟩
  stop := fun A s hh a j0 => by
    obtain ⟨i, hi, j1, j2, r⟩ := j0
    have hi0 : i = 0 := by
      simp only [RdL] at r
      have := congrArg List.length r
      simp [Nat.min_eq_left hi] at this
      rcases this with h | h <;> (clear h1 hi; omega)
    subst hi0
    obtain ⟨o, ho, hc, hd⟩ := id j1
    exact stop_ext a hI (notTab_of a ho (nt_cls hc)) fun Q hq => wpAny_pyNext_rev_end hh (by simpa using j1) hq
  frame := fun Z s s' ds a j0 st hz hzx => by
    obtain ⟨i, hi, ⟨o, ho, hc, hd⟩, j2, r⟩ := j0
    have ag : Agree X s.heap s'.heap := st.heap.keep.weak hzx
    exact ⟨i, hi, ⟨o, st.heap.keep _ _ (fun z => hz _ z rfl) (nt_cls hc) ho, hc, hd⟩, isList_agree ag h1 j2, r.mono ag fun _ y => y⟩
  self := fun A s ds Q E ⟨i, hi, j1, _⟩ q => wpAny_pyIter_revIter j1 q
  sub := fun b y => (show b = I from y) ▸ hI

theorem evit_rev {tgt : Expr} {xp pos : Pos} {e : Expr} {ds : List D} (p : PrmOK P) (g : Glo P "reversed" (.type "reversed")) (he : Ev P n sc ρ e (.list ds))
    (ht : nameTgt tgt = true := by rfl) (hx : sc.names.lookup (Str.ofString "reversed") = some .globalImplicit := by rfl) (hs : isStarred e = false := by rfl) : EvIt P n sc ρ tgt (.Call (.Name "reversed" xp) [e] [] pos) ds.reverse := fun X env A s e0 rm => by
  show wpAny _ A (do callWith pos (← eval (.Name "reversed" xp) env) [] (backTo pos (starEach [e] env)) []) _ _ s
  refine wpAny_bind (eval_glo p e0 g hx (PyProof.Rows.callWith_type (by rw [starEach_plain hs]; rfl) (evalArgs_evl (evl_cons he evl_nil hs) e0 rm fun vs s1 st1 e1 r1 => ?_)))
  simp only [RdL] at r1
  obtain ⟨v, _, rfl, r1, rfl⟩ := r1
  obtain ⟨l1, xs, rfl, hx1, hl1, hr1⟩ := list_rd r1
  have lt1 := lt_of_isList hl1
  have hlen := rdL_length hr1
  refine call_reversed_list hl1 ?_
  have hO : (s1.heap.push (revObj l1 ((xs.size : Int) - 1))).IsRevIter s1.heap.objs.size l1 ((xs.size : Int) - 1) := ⟨_, Heap.get?_push_size _ rfl, rfl, rfl⟩
  have pit : wpAny (model P.prog P.w) A (pyIter (.ref s1.heap.objs.size)) (fun it s2 => it = .ref s1.heap.objs.size ∧ s2 = { s1 with heap := s1.heap.push (revObj l1 ((xs.size : Int) - 1)) }) F0 { s1 with heap := s1.heap.push (revObj l1 ((xs.size : Int) - 1)) } := wpAny_pyIter_revIter hO ⟨rfl, rfl⟩
  refine wpAny_mono pit (fun it s2 ⟨q1, q2⟩ => ?_) fun _ _ x => x
  subst q1 q2
  refine ⟨One s1.heap.objs.size, st1.trans step_push, fun b y => (show b = _ from y) ▸ st1.heap.size, e1.at'.more (e1.at'.step (HStep.push (Y := E0) _)) (Nat.le_refl _) (Heap.get?_push_size _ rfl) (nc_cls rfl), fun W s' st hW aW => ?_⟩
  have hW' : ∀ b, W b → s1.heap.objs.size < b := fun b w => by have := hW b w; rw [Heap.size_push] at this; exact this
  have nx : ¬ Un (Un X (One s1.heap.objs.size)) W l1 := fun y => y.elim (fun y => y.elim hx1 fun y => Nat.ne_of_lt lt1 y) fun w => Nat.lt_irrefl _ (Nat.lt_trans lt1 (hW' _ w))
  have lift : RdL (Un (Un X (One s1.heap.objs.size)) W) s'.heap ds.reverse xs.toList.reverse :=
    (((rdL_reverse hr1).fresh (Y := One s1.heap.objs.size) fun b y => Nat.le_of_eq (Eq.symm y)).fresh (Y := W) fun b w => Nat.le_of_lt (hW' b w)).mono (new_agree.trans (st.heap.keep.weak fun _ y => y.elim)) fun _ y => y
  refine ⟨JRev _ s1.heap.objs.size l1 xs, iter_rev ht (.inl (.inr rfl)) nx, xs.size, Nat.le_refl _, ?_, isList_agree (new_agree.trans st.heap.keep) (fun y => y) hl1, ?_⟩
  · obtain ⟨o, ho, hc, hd⟩ := hO
    exact ⟨o, st.heap.keep _ _ (fun y => y) (nt_cls hc) ho, hc, hd⟩
  · rw [List.take_of_length_le (by simp)]; exact lift
end
end Mine
end
section
open PySem PySem.W PySem.Calls PyProof.Rows
set_option Elab.async false
set_option maxRecDepth 100000
set_option linter.unusedVariables false
namespace Mine

section
variable {P : Prm} {X X' Y Z : ASet} {env : Env} {sc scope : Scope} {ρ ρ' ρc : Rho} {s s' s₀ : Shared} {A : Around} {n : Nat} {h h' : Heap}

theorem rdL_one {d : D} {vs : List Value} (r : RdL X h [d] vs) : ∃ v, vs = [v] ∧ Rd X h d v := by
  simp only [RdL] at r; obtain ⟨v, _, rfl, r, rfl⟩ := r; exact ⟨v, rfl, r⟩
theorem rdL_two {d e : D} {vs : List Value} (r : RdL X h [d, e] vs) : ∃ v w, vs = [v, w] ∧ Rd X h d v ∧ Rd X h e w := by
  simp only [RdL] at r; obtain ⟨v, _, rfl, r, w, _, rfl, r', rfl⟩ := r; exact ⟨v, w, rfl, r, r'⟩

theorem call_lenL {ds : List D} (hf : ds.length < 2 ^ 62) : CallOK P n (.builtin "len") [.list ds] (.int ds.length) := fun X A s vs at' rm r0 => by
  obtain ⟨v, rfl, r⟩ := rdL_one r0
  obtain ⟨a, us, rfl, hx, hl, hr⟩ := list_rd r
  have hlen : ds.length = us.size := by simpa using rdL_length hr
  refine Calls.call_len_list hl (by (clear hx; omega)) ⟨step_toks, ?_⟩
  rw [hlen]; exact rd_int
theorem call_lenT {ds : List D} (hf : ds.length < 2 ^ 62) : CallOK P n (.builtin "len") [.tup ds] (.int ds.length) := fun X A s vs at' rm r0 => by
  obtain ⟨v, rfl, r⟩ := rdL_one r0
  obtain ⟨a, us, rfl, hx, hl, hr⟩ := tup_rd r
  have hlen : ds.length = us.size := by simpa using rdL_length hr
  refine PyProof.Rows.len_tuple hl (by (clear hx; omega)) ⟨step_toks, ?_⟩
  rw [hlen]; exact rd_int
theorem call_lenS {x : Str} (hf : x.length < 2 ^ 62) : CallOK P n (.builtin "len") [.str x] (.int x.length) := fun X A s vs at' rm r0 => by
  obtain ⟨v, rfl, r⟩ := rdL_one r0
  obtain ⟨t, rfl⟩ := str_rd r
  exact PyProof.Rows.len_str (by omega) ⟨step_toks, rd_int⟩
theorem call_chr {i : Int} (h0 : 0 ≤ i) (h1 : i ≤ 100000) : CallOK P n (.builtin "chr") [.int i] (.str ⟨#[i.toNat]⟩) := fun X A s vs at' rm r0 => by
  obtain ⟨v, rfl, r⟩ := rdL_one r0
  obtain ⟨t, rfl⟩ := int_rd r
  exact chr_of_range h0 (by omega) ⟨step_toks, rd_str⟩
theorem call_int {i : Int} : CallOK P n (.type "int") [.int i] (.int i) := fun X A s vs at' rm r0 => by
  obtain ⟨v, rfl, r⟩ := rdL_one r0
  obtain ⟨t, rfl⟩ := int_rd r
  exact call_int_int ⟨.refl, rd_int⟩

-- tuple(list): the size is wanted, so the collecting is told anew
theorem collect_sized {prog : Program} {w : World} {E : Value → Shared → Prop} {Q : List Value → Shared → Prop} (it : Addr) {o : Obj} {items : Array Value} {k : Nat} (ho : s.heap.get? it = some o) (hc : o.cls = .type "list") (hd : o.data = .seq items k)
    (hQ : ∀ h', (∀ b o', s.heap.get? b = some o' → h'.get? b = some o') → s.heap.objs.size ≤ h'.objs.size → Q items.toList { s with heap := h' }) (hz : items.size ≤ sizeLine) :
    wpAny (model prog w) A (collect (.ref it)) Q E s :=
  wpAny_mono (sized (wpAny_collect_seq (Q := fun l s' => l = items.toList ∧ ∃ h', s' = { s with heap := h' } ∧ ∀ b o', s.heap.get? b = some o' → h'.get? b = some o') (E := E) it (.inl rfl) ho hc hd (fun h' k => ⟨rfl, h', rfl, k⟩) hz))
    (fun l s' ⟨sz, e, h', e', k⟩ => by subst e e'; exact hQ h' k sz) fun _ _ x => x

theorem meets_tuple_sized (l : Addr) (o : Obj) (items : Array Value) (k : Nat) (hc : o.cls = .type "list") (hd : o.data = .seq items k) (hz : items.size ≤ sizeLine) :
    Meets (Builtin.«tuple.__new__» ⟨[.type "tuple", .ref l], []⟩)
      (fun _ R s => s.heap.get? l = some o ∧ ∀ h' : Heap, (∀ b o', s.heap.get? b = some o' → h'.get? b = some o') → s.heap.objs.size ≤ h'.objs.size → R (.ok (.ret (.ref h'.objs.size))) { s with heap := h'.push { cls := .type "tuple", data := .seq items } }) :=
  .of_wp fun prog w A R s h => by
    obtain ⟨hp, g, d, tk, os⟩ := s; obtain ⟨ht, h⟩ := h
    have hsub := sub_tuple_self
    have hinit := init_tuple_lookup
    have hmh := madeHere_tuple
    have hT : Shared.TypeIs ⟨hp, g, d, tk, os⟩ (.ref l) "list" := ⟨o, ht, hc⟩
    wp_walk using AutoSeq1.wpAny_loadPart' ht, wpAny_typeOf hT, collect_sized (hz := hz) l ht hc hd
    intro h' hk hsz
    show wpAny _ _ (Builtin.Tuple.tupleExact items.toList.toArray >>= fun v => ret v) _ _ _
    unfold Builtin.Tuple.tupleExact
    refine wpAny_bind (wpAny_newObj_type ?_ (by show items.toList.toArray.size ≤ sizeLine; simpa using hz))
    refine wpAny_pure ⟨_, rfl, ?_⟩
    rw [show items.toList.toArray = items from by simp]
    exact h h' hk hsz

theorem call_tupleL {ds : List D} (hf : ds.length ≤ 1000000) : CallOK P n (.type "tuple") [.list ds] (.tup ds) := fun X A s vs at' rm r0 => by
  obtain ⟨v, rfl, r⟩ := rdL_one r0
  obtain ⟨a, us, rfl, hx, hl, hr⟩ := list_rd r
  have hlen : ds.length = us.size := by simpa using rdL_length hr
  obtain ⟨o, ho, hc, k, hd⟩ := hl
  refine callType_new F.called_tuple (by decide) (F.typeCall_tuple_1 _) (F.newCall_tuple_1 _) (fun obj => F.args_object_init_2 obj _) F.entry_tuple_new
    (meets_tuple_sized a o us k hc hd (by rw [sizeLine_eq]; (clear hx; omega))) ⟨ho, fun h' hk sz => ⟨⟨_, Heap.get?_push_size _ rfl, rfl⟩, ?_⟩⟩
  have kk : ∀ b o', s.heap.get? b = some o' → (h'.push { cls := .type "tuple", data := .seq us }).get? b = some o' := fun b o e => Heap.get?_push_of_some _ (hk b o e)
  refine ⟨step_heap (.of_keeps kk (by rw [Heap.size_push]; (clear hf hx hlen; omega))), ?_⟩
  simp only [Rd]
  exact ⟨_, us, rfl, fun x => Nat.lt_irrefl _ (Nat.lt_of_lt_of_le (at'.below _ x) sz), ⟨_, Heap.get?_push_size _ rfl, rfl, _, rfl⟩, hr.mono (fun b o _ _ e => kk b o e) fun _ y => y⟩

theorem intItems_of : ∀ {vs : List Value} {ns : List Int}, IntsAre vs ns → ∃ xs : List (Int × Tok), vs = xs.map (fun p => Value.int p.1 p.2) ∧ xs.map (·.1) = ns
  | _, _, .nil => ⟨[], rfl, rfl⟩
  | _, _, .cons i t r => by
    obtain ⟨xs, h1, h2⟩ := intItems_of r
    exact ⟨(i, t) :: xs, by rw [h1]; rfl, by rw [← h2]; rfl⟩
theorem intArr {us : Array Value} {ns : List Int} (i : IntsAre us.toList ns) : ∃ xs : Array (Int × Tok), us = intItems xs ∧ xs.toList.map (·.1) = ns := by
  obtain ⟨xs, h1, h2⟩ := intItems_of i
  refine ⟨xs.toArray, ?_, by simpa using h2⟩
  unfold intItems
  apply Array.ext'
  simpa using h1

theorem sum_bd : ∀ {ns : List Int} {B : Int}, 0 ≤ B → (∀ x ∈ ns, -B ≤ x ∧ x ≤ B) → -(B * ns.length) ≤ ns.sum ∧ ns.sum ≤ B * ns.length
  | [], B, hB, _ => by simp
  | a :: r, B, hB, hb => by
    have ih := sum_bd hB fun x hx => hb x (.tail _ hx)
    have ha := hb a (.head _)
    simp only [List.sum_cons, List.length_cons]
    have e : B * ((r.length + 1 : Nat) : Int) = B * r.length + B := by rw [Int.natCast_add, Int.mul_add]; simp
    rw [e]; (clear hB; omega)

theorem call_sum {ns : List Int} (hl : ns.length ≤ 1000000) (hb : ∀ x ∈ ns, -(10 ^ 9) ≤ x ∧ x ≤ 10 ^ 9) : CallOK P n (.builtin "sum") [Zs ns] (.int ns.sum) := fun X A s vs at' rm r0 => by
  obtain ⟨v, rfl, r⟩ := rdL_one r0
  obtain ⟨a, us, rfl, hx, hL, hr⟩ := list_rd r
  obtain ⟨xs, rfl, e⟩ := intArr (intsAre_of hr)
  have hlen : xs.size = ns.length := by rw [← e]; simp
  have hfit : ∀ j, j < xs.size → InLong (numAt xs j) ∧ InLong (preSum (numAt xs) (j + 1)) := fun j hj => by
    rw [preSum_eq, numAt_eq, e]
    have h1 := hb (ns.getD j 0) (by rw [List.getD_eq_getElem?_getD, List.getElem?_eq_getElem (by (clear hl hx; omega))]; simp)
    have h2 := sum_bd (ns := ns.take (j + 1)) (B := 10 ^ 9) (by decide) fun x hx => hb x (List.mem_of_mem_take hx)
    have h3 : ((ns.take (j + 1)).length : Int) ≤ 1000000 := by rw [List.length_take]; (clear hx h1 h2; omega)
    unfold InLong
    (clear hl hx hlen hj; omega)
  refine wpAny_mono (sized (sum_intList (Q := fun w s' => (∃ t, w = .int (preSum (numAt xs) xs.size) t) ∧ ∃ h' tk, s' = { s with heap := h', toks := tk } ∧ ∀ b o, s.heap.get? b = some o → h'.get? b = some o) (E := F0) rm.1 hL hfit fun h' tk t' k => ⟨⟨t', rfl⟩, h', tk, rfl, k⟩))
    (fun w s' ⟨sz, ⟨t, q1⟩, h', tk, q2, k⟩ => ?_) fun _ _ x => x
  subst q1 q2
  refine ⟨step_heap (.of_keeps k sz), ?_⟩
  rw [preSum_eq, e, hlen, List.take_length]
  exact rd_int

theorem call_max {ns : List Int} {M : Int} (h1 : M ∈ ns) (h2 : ∀ a ∈ ns, a ≤ M) : CallOK P n (.builtin "max") [Zs ns] (.int M) := fun X A s vs at' rm r0 => by
  obtain ⟨v, rfl, r⟩ := rdL_one r0
  obtain ⟨a, us, rfl, hx, hL, hr⟩ := list_rd r
  obtain ⟨xs, rfl, e⟩ := intArr (intsAre_of hr)
  have hlen : xs.size = ns.length := by rw [← e]; simp
  have hpos : 0 < ns.length := List.length_pos_of_mem h1
  refine wpAny_mono (sized (max_intList (Q := fun w s' => (∃ v, (intItems xs)[argBest (fun i j => decide (numAt xs i > numAt xs j)) (xs.size - 1)]? = some v ∧ w = v) ∧ ∃ h' tk, s' = { s with heap := h', toks := tk } ∧ ∀ b o, s.heap.get? b = some o → h'.get? b = some o) (E := F0) rm.1 hL (by (clear hx; omega)) fun v h' tk hv k => ⟨⟨v, hv, rfl⟩, h', tk, rfl, k⟩))
    (fun w s' ⟨sz, ⟨v, hv, q1⟩, h', tk, q2, k⟩ => ?_) fun _ _ x => x
  subst q1 q2
  refine ⟨step_heap (.of_keeps k sz), ?_⟩
  obtain ⟨t, rfl⟩ := intItems_at hv
  obtain ⟨g1, g2⟩ := argBest_gt (numAt xs) (xs.size - 1)
  have val : numAt xs (argBest (fun i j => decide (numAt xs i > numAt xs j)) (xs.size - 1)) = M := by
    refine Int.le_antisymm (h2 _ ?_) ?_
    · rw [numAt_eq, e, List.getD_eq_getElem?_getD, List.getElem?_eq_getElem (by (clear hx sz; omega))]; simp
    · obtain ⟨i, hi, hiM⟩ := List.getElem_of_mem h1
      have := g2 i (by (clear hx sz g1 hiM; omega))
      rw [numAt_eq xs i, e, List.getD_eq_getElem?_getD, List.getElem?_eq_getElem hi, hiM] at this
      simpa using this
  rw [val]; exact rd_int
theorem call_min {ns : List Int} {M : Int} (h1 : M ∈ ns) (h2 : ∀ a ∈ ns, M ≤ a) : CallOK P n (.builtin "min") [Zs ns] (.int M) := fun X A s vs at' rm r0 => by
  obtain ⟨v, rfl, r⟩ := rdL_one r0
  obtain ⟨a, us, rfl, hx, hL, hr⟩ := list_rd r
  obtain ⟨xs, rfl, e⟩ := intArr (intsAre_of hr)
  have hlen : xs.size = ns.length := by rw [← e]; simp
  have hpos : 0 < ns.length := List.length_pos_of_mem h1
  refine wpAny_mono (sized (min_intList (Q := fun w s' => (∃ v, (intItems xs)[argBest (fun i j => decide (numAt xs i < numAt xs j)) (xs.size - 1)]? = some v ∧ w = v) ∧ ∃ h' tk, s' = { s with heap := h', toks := tk } ∧ ∀ b o, s.heap.get? b = some o → h'.get? b = some o) (E := F0) rm.1 hL (by (clear hx; omega)) fun v h' tk hv k => ⟨⟨v, hv, rfl⟩, h', tk, rfl, k⟩))
    (fun w s' ⟨sz, ⟨v, hv, q1⟩, h', tk, q2, k⟩ => ?_) fun _ _ x => x
  subst q1 q2
  refine ⟨step_heap (.of_keeps k sz), ?_⟩
  obtain ⟨t, rfl⟩ := intItems_at hv
  obtain ⟨g1, g2⟩ := argBest_lt (numAt xs) (xs.size - 1)
  have val : numAt xs (argBest (fun i j => decide (numAt xs i < numAt xs j)) (xs.size - 1)) = M := by
    refine Int.le_antisymm ?_ (h2 _ ?_)
    · obtain ⟨i, hi, hiM⟩ := List.getElem_of_mem h1
      have := g2 i (by (clear hx sz g1 hiM; omega))
      rw [numAt_eq xs i, e, List.getD_eq_getElem?_getD, List.getElem?_eq_getElem hi, hiM] at this
      simpa using this
    · rw [numAt_eq, e, List.getD_eq_getElem?_getD, List.getElem?_eq_getElem (by (clear hx sz; omega))]; simp
  rw [val]; exact rd_int

theorem call_sorted {ns ms : List Int} (hl : ns.length < 64) (hp : ms.Perm ns) (hs : ms.Pairwise (· ≤ ·)) : CallOK P n (.builtin "sorted") [Zs ns] (Zs ms) := fun X A s vs at' rm r0 => by
  obtain ⟨v, rfl, r⟩ := rdL_one r0
  obtain ⟨a, us, rfl, hx, hL, hr⟩ := list_rd r
  have hlen : ns.length = us.size := by simpa using rdL_length hr
  refine wpAny_mono (sized (sorted_ints (vs := us.toList) (Q := fun w s' => w = .ref (s.heap.objs.size + 1) ∧ ∃ out ns', IntsAre (Array.toList out) ns' ∧ ns'.Perm ns ∧ ns'.Pairwise (· ≤ ·) ∧ s' = { s with heap := sortedAll s.heap us.toList out }) (E := F0) (by simpa using hL) (intsAre_of hr) (by simp; (clear hx; omega))
    fun out ns' a1 a2 a3 => ⟨rfl, out, ns', a1, a2, a3, rfl⟩)) (fun w s' ⟨sz, q1, out, ns', a1, a2, a3, q2⟩ => ?_) fun _ _ x => x
  subst q1 q2
  refine ⟨step_heap (.of_keeps (fun _ _ => sortedAll_old) sz), ?_⟩
  obtain ⟨k, hk⟩ := sortedAll_at s.heap us.toList out
  have hns : ns' = ms := (a2.trans hp.symm).eq_of_pairwise (fun a b _ _ p q => Int.le_antisymm p q) a3 hs
  subst hns
  simp only [Rd]
  exact ⟨_, out, rfl, fun x => by have := at'.below _ x; exact Nat.lt_irrefl _ (Nat.lt_of_le_of_lt (Nat.le_succ _) this), ⟨_, hk, rfl, _, rfl⟩, of_intsAre a1⟩

theorem call_divmod {a b : Int} (hb : b ≠ 0) (hp : Builtin.divisionGoesByPylong a b = false) : CallOK P n (.builtin "divmod") [.int a, .int b] (.tup [.int (a.fdiv b), .int (a.fmod b)]) := fun X A s vs at' rm r0 => by
  obtain ⟨v, w, rfl, r1, r2⟩ := rdL_two r0
  obtain ⟨t, rfl⟩ := int_rd r1; obtain ⟨u, rfl⟩ := int_rd r2
  refine divmod_int hb ⟨step_push, ?_⟩ (.inl hp)
  exact rd_newTuple (vs := [.int (a.fdiv b) s.toks, .int (a.fmod b) (s.toks + 1)]) at' (by simp only [RdL, Rd]; exact ⟨_, _, rfl, ⟨_, rfl⟩, _, _, rfl, ⟨_, rfl⟩, rfl⟩)

/-- a method of a built-in type: its object | its call -/
theorem ev_meth {o : Expr} {name : Str} {apos pos : Pos} {args : List Expr} {a d : D} {ds : List D} {id : String} (p : PrmOK P) (ho : Ev P n sc ρ o a) (ha : EvL P n sc ρ args ds)
    (hm : ∀ X A s v (pl : Sem Bool) (Q : Value × List Value → Shared → Prop), Rd X s.heap a v → Q (.builtin id, [v]) s → wpAny (model P.prog P.w) A (getMethod v name pl) Q F0 s)
    (hc : CallOK P n (.builtin id) (a :: ds) d) {pl : Env → Sem Bool}
    (he : ∀ env, eval (.Call (.Attribute o name apos) args [] pos) env = (do
      let ov ← eval o env
      standAt apos.atName
      let (f, first) ← holding [ov] (getMethod ov name (pl env))
      callWith pos f first (backTo pos (starEach args env)) []) := by intro _; rfl) : Ev P n sc ρ (.Call (.Attribute o name apos) args [] pos) d := fun X env A s e rm => by
  refine MethodCall_ (pl := pl env) (ev_of ho e rm fun v s1 st1 e1 r1 => hm X A s1 v _ _ r1 ?_) (he env)
  exact ev_callWith (fd := [a]) p (f := .builtin id) trivial ha e1 rm (by simp only [RdL]; exact ⟨v, [], rfl, r1, rfl⟩) hc fun w s' st r => ⟨st1.trans st, r⟩

theorem meth_join {x : Str} {X : ASet} {A : Around} {s : Shared} {v : Value} {pl : Sem Bool} {Q : Value × List Value → Shared → Prop} (r : Rd X s.heap (.str x) v) (q : Q (.builtin "str.join", [v]) s) : wpAny (model P.prog P.w) A (getMethod v "join" pl) Q F0 s := by
  obtain ⟨t, rfl⟩ := str_rd r
  exact GM.join q
theorem call_join {x : Str} {ys : List Str} (hok : (ys.map (·.length)).sum + ys.length * x.length ≤ 1000000) : CallOK P n (.builtin "str.join") [.str x, Ss ys] (.str (Txt.join x ys)) := fun X A s vs at' rm r0 => by
  obtain ⟨v, w, rfl, r1, r2⟩ := rdL_two r0
  obtain ⟨t, rfl⟩ := str_rd r1
  obtain ⟨a, us, rfl, hx, hl, hr⟩ := list_rd r2
  exact join_list hl (strsAre_of hr) (by (clear hx; omega)) fun t' k => ⟨step_toks, rd_str⟩
theorem meth_bits {i : Int} {X : ASet} {A : Around} {s : Shared} {v : Value} {pl : Sem Bool} {Q : Value × List Value → Shared → Prop} (r : Rd X s.heap (.int i) v) (q : Q (.builtin "int.bit_length", [v]) s) : wpAny (model P.prog P.w) A (getMethod v "bit_length" pl) Q F0 s := by
  obtain ⟨t, rfl⟩ := int_rd r
  exact getMethod_int_bit_length q
theorem call_bits {i : Int} : CallOK P n (.builtin "int.bit_length") [.int i] (.int (Builtin.Int.intBits i)) := fun X A s vs at' rm r0 => by
  obtain ⟨v, rfl, r⟩ := rdL_one r0
  obtain ⟨t, rfl⟩ := int_rd r
  exact call_int_bit_length ⟨step_toks, rd_int⟩
end
end Mine
end
section
open PySem PySem.W PySem.Calls PyProof.Rows
set_option Elab.async false
set_option maxRecDepth 100000
set_option linter.unusedVariables false
namespace Mine

section
variable {P : Prm} {X X' Y Z : ASet} {env : Env} {sc scope : Scope} {ρ ρ' ρc : Rho} {s s' s₀ : Shared} {A : Around} {n : Nat} {h h' : Heap} {os : Owns}

theorem meth_list {a : Addr} {ns : List Int} {name : Str} {id : String} (slot : Slot "list" name id) (hty : typeOf (.builtin id) = pure (.type "method_descriptor")) {pl : Sem Bool} {E : Value → Shared → Prop} {Q : Value × List Value → Shared → Prop} (o : OwnZ s a ns) (q : Q (.builtin id, [.ref a]) s) :
    wpAny (model P.prog P.w) A (getMethod (.ref a) name pl) Q E s := by
  obtain ⟨vs, ⟨k, ho⟩, _⟩ := o
  exact getMethod_builtin ⟨_, ho, rfl⟩ F.plainAttrs_list slot hty (fun b e => by cases e; exact ⟨_, ho, rfl⟩) q

/-- xs.append(e), xs the frame's own -/
theorem st_append {x : Str} {a : Addr} {ns : List Int} {e : Expr} {xp apos cpos pos : Pos} {i : Int} {E : Value → Shared → Prop} {Q : Flow → Shared → Prop} (S : Sta P Z s₀ X env sc ρ s) (rm : Room A n) (hx : ρ.lookup x = some (.ptr a)) (hz : Z a) (o : OwnZ s a ns) (hlen : ns.length ≤ 1000000)
    (he : Ev P n sc ((x, Zs ns) :: ρ) e (.int i)) (k : ∀ s', Step P (One a) s s' → Sta P Z s₀ X env sc ρ s' → OwnZ s' a (ns ++ [i]) → Q .next s')
    (hs : isStarred e = false := by rfl) {pl : Env → Sem Bool}
    (hm : ∀ env, eval (.Call (.Attribute (.Name x xp) "append" apos) [e] [] cpos) env = (do
      let ov ← eval (.Name x xp) env
      standAt apos.atName
      let (f, first) ← holding [ov] (getMethod ov "append" (pl env))
      callWith cpos f first (backTo cpos (starEach [e] env)) []) := by intro _; rfl)
    (hd : (x == ("__debug__" : Str)) = false := by decide) (hcl : (x == ("__classdict__" : Str)) = false := by decide)
    (hi : ∀ env : Env, env.scope = sc → interactive env = false := by intro env he; unfold interactive; rw [he]; rfl) :
    wpAny (model P.prog P.w) A (exec (.Expr (.Call (.Attribute (.Name x xp) "append" apos) [e] [] cpos) pos) env) Q E s := by
  refine wpAny_Expr ?_ (hi env S.e.hsc) rfl
  refine MethodCall_ (pl := pl env) (wpAny_Name (load_env S.e hx (fun v hv => ?_) hcl) hd) (hm env)
  simp only [Rd] at hv; subst hv
  refine meth_list F.slot_list_append F.type_list_append o ?_
  rw [starEach_plain hs]
  refine PySem.P.append_list (ev_own he hx o S.e rm rfl fun v s1 st1 r1 => ?_)
  obtain ⟨t, rfl⟩ := int_rd r1
  obtain ⟨vs, ⟨kk, ho⟩, hi⟩ := o.step0 st1
  have hl := hi.length
  simp at hl
  refine ⟨vs, kk, by rw [sizeLine_eq]; omega, ho, ?_⟩
  have S1 := S.step st1
  have st2 : HStep P (One a) s1.heap (s1.heap.update a (Obj.mapSeq (·.push (.int i t)))) := HStep.update S1.e.at' (S.zx a hz) (notTab_of S1.e.at' ho (nt_cls rfl)) (Heap.SameBut.update ..)
  obtain ⟨_, nl, nc⟩ := (o.step0 st1).notSeat S1.e
  have e2 := S1.e.stepY (s' := { s1 with heap := s1.heap.update a (Obj.mapSeq (·.push (.int i t))) }) (step_heap st2) (fun b q => (show b = a from q) ▸ S.zx a hz) fun b q => by
    have q' : b = a := q
    subst q'
    rintro (q | ⟨m, hm⟩)
    · exact nl q
    · exact nc m _ hm rfl
  refine k _ (st1.any.trans (step_heap st2)) ⟨e2, S1.st.trans (step_heap (st2.weak fun b q => (show b = a from q) ▸ hz)), S.zl, S.zc, S.zx, S.apart, S.own⟩ ⟨vs.push (.int i t), ⟨_, IsL.update ho (·.push (.int i t))⟩, ?_⟩
  rw [Array.toList_push]
  exact hi.append (.cons i t .nil)

/-- xs.reverse() -/
theorem st_reverse {x : Str} {a : Addr} {ns : List Int} {xp apos cpos pos : Pos} {E : Value → Shared → Prop} {Q : Flow → Shared → Prop} (S : Sta P Z s₀ X env sc ρ s) (rm : Room A n) (hx : ρ.lookup x = some (.ptr a)) (hz : Z a) (o : OwnZ s a ns) (hlen : ns.length ≤ 1000000)
    (k : ∀ s', Step P (One a) s s' → Sta P Z s₀ X env sc ρ s' → OwnZ s' a ns.reverse → Q .next s') {pl : Env → Sem Bool}
    (hm : ∀ env, eval (.Call (.Attribute (.Name x xp) "reverse" apos) [] [] cpos) env = (do
      let ov ← eval (.Name x xp) env
      standAt apos.atName
      let (f, first) ← holding [ov] (getMethod ov "reverse" (pl env))
      callWith cpos f first (backTo cpos (starEach [] env)) []) := by intro _; rfl)
    (hd : (x == ("__debug__" : Str)) = false := by decide) (hcl : (x == ("__classdict__" : Str)) = false := by decide)
    (hi : ∀ env : Env, env.scope = sc → interactive env = false := by intro env he; unfold interactive; rw [he]; rfl) :
    wpAny (model P.prog P.w) A (exec (.Expr (.Call (.Attribute (.Name x xp) "reverse" apos) [] [] cpos) pos) env) Q E s := by
  refine wpAny_Expr ?_ (hi env S.e.hsc) rfl
  refine MethodCall_ (pl := pl env) (wpAny_Name (load_env S.e hx (fun v hv => ?_) hcl) hd) (hm env)
  simp only [Rd] at hv; subst hv
  refine meth_list F.slot_list_reverse F.type_list_reverse o ?_
  obtain ⟨vs, ⟨kk, ho⟩, hi⟩ := id o
  have hl := hi.length
  simp at hl
  refine PySem.P.reverse_list ho ?_ (by rw [sizeLine_eq]; omega)
  have st2 : HStep P (One a) s.heap (s.heap.update a (Obj.mapSeq fun x => x.reverse)) := HStep.update S.e.at' (S.zx a hz) (notTab_of S.e.at' ho (nt_cls rfl)) (Heap.SameBut.update ..)
  obtain ⟨_, nl, nc⟩ := o.notSeat S.e
  have e2 := S.e.stepY (s' := { s with heap := s.heap.update a (Obj.mapSeq fun x => x.reverse) }) (step_heap st2) (fun b q => (show b = a from q) ▸ S.zx a hz) fun b q => by
    have q' : b = a := q
    subst q'
    rintro (q | ⟨m, hm⟩)
    · exact nl q
    · exact nc m _ hm rfl
  refine k _ (step_heap st2) ⟨e2, S.st.trans (step_heap (st2.weak fun b q => (show b = a from q) ▸ hz)), S.zl, S.zc, S.zx, S.apart, S.own⟩ ⟨vs.reverse, ⟨_, IsL.update ho (fun x => x.reverse)⟩, ?_⟩
  have := rdL_reverse (of_intsAre (X := E0) (h := s.heap) hi)
  rw [← List.map_reverse] at this
  simpa using intsAre_of this

/-- x op= e, texts -/
theorem st_adds {x : Str} {e : Expr} {xp pos : Pos} {a b : Str} {E : Value → Shared → Prop} {Q : Flow → Shared → Prop} (S : Sta P Z s₀ X env sc ρ s) (rm : Room A n) (hx : ρ.lookup x = some (.str a)) (he : Ev P n sc ρ e (.str b)) (hs : Stored sc x) (hlen : a.length + b.length ≤ 1000000)
    (k : ∀ s', Step P (Seat env) s s' → Sta P Z s₀ X env sc ((x, .str (a ++ b)) :: ρ) s' → Q .next s') (hcl : (x == ("__classdict__" : Str)) = false := by decide) :
    wpAny (model P.prog P.w) A (exec (.AugAssign (.Name x xp) .Add e pos) env) Q E s := by
  refine wpAny_AugAssign_Name (load_env S.e hx (fun v hv => ?_) hcl)
  obtain ⟨t, rfl⟩ := str_rd hv
  refine ev_of he S.e rm fun w s1 st1 e1 r1 => ?_
  obtain ⟨u, rfl⟩ := str_rd r1
  refine PyProof.Rows.iadd_str (fun t' tk => ?_) (by rw [sizeLine_eq]; (clear hs; omega))
  have stk : Step P E0 s1 { s1 with toks := tk } := step_toks
  exact ((S.step st1).step stk).store hs rd_str fun s2 st2 S2 => k s2 ((st1.trans stk).any.trans st2) S2

/-- x, y = (e, e'): two locals on one line: the stores are exchanged -/
theorem st_swap {x y : Str} {px py tp vp pos : Pos} {k0 k1 : Nat} {e e' : Expr} {d1 d2 : D} {E : Value → Shared → Prop} {Q : Flow → Shared → Prop} (a : Sta P Z s₀ X env sc ρ s) (rm : Room A n) (he : Ev P n sc ρ e d1) (he' : Ev P n sc ρ e' d2)
    (hx : Stored sc x) (hy : Stored sc y) (k : ∀ s', Step P (Seat env) s s' → Sta P Z s₀ X env sc ((x, d1) :: (y, d2) :: ρ) s' → Q .next s')
    (hsw : ∀ env : Env, env.scope = sc → swappedStores [.Tuple [.Name x px, .Name y py] k0 tp] (.Tuple [e, e'] k1 vp) env = pure (some [x, y])) (hnc : ∀ env, swapsWithSole [.Tuple [.Name x px, .Name y py] k0 tp] (.Tuple [e, e'] k1 vp) pos.line env = pure false := by intro _; rfl)
    (hs : isStarred e = false := by rfl) (hs' : isStarred e' = false := by rfl) :
    wpAny (model P.prog P.w) A (exec (.Assign [.Tuple [.Name x px, .Name y py] k0 tp] (.Tuple [e, e'] k1 vp) pos) env) Q E s := by
  show wpAny _ A (do
    standAt pos
    if ← swapsWithSole [.Tuple [.Name x px, .Name y py] k0 tp] (.Tuple [e, e'] k1 vp) pos.line env then do
      evalThenUse (.Tuple [e, e'] k1 vp) env fun v => assignAll v ((assignEach [.Tuple [.Name x px, .Name y py] k0 tp] env).map (·.2))
      pure .next
    else do
      let v ← eval (.Tuple [e, e'] k1 vp) env
      assignStores env v (← swappedStores [.Tuple [.Name x px, .Name y py] k0 tp] (.Tuple [e, e'] k1 vp) env) ((assignEach [.Tuple [.Name x px, .Name y py] k0 tp] env).map (·.2))) Q E s
  refine wpAny_bind (wpAny_standAt (wpAny_bind (wpAny_of_eq (hnc env) ?_)))
  simp only [Bool.false_eq_true, if_false]
  refine wpAny_bind (ev_of (ev_tup (evl_cons he (evl_cons he' evl_nil hs') hs)) a.e rm fun v s1 st1 e1 r1 => wpAny_bind (wpAny_of_eq (hsw env a.e.hsc) ?_))
  obtain ⟨t, vs, rfl, hX, ht, hr⟩ := tup_rd r1
  have hsz : vs.size = 2 := by have := rdL_length hr; simpa using this.symm
  show wpAny _ A (do
    rule "assign.swapped-stores"
    let items ← unpackItems (.ref t) 2 none
    assignInOrder [bindName env y, bindName env x] items.reverse
    pure .next) Q E s1
  refine wpAny_bind (wpAny_rule (wpAny_bind (wp_unpack2 e1.at' rm.1 ht hsz fun s2 st2 => ?_)))
  have a2 := (a.step st1).step st2
  have hr2 := hr.step st2
  simp only [RdL] at hr2
  obtain ⟨v1, _, q1, r1, v2, _, q2, r2, q3⟩ := hr2
  rw [q1, q2, q3]
  show wpAny _ A (do (do holding [v1] (bindName env y v2); (do holding [] (bindName env x v1); pure ())); pure .next) Q E s2
  refine wpAny_bind (wpAny_bind (wpAny_holding (wpAny_bindName (a2.store hy r2 fun s3 st3 a3 => wpAny_bind (wpAny_holding (wpAny_bindName (a3.store hx (r1.mono (st3.heap.keep.weak fun b q => ?_) fun _ y => y) fun s4 st4 a4 => wpAny_pure (wpAny_pure ?_))))))))
  · rcases q with rfl | ⟨n, hm⟩
    · exact a2.e.xl
    · exact (a2.e.xc n b hm).1
  · exact k s4 (((st1.trans st2).any.trans st3).trans st4) a4
end
end Mine
end
section
open PySem PySem.W PySem.Calls PyProof.Rows
set_option Elab.async false
set_option maxRecDepth 100000
set_option linter.unusedVariables false
namespace Mine

/-- a code object, outside X -/
noncomputable def CodeC (X : ASet) (h : Heap) (cv : Value) (q : Str) : Prop := ∃ c o vs t, cv = .ref c ∧ ¬ X c ∧ h.get? c = some o ∧ o.cls = .type "code" ∧ o.data = .fields vs ∧ vs[1]? = some (.str q t)

section
variable {P : Prm} {X X' Y Z : ASet} {env : Env} {sc scope : Scope} {ρ ρ' ρc : Rho} {s s' s₀ : Shared} {A : Around} {n : Nat} {h h' : Heap} {t : Tab}

theorem CodeC.rec {cv : Value} {q : Str} (x : CodeC X h cv q) : h.CodeRec cv q := let ⟨c, o, vs, t, e, _, e1, _, e2, e3⟩ := x; ⟨c, o, vs, t, e, e1, e2, e3⟩
theorem CodeC.agree {cv : Value} {q : Str} (x : CodeC X h cv q) (g : Agree X h h') (hs : ∀ b, X' b → X b) : CodeC X' h' cv q :=
  let ⟨c, o, vs, t, e, e0, e1, ec, e2, e3⟩ := x; ⟨c, o, vs, t, e, fun y => e0 (hs _ y), g _ _ e0 (nt_cls ec) e1, ec, e2, e3⟩

theorem main_ne (p : PrmOK P) (ht : t ∈ P.tabs) : mainGlobals ≠ t.P := fun q => by
  obtain ⟨o, es, ep, e, _⟩ := p.g
  rw [q, p.gt t ht] at e; cases e

theorem wp_code {pos : Pos} {fl : Nat} {name : Str} {params : Arguments} {body : FuncBody} (p : PrmOK P) (a : At P X s.heap) (ht : t ∈ P.tabs) (hu : ∀ t' ∈ P.tabs, t'.P = t.P → t' = t) (hcode : env.code = .ref t.c) (hl : pos.line = t.line) (hc : pos.col = t.col) :
    wpAny (model P.prog P.w) A (functionCode env pos fl name t.qual params scope body) (fun cv s' => Step P E0 s s' ∧ CodeC X s'.heap cv t.qual) F0 s := by
  have C := (p.code t ht).keeps a.low
  obtain ⟨hX, hT⟩ := a.tab t ht
  rcases hT with hT | ⟨c', hX', hT, o, vs, q, e1, e2, e3, e4⟩
  · refine wpAny_functionCodeX hcode (C.code hT (by simp [TriplesOk])) (C.tab hT) (by simp [codeAmong]) fun c' h' tk hx hge hlt _ hrec htb ⟨P', _, _, ⟨⟨o₂, vs₂, f1, f2, f3, f4⟩, _⟩⟩ => ?_
    obtain ⟨c₂, o, vs, q, e0, e1, e3, e4⟩ := hrec
    cases e0
    rw [f1] at e1; cases e1
    have hT' : h'.get? t.P = some (tabObj #[rawInt t.line, rawInt t.col, .ref c']) := by
      have := htb.2; rw [hl, hc] at this; simpa using this
    refine ⟨step_heap ⟨fun b o' _ hn e => hx b o' (fun q => by subst q; rw [hT] at e; cases e; exact hn _ rfl) e, fun b o' e e' => hx b o' (fun q => by subst q; rw [p.gt t ht] at e; cases e) e', fun X' t' ht' hX2 k => ?_, Nat.le_of_lt (Nat.lt_of_le_of_lt hge hlt)⟩, c', o₂, vs, q, rfl, fun x => Nat.lt_irrefl _ (Nat.lt_of_lt_of_le (a.below _ x) hge), f1, f2, e3, e4⟩
    by_cases hP : t'.P = t.P
    · have := hu t' ht' hP; subst this
      exact ⟨k.1, .inr ⟨c', fun x => Nat.lt_irrefl _ (Nat.lt_of_lt_of_le (hX2 _ x) hge), hT', o₂, vs, q, f1, f2, e3, e4⟩⟩
    · obtain ⟨k0, k⟩ := k
      refine ⟨k0, k.elim (fun e => .inl (hx _ _ hP e)) fun ⟨c3, y, e, o3, vs3, q3, g1, g2, g3⟩ => .inr ⟨c3, y, hx _ _ hP e, o3, vs3, q3, hx _ _ (fun r => ?_) g1, g2, g3⟩⟩
      subst r; rw [hT] at g1; cases g1; cases g2
  · exact wpAny_functionCode_hit (c' := .ref c') hcode (C.code hT (by simp [TriplesOk, rawInt])) (by simp [codeAmong, rawInt, hl, hc]) ⟨.refl, c', o, vs, q, rfl, hX', e1, e2, e3, e4⟩

/-- a function that a frame has made -/
structure FnIs (h : Heap) (f : Addr) (fd : FuncData) : Prop where
  obj : ∃ od sl, h.get? f = some ⟨.type "function", od, .func fd, sl⟩
theorem FnIs.agree {f : Addr} {fd : FuncData} (x : FnIs h f fd) (g : Agree Y h h') (hy : ¬ Y f) : FnIs h' f fd := ⟨let ⟨od, sl, e⟩ := x.obj; ⟨od, sl, g _ _ hy (nt_cls rfl) e⟩⟩

/-- the function data that a nested def makes -/
structure FdIs (fd : FuncData) (params : Arguments) (body : List Stmt) (scope : Scope) (clos : List (Str × Addr)) (q : Str) : Prop where
  params : fd.params = params
  body : fd.body = .stmts body
  scope : fd.scope = scope
  clo : fd.closure = clos
  globals : fd.globals = mainGlobals
  builtins : fd.builtins = builtinsNs
  qual : fd.qualname = q
  dv : fd.defaults = .none
  kd : fd.kwdefaults = .none

theorem wp_makeFn {pos : Pos} {fl : Nat} {name : Str} {params : Arguments} {body : List Stmt} {clos : List (Str × Addr)} (p : PrmOK P) (a : At P X s.heap) (ht : t ∈ P.tabs) (hu : ∀ t' ∈ P.tabs, t'.P = t.P → t' = t) (hcode : env.code = .ref t.c) (hl : pos.line = t.line) (hc : pos.col = t.col)
    (hcl : closureFor scope env = pure clos) (hg : env.globals = mainGlobals) :
    wpAny (model P.prog P.w) A (makeFunction name t.qual params (.stmts body) scope env [] [] [] pos fl) (fun v s' => ∃ f fd, v = .ref f ∧ s.heap.objs.size ≤ f ∧ Step P E0 s s' ∧ FnIs s'.heap f fd ∧ FdIs fd params body scope clos t.qual ∧ CodeC X s'.heap fd.code t.qual) F0 s := by
  rw [makeFunction_eq]
  simp only [List.zip_nil_right, List.filterMap_nil, List.isEmpty_nil, if_true, pure_bind]
  obtain ⟨bm, ob, hbm, hne0, hneG, hneP, hbo, hcls, hdict, hdata⟩ := p.bat t ht
  unfold makeTail
  rw [hcl, hg]
  refine wpAny_bind (wpAny_pure ?_)
  -- what follows, after the tuple of cells
  have tail : ∀ (ct : Value) (s1 : Shared), Step P E0 s s1 → wpAny (model P.prog P.w) A (do
      let fd : FuncData := { name, qualname := t.qual, params, body := .stmts body, scope, globals := mainGlobals, closure := clos, closureTuple := ct,
                             code := ← functionCode env pos fl name t.qual params scope (.stmts body), builtins := ← builtinsFor mainGlobals env.builtins,
                             defaults := .none, kwdefaults := .none, annotations := none, pyModule := (← nsGet mainGlobals "__name__").getD .none,
                             doc := ← match FuncBody.stmts body with
                               | .stmts b => (match docOf b with | some s => mkText s | none => pure .none)
                               | .expr _ => pure .none }
      newObj (.type "function") (.func fd)) (fun v s' => ∃ f fd, v = .ref f ∧ s.heap.objs.size ≤ f ∧ Step P E0 s s' ∧ FnIs s'.heap f fd ∧ FdIs fd params body scope clos t.qual ∧ CodeC X s'.heap fd.code t.qual) F0 s1 := fun ct s1 st1 => by
    have a1 := a.step st1.heap
    refine wpAny_bind (wpAny_mono (wp_code p a1 ht hu hcode hl hc) (fun cv s2 ⟨st2, cc⟩ => ?_) fun _ _ y => y)
    have a2 := a1.step st2.heap
    refine wpAny_bind (wpAny_builtinsFor (a2.g p) hbm hne0 (a2.low _ _ hbo) hcls hdict hdata ?_)
    refine wpAny_bind (wpAny_nsGet (a2.g p) ?_)
    have fin : ∀ (s3 : Shared) (doc : Value), Step P E0 s2 s3 → wpAny (model P.prog P.w) A (newObj (.type "function") (.func (fnX name t.qual params body scope clos .none .none doc ((P.mg "__name__").getD .none) none cv ct)))
        (fun v s' => ∃ f fd, v = .ref f ∧ s.heap.objs.size ≤ f ∧ Step P E0 s s' ∧ FnIs s'.heap f fd ∧ FdIs fd params body scope clos t.qual ∧ CodeC X s'.heap fd.code t.qual) F0 s3 := fun s3 doc st3 => by
      refine wpAny_newObj_type ⟨s3.heap.objs.size, _, rfl, ((st1.trans st2).trans st3).heap.size, ((st1.trans st2).trans st3).trans (step_heap (.push _)), ⟨⟨_, _, Heap.get?_push_size _ rfl⟩⟩, ⟨rfl, rfl, rfl, rfl, rfl, rfl, rfl, rfl, rfl⟩,
        (cc.agree (st3.heap.keep.weak fun _ y => y.elim) fun _ y => y).agree (fun b o _ _ e => Heap.get?_push_of_some _ e) fun _ y => y⟩ (by size_fits)
    refine wpAny_bind ?_
    cases docOf body with
    | none => exact wpAny_pure (fin s2 .none .refl)
    | some d => exact wpAny_mkText (fin _ _ step_toks)
  cases clos with
  | nil => exact wpAny_bind (wpAny_pure (tail .none s .refl))
  | cons q r => exact wpAny_bind (wpAny_newTextTuple (tail _ _ (step_heap (tk := s.toks) (.push _))))

/-- def inside a def -/
theorem st_def {name : Str} {params : Arguments} {body : List Stmt} {pos : Pos} {E : Value → Shared → Prop} {Q : Flow → Shared → Prop} (p : PrmOK P) (a : Sta P Z s₀ X env sc ρ s) (ht : t ∈ P.tabs) (hu : ∀ t' ∈ P.tabs, t'.P = t.P → t' = t) (hcode : env.code = .ref t.c) (hl : pos.line = t.line) (hc : pos.col = t.col)
    (hq : qualnameIn env name name = t.qual) (hx : Stored sc name) (hfree : ∀ x, (x, NameKind.free) ∈ scope.names → (env.cells.lookup x).isSome = true) (hd0 : params.defaults = []) (hk0 : params.kw_defaults = []) (ha : annTrees params none env = [])
    (k : ∀ f fd s', s.heap.objs.size ≤ f → Step P (Seat env) s s' → Sta P Z s₀ X env sc ((name, .ptr f) :: ρ) s' → FnIs s'.heap f fd → FdIs fd params body scope (closOf env.cells scope.names []) t.qual → CodeC X s'.heap fd.code t.qual → Q .next s') :
    wpAny (model P.prog P.w) A (exec (.FunctionDef name params body [] none [] scope none name pos) env) Q E s := by
  refine nestDef_K hd0 hk0 ha ?_
  rw [hq]
  refine wpAny_mono (wp_makeFn p a.e.at' ht hu hcode hl hc (closureFor_eq hfree) a.e.hg) (fun v s1 ⟨f, fd, e, hf, st, hi, hd, hcc⟩ => ?_) fun _ _ y => y.elim
  subst e
  have sx : ∀ b, Seat env b → X b := fun b q => by
    rcases q with rfl | ⟨n, hm⟩
    · exact a.e.xl
    · exact (a.e.xc n b hm).1
  exact (a.step st).store hx (by simp only [Rd]) fun s2 st2 a2 => k f fd s2 hf (st.any.trans st2) a2 (hi.agree st2.heap.keep fun y => Nat.lt_irrefl _ (Nat.lt_of_lt_of_le (a.e.at'.below _ (sx _ y)) hf)) hd (hcc.agree (st2.heap.keep.weak sx) fun _ y => y)

/-- a made function, and what its free names are read as -/
structure Fn (P : Prm) (X : ASet) (h : Heap) (f : Addr) (fd : FuncData) (ρc : Rho) : Prop where
  is : FnIs h f fd
  nx : ¬ X f
  code : CodeC X h fd.code fd.qualname
  globals : fd.globals = mainGlobals
  builtins : fd.builtins = builtinsNs
  apart : fd.closure.Pairwise fun x y => x.2 ≠ y.2
  cells : ∀ x c, (x, c) ∈ fd.closure → X c ∧ ∃ v, h.IsCell c v
  val : ∀ x d, ρc.lookup x = some d → ∃ c v, fd.closure.lookup x = some c ∧ h.IsCell c (some v) ∧ Rd X h d v

/-- a step that leaves the cells alone -/
theorem Fn.step {f : Addr} {fd : FuncData} (F : Fn P X s.heap f fd ρc) (st : Step P Y s s') (hy : ∀ b, Y b → X b) (hc : ∀ x c, (x, c) ∈ fd.closure → ¬ Y c) : Fn P X s'.heap f fd ρc :=
  have g : Agree X s.heap s'.heap := st.heap.keep.weak hy
  ⟨F.is.agree g F.nx, F.nx, F.code.agree g fun _ y => y, F.globals, F.builtins, F.apart, fun x c hm => let ⟨a, v, b⟩ := F.cells x c hm; ⟨a, v, isCell_agree st.heap.keep (hc x c hm) b⟩,
    fun x d hx => let ⟨c, v, a, b, r⟩ := F.val x d hx; ⟨c, v, a, isCell_agree st.heap.keep (hc x c (mem_lookup a)) b, r.mono g fun _ y => y⟩⟩
theorem Fn.step0 {f : Addr} {fd : FuncData} (F : Fn P X s.heap f fd ρc) (st : Step P E0 s s') : Fn P X s'.heap f fd ρc := F.step st (fun _ y => y.elim) fun _ _ _ y => y

/-- seen with a greater set of what is changed -/
theorem Fn.grow {f : Addr} {fd : FuncData} (F : Fn P X s.heap f fd ρc) (st : Step P E0 s s') (hy : ∀ b, Y b → s.heap.objs.size ≤ b) : Fn P (Un X Y) s'.heap f fd ρc := by
  obtain ⟨od, sl, e⟩ := F.is.obj
  obtain ⟨c, o, vs, t, e0, e1, e2, e3⟩ := F.code
  have F' := F.step0 st
  exact ⟨F'.is, fun q => q.elim F.nx fun y => Nat.lt_irrefl _ (Nat.lt_of_lt_of_le (Heap.lt_size e) (hy _ y)), ⟨c, o, vs, t, e0, fun q => q.elim e1 fun y => Nat.lt_irrefl _ (Nat.lt_of_lt_of_le (Heap.lt_size e2) (hy _ y)), st.heap.keep c o (fun y => y) (nt_cls e3.1) e2, e3⟩,
    F.globals, F.builtins, F.apart, fun x c hm => let ⟨a, b⟩ := F'.cells x c hm; ⟨.inl a, b⟩, fun x d hx => let ⟨c, v, a, b, r⟩ := F.val x d hx; ⟨c, v, a, isCell_agree st.heap.keep (fun y => y) b, (r.fresh hy).mono (st.heap.keep.weak fun _ y => y.elim) fun _ y => y⟩⟩

theorem binds_rev : ∀ {xs : List Str} {ds : List D} {vs : List Value} {x : Str} {d : D}, xs.Nodup → RdL X h ds vs → (xs.zip ds).lookup x = some d →
    ∃ v, (xs.zip vs).reverse.lookup x = some v ∧ Rd X h d v
  | [], ds, vs, x, d, _, _, e => by simp at e
  | y :: xs, [], vs, x, d, _, _, e => by simp at e
  | y :: xs, d' :: ds, vs, x, d, hn, r, e => by
    simp only [RdL] at r
    obtain ⟨v, vr, rfl, h1, h2⟩ := r
    rw [List.zip_cons_cons, List.lookup_cons] at e
    have hny : y ∉ xs := (List.nodup_cons.mp hn).1
    rw [List.zip_cons_cons, List.reverse_cons, List.lookup_append]
    cases hb : x == y with
    | true =>
      have := eq_of_beq hb; subst this
      rw [hb] at e; cases e
      have : (xs.zip vr).reverse.lookup x = none := by
        cases q : (xs.zip vr).reverse.lookup x with
        | none => rfl
        | some u => exact absurd (mem_zip_fst (List.mem_reverse.mp (mem_lookup q))) hny
      exact ⟨v, by rw [this]; simp, h1⟩
    | false =>
      rw [hb] at e
      obtain ⟨w, hw, hr⟩ := binds_rev (List.nodup_cons.mp hn).2 h2 e
      exact ⟨w, by rw [hw]; rfl, hr⟩

/-- what the frame of a call sees -/
theorem call_made {f : Addr} {fd : FuncData} {d : Stmt} {ds : List D} {vs : List Value} {xs : List Str} {R : Value → Shared → Prop} {W : ASet} (p : PrmOK P) (at' : At P X s.heap) (F : Fn P X s.heap f fd ρc) (rm : Room A (n + 1)) (hr : RdL X s.heap ds vs)
    (hfd : fd.params = defParams d ∧ fd.body = .stmts (defBody d) ∧ fd.scope = defScope d) (O : DefOK d xs) (hlen : xs.length = ds.length) (hW : ∀ b, W b → X b)
    (hpp : ∀ vs, vs.length = xs.length → bindArgs fd ⟨vs, []⟩ = pure (xs.zip vs))
    (hloc : ∀ x ∈ xs, (defScope d).names.lookup x = some .local) (hc : ((defScope d).names.all fun x => x.2 != .cell) = true) (hf : ∀ x dx, ρc.lookup x = some dx → (defScope d).names.lookup x = some .free)
    (hb : ∀ env A s1, Step P E0 s s1 → Fn P (Un X (One env.locals)) s1.heap f fd ρc → Sta P (Un (One env.locals) W) s1 (Un X (One env.locals)) env (defScope d) (xs.zip ds ++ ρc) s1 → s.heap.objs.size ≤ env.locals → Room A n →
      wpAny (model P.prog P.w) A (execs (defBody d) env) (fun fl s' => Step P (Un (One env.locals) W) s1 s' ∧ (Step P W s s' → R (match fl with | .ret v => v | _ => .none) s')) F0 s1) :
    wpAny (model P.prog P.w) A (call (.ref f) vs) R F0 s := by
  obtain ⟨od, sl, ho⟩ := F.is.obj
  obtain ⟨h1, h2, h3⟩ := O.fn
  obtain ⟨f1, f2, f3⟩ := hfd
  have hlv : vs.length = xs.length := by rw [hlen, rdL_length hr]
  refine wpAny_call (codeAny_call_def (fd := fd) (binds := xs.zip vs) (room_depth rm) ho rfl (at'.nolimit p) F.code.rec f2 (.of_eq (hpp vs hlv)) (fun x hx => ?_) (fun x hx => ?_) (fun h₀ hns keep => ?_) (by rw [f3]; exact h2) (by rw [f3]; exact h3) (by rw [f3]; exact h1))
  · rw [f3] at hx
    have := List.all_eq_true.mp hc x hx
    simpa using this
  · rw [f3]; exact hloc _ (mem_zip_fst hx)
  · have hL : (callEnv fd s.heap.objs.size f).locals = s.heap.objs.size := rfl
    have hC : (callEnv fd s.heap.objs.size f).cells = fd.closure := rfl
    have hS : (callEnv fd s.heap.objs.size f).scope = defScope d := f3
    have hG : (callEnv fd s.heap.objs.size f).globals = mainGlobals := F.globals
    have hB : (callEnv fd s.heap.objs.size f).builtins = builtinsNs := F.builtins
    generalize callEnv fd s.heap.objs.size f = env at *
    have st1 : Step P E0 s { s with heap := h₀, toks := s.toks + (xs.zip vs).length } := step_heap (.of_keeps keep (Nat.le_of_lt hns.lt))
    have hge : ∀ b, One env.locals b → s.heap.objs.size ≤ b := fun b y => by rw [y, hL]; exact Nat.le_refl _
    have aX : At P (Un X (One env.locals)) h₀ := at'.more2 (at'.step st1.heap) fun c hc => by
      obtain ⟨o, es, ep, ho, hd, _⟩ := hns
      cases hc
      rw [hL]
      exact ⟨Nat.le_refl _, o, ho, nc_dict hd⟩
    have F1 := F.grow st1 hge
    have rX : RdL (Un X (One env.locals)) h₀ ds vs := (hr.fresh hge).mono (st1.heap.keep.weak fun b y => y.elim) fun _ y => y
    have e1 : EnvAt P (Un X (One env.locals)) env (defScope d) (xs.zip ds ++ ρc) { s with heap := h₀, toks := s.toks + (xs.zip vs).length } := by
      have spl : ∀ x dx, (xs.zip ds ++ ρc).lookup x = some dx → (xs.zip ds).lookup x = some dx ∨ ρc.lookup x = some dx := fun x dx q => by
        rw [List.lookup_append] at q
        cases q1 : (xs.zip ds).lookup x with
        | some y => rw [q1] at q; exact .inl q
        | none => rw [q1] at q; exact .inr q
      refine ⟨aX, hS, h1, hG, hB, .inr rfl, ⟨_, (by rw [hL]; exact hns), fun x dx q hk => ?_⟩, fun x dx q hk => ?_, fun x dx q => ?_, fun n c hm => ?_⟩
      · rcases spl x dx q with q | q
        · exact binds_rev O.nd rX q
        · have := hf x dx q; rw [hk] at this; cases this
      · rcases spl x dx q with q | q
        · have := hloc x (mem_zip_fst (mem_lookup q))
          rcases hk with hk | hk <;> (rw [hk] at this; cases this)
        · rw [hC]; exact F1.val x dx q
      · rcases spl x dx q with q | q
        · exact .inl (hloc x (mem_zip_fst (mem_lookup q)))
        · exact .inr (.inr (hf x dx q))
      · rw [hC] at hm
        obtain ⟨a, b⟩ := F1.cells n c hm
        obtain ⟨a', b'⟩ := F.cells n c hm
        exact ⟨a, by rw [hL]; exact Nat.ne_of_lt (at'.below c a'), b⟩
    have S : Sta P (Un (One env.locals) W) { s with heap := h₀, toks := s.toks + (xs.zip vs).length } (Un X (One env.locals)) env (defScope d) (xs.zip ds ++ ρc) { s with heap := h₀, toks := s.toks + (xs.zip vs).length } :=
      ⟨e1, .refl, .inl rfl, fun x c hk _ => absurd (mem_lookup hk) fun hm => by
          have := List.all_eq_true.mp hc _ hm
          simp at this, fun b z => z.elim .inr fun w => .inl (hW b w), by rw [hC]; exact F.apart, fun x hk => absurd (mem_lookup hk) fun hm => by
          have := List.all_eq_true.mp hc _ hm
          simp at this⟩
    refine wpAny_mono (hb env (A.deeper env) _ st1 F1 S (by rw [hL]; exact Nat.le_refl _) (room_deeper rm)) (fun fl s' ⟨st, k⟩ => ?_) fun _ _ y => y.elim
    exact k ((st1.any (Y := W)).ownZ st fun b y => y.elim (fun y => .inr (hge b y)) .inl)
end
end Mine
end
section
open PySem PySem.W PySem.Calls PyProof.Rows
set_option Elab.async false
set_option maxRecDepth 100000
set_option linter.unusedVariables false
namespace Mine

/-- the one list that a frame fills: its name, its place, its ints -/
noncomputable abbrev Own1 := Option (Str × Addr × List Int)
noncomputable def see (ρ : Rho) : Own1 → Rho
  | none => ρ
  | some (x, _, ns) => (x, Zs ns) :: ρ
noncomputable def cut (X : ASet) : Own1 → ASet
  | none => X
  | some (_, c, _) => fun b => X b ∧ b ≠ c
noncomputable def ol : Option (Str × Addr) → List Int → Owns
  | none, _ => []
  | some p, ns => [(p.2, ns)]
noncomputable abbrev mk (o : Option (Str × Addr)) (ns : List Int) : Own1 := o.map fun p => (p.1, p.2, ns)

structure SS (P : Prm) (X₀ Z₀ : ASet) (s₀ : Shared) (Z X : ASet) (env : Env) (sc : Scope) (ρ : Rho) (o : Own1) (s : Shared) : Prop where
  a : Sta P Z s₀ X env sc ρ s
  o : ∀ x c ns, o = some (x, c, ns) → ρ.lookup x = some (.ptr c) ∧ Z c ∧ OwnZ s c ns
  rx : ∀ b, X₀ b → X b
  rz : ∀ b, Z b → Z₀ b ∨ s₀.heap.objs.size ≤ b

section
variable {P : Prm} {X X' Y Z X₀ Z₀ : ASet} {env : Env} {sc scope : Scope} {ρ ρ' ρc : Rho} {s s' s₀ : Shared} {A : Around} {n : Nat} {h h' : Heap} {o o' : Own1}

theorem cut_sub : ∀ {o : Own1} {b : Addr}, cut X o b → X b
  | none, _, y => y
  | some _, _, y => y.1
theorem SS.seen (S : SS P X₀ Z₀ s₀ Z X env sc ρ o s) : EnvAt P (cut X o) env sc (see ρ o) s := by
  match o, S with
  | none, S => exact S.a.e
  | some (x, c, ns), S => exact let ⟨h1, h2, h3⟩ := S.o x c ns rfl; S.a.e.own h1 h3
theorem SS.step (S : SS P X₀ Z₀ s₀ Z X env sc ρ o s) (st : Step P E0 s s') : SS P X₀ Z₀ s₀ Z X env sc ρ o s' :=
  ⟨S.a.step st, fun x c ns e => let ⟨h1, h2, h3⟩ := S.o x c ns e; ⟨h1, h2, h3.step0 st⟩, S.rx, S.rz⟩
theorem SS.sub (S : SS P X₀ Z₀ s₀ Z X env sc ρ o s) (hs : ∀ p ∈ ρ', ρ.lookup p.1 = some p.2) (ho : ∀ x c ns, o = some (x, c, ns) → ρ'.lookup x = some (.ptr c)) : SS P X₀ Z₀ s₀ Z X env sc ρ' o s :=
  ⟨S.a.sub hs, fun x c ns e => let ⟨h1, h2, h3⟩ := S.o x c ns e; ⟨ho x c ns e, h2, h3⟩, S.rx, S.rz⟩
/-- what a whole def's run leaves -/
theorem SS.whole (S : SS P X₀ Z₀ s₀ Z X env sc ρ o s) : Step P Z₀ s₀ s := by
  have st := S.a.st
  exact ⟨⟨fun q o' z hn e => st.heap.keep q o' (fun y => (S.rz q y).elim z fun y => Nat.lt_irrefl _ (Nat.lt_of_lt_of_le (Heap.lt_size e) y)) hn e, st.heap.low, st.heap.tab, st.heap.size⟩, st.os, st.gens, st.bare⟩
theorem SS.start (a : Sta P Z s X env sc ρ s) : SS P X Z s Z X env sc ρ none s := ⟨a, fun _ _ _ e => (nomatch e), fun _ x => x, fun _ z => .inl z⟩

theorem own_some {x : Str} {c : Addr} {ns : List Int} (h : ρ'.lookup x = some (.ptr c)) : ∀ (y : Str) (c' : Addr) (ns' : List Int), some (x, c, ns) = some (y, c', ns') → ρ'.lookup y = some (.ptr c') := fun y c' ns' e => by
  injection e with e; injection e with e1 e2; injection e2 with e2 e3; rw [← e1, ← e2]; exact h
noncomputable def ownName (o : Own1) : Option Str := o.map (·.1)
theorem lookup_own {x : Str} {d : D} (hn : ownName o ≠ some x) {y : Str} {c : Addr} {ns : List Int} (e : o = some (y, c, ns)) (h : ρ.lookup y = some (.ptr c)) : List.lookup y ((x, d) :: ρ) = some (.ptr c) := by
  subst e
  rw [lookup_cons_ne (fun q => hn (by rw [← q]; rfl))]; exact h

/-- a store into a name -/
theorem SS.store {x : Str} {d : D} {v : Value} {E : Value → Shared → Prop} {Q : Unit → Shared → Prop} (S : SS P X₀ Z₀ s₀ Z X env sc ρ o s) (hx : Stored sc x) (r : Rd X s.heap d v) (hn : ownName o ≠ some x)
    (k : ∀ s', SS P X₀ Z₀ s₀ Z X env sc ((x, d) :: ρ) o s' → Step P (Seat env) s s' → Q () s') : wpAny (model P.prog P.w) A (storeName env x v) Q E s :=
  S.a.store hx r fun s' st a' => k s' ⟨a', fun y c ns e => let ⟨h1, h2, h3⟩ := S.o y c ns e; ⟨lookup_own hn e h1, h2, h3.seat S.a.e st⟩, S.rx, S.rz⟩ st

/-- the value that an expression gives where own lists are read, seen from the frame -/
theorem rd_uncut {d : D} {v : Value} (hf : (o.isNone || d.flat) = true) (r : Rd (cut X o) h d v) : Rd X h d v := by
  cases o with
  | none => exact r
  | some p => simp at hf; exact r.flat hf

theorem sx_assign {x : Str} {e : Expr} {px pos : Pos} {d : D} {rest : List Stmt} {E : Value → Shared → Prop} {Q : Flow → Shared → Prop} (S : SS P X₀ Z₀ s₀ Z X env sc ρ o s) (rm : Room A n) (he : Ev P n sc (see ρ o) e d) (hx : Stored sc x)
    (k : ∀ s', SS P X₀ Z₀ s₀ Z X env sc ((x, d) :: ρ) o s' → wpAny (model P.prog P.w) A (execs rest env) Q E s')
    (hf : (o.isNone || d.flat) = true := by rfl) (hn : ownName o ≠ some x := by decide) (hsw : ∀ env, swapsWith e (some (.Name x px)) pos.line env = pure false := by intro _; rfl) :
    wpAny (model P.prog P.w) A (execs (.Assign [.Name x px] e pos :: rest) env) Q E s :=
  wpAny_execs_cons (wpAny_Assign_Name (ev_of he S.seen rm fun v s1 st1 e1 r1 => (S.step st1).store hx (rd_uncut hf r1) hn fun s2 S2 _ => k s2 S2) (hsw env))
/-- the own list is not looked at -/
theorem sx_assignN {x : Str} {e : Expr} {px pos : Pos} {d : D} {rest : List Stmt} {E : Value → Shared → Prop} {Q : Flow → Shared → Prop} (S : SS P X₀ Z₀ s₀ Z X env sc ρ o s) (rm : Room A n) (he : Ev P n sc ρ e d) (hx : Stored sc x)
    (k : ∀ s', SS P X₀ Z₀ s₀ Z X env sc ((x, d) :: ρ) o s' → wpAny (model P.prog P.w) A (execs rest env) Q E s')
    (hn : ownName o ≠ some x := by decide) (hsw : ∀ env, swapsWith e (some (.Name x px)) pos.line env = pure false := by intro _; rfl) :
    wpAny (model P.prog P.w) A (execs (.Assign [.Name x px] e pos :: rest) env) Q E s :=
  wpAny_execs_cons (wpAny_Assign_Name (ev_of he S.a.e rm fun v s1 st1 e1 r1 => (S.step st1).store hx r1 hn fun s2 S2 _ => k s2 S2) (hsw env))

theorem sx_new {x : Str} {es : List Expr} {px lp pos : Pos} {ns : List Int} {rest : List Stmt} {E : Value → Shared → Prop} {Q : Flow → Shared → Prop} (S : SS P X₀ Z₀ s₀ Z X env sc ρ none s) (rm : Room A n) (he : EvL P n sc ρ es (ns.map .int)) (hx : Stored sc x)
    (k : ∀ c s', s₀.heap.objs.size ≤ c → SS P X₀ Z₀ s₀ (Un Z (One c)) (Un X (One c)) env sc ((x, .ptr c) :: ρ) (some (x, c, ns)) s' → wpAny (model P.prog P.w) A (execs rest env) Q E s') (hlen : ns.length ≤ 1000 := by decide) :
    wpAny (model P.prog P.w) A (execs (.Assign [.Name x px] (.List es lp) pos :: rest) env) Q E s :=
  wpAny_execs_cons (st_new S.a rm he hx hlen fun c s' hc st a' o' => by
    have hc' := Nat.le_trans S.a.st.heap.size hc
    exact k c s' hc' ⟨a', fun y c' ns' e => by cases e; exact ⟨lookup_cons_eq, .inr rfl, o'⟩, fun b x => .inl (S.rx b x), fun b z => z.elim (S.rz b) fun q => .inr ((show b = c from q) ▸ hc')⟩)

theorem sx_append {x : Str} {c : Addr} {ns : List Int} {e : Expr} {xp apos cpos pos : Pos} {i : Int} {rest : List Stmt} {E : Value → Shared → Prop} {Q : Flow → Shared → Prop} (S : SS P X₀ Z₀ s₀ Z X env sc ρ (some (x, c, ns)) s) (rm : Room A n) (hlen : ns.length ≤ 1000000)
    (he : Ev P n sc ((x, Zs ns) :: ρ) e (.int i)) (k : ∀ s', SS P X₀ Z₀ s₀ Z X env sc ρ (some (x, c, ns ++ [i])) s' → wpAny (model P.prog P.w) A (execs rest env) Q E s')
    (hs : isStarred e = false := by rfl) {pl : Env → Sem Bool}
    (hm : ∀ env, eval (.Call (.Attribute (.Name x xp) "append" apos) [e] [] cpos) env = (do
      let ov ← eval (.Name x xp) env
      standAt apos.atName
      let (f, first) ← holding [ov] (getMethod ov "append" (pl env))
      callWith cpos f first (backTo cpos (starEach [e] env)) []) := by intro _; rfl)
    (hd : (x == ("__debug__" : Str)) = false := by decide) (hcl : (x == ("__classdict__" : Str)) = false := by decide)
    (hi : ∀ env : Env, env.scope = sc → interactive env = false := by intro env he; unfold interactive; rw [he]; rfl) :
    wpAny (model P.prog P.w) A (execs (.Expr (.Call (.Attribute (.Name x xp) "append" apos) [e] [] cpos) pos :: rest) env) Q E s :=
  wpAny_execs_cons (let ⟨h1, h2, h3⟩ := S.o x c ns rfl; st_append S.a rm h1 h2 h3 hlen he (fun s' st a' o' => k s' ⟨a', fun y c' ns' q => by cases q; exact ⟨h1, h2, o'⟩, S.rx, S.rz⟩) hs hm hd hcl hi)

theorem sx_reverse {x : Str} {c : Addr} {ns : List Int} {xp apos cpos pos : Pos} {rest : List Stmt} {E : Value → Shared → Prop} {Q : Flow → Shared → Prop} (S : SS P X₀ Z₀ s₀ Z X env sc ρ (some (x, c, ns)) s) (rm : Room A n) (hlen : ns.length ≤ 1000000)
    (k : ∀ s', SS P X₀ Z₀ s₀ Z X env sc ρ (some (x, c, ns.reverse)) s' → wpAny (model P.prog P.w) A (execs rest env) Q E s') {pl : Env → Sem Bool}
    (hm : ∀ env, eval (.Call (.Attribute (.Name x xp) "reverse" apos) [] [] cpos) env = (do
      let ov ← eval (.Name x xp) env
      standAt apos.atName
      let (f, first) ← holding [ov] (getMethod ov "reverse" (pl env))
      callWith cpos f first (backTo cpos (starEach [] env)) []) := by intro _; rfl)
    (hd : (x == ("__debug__" : Str)) = false := by decide) (hcl : (x == ("__classdict__" : Str)) = false := by decide)
    (hi : ∀ env : Env, env.scope = sc → interactive env = false := by intro env he; unfold interactive; rw [he]; rfl) :
    wpAny (model P.prog P.w) A (execs (.Expr (.Call (.Attribute (.Name x xp) "reverse" apos) [] [] cpos) pos :: rest) env) Q E s :=
  wpAny_execs_cons (let ⟨h1, h2, h3⟩ := S.o x c ns rfl; st_reverse S.a rm h1 h2 h3 hlen (fun s' st a' o' => k s' ⟨a', fun y c' ns' q => by cases q; exact ⟨h1, h2, o'⟩, S.rx, S.rz⟩) hm hd hcl hi)

theorem sx_if {test : Expr} {body orelse rest : List Stmt} {pos : Pos} {b : Bool} {E : Value → Shared → Prop} {Q : Flow → Shared → Prop} (S : SS P X₀ Z₀ s₀ Z X env sc ρ o s) (rm : Room A n) (ht : Tr P n sc (see ρ o) test b)
    (h1 : b = true → ∀ s', SS P X₀ Z₀ s₀ Z X env sc ρ o s' → wpAny (model P.prog P.w) A (execs body env) (fun f s' => match f with | .next => wpAny (model P.prog P.w) A (execs rest env) Q E s' | f => Q f s') E s')
    (h2 : b = false → ∀ s', SS P X₀ Z₀ s₀ Z X env sc ρ o s' → wpAny (model P.prog P.w) A (execs orelse env) (fun f s' => match f with | .next => wpAny (model P.prog P.w) A (execs rest env) Q E s' | f => Q f s') E s') :
    wpAny (model P.prog P.w) A (execs (.If test body orelse pos :: rest) env) Q E s := by
  refine wpAny_execs_cons (wpAny_If (tr_of ht S.seen rm fun s1 st1 e1 => ?_))
  cases b with
  | true => exact h1 rfl s1 (S.step st1)
  | false => exact h2 rfl s1 (S.step st1)

theorem sx_return {e : Expr} {pos : Pos} {d : D} {rest : List Stmt} {E : Value → Shared → Prop} {Q : Flow → Shared → Prop} (S : SS P X₀ Z₀ s₀ Z X env sc ρ o s) (rm : Room A n) (he : Ev P n sc ρ e d)
    (k : ∀ v s', Step P Z₀ s₀ s' → Rd X₀ s'.heap d v → Q (.ret v) s') : wpAny (model P.prog P.w) A (execs (.Return (some e) pos :: rest) env) Q E s :=
  wpAny_execs_cons (wpAny_Return_some (ev_of he S.a.e rm fun v s1 st1 e1 r1 => k v s1 (S.step st1).whole (r1.mono .refl fun b x => S.rx b x)))
theorem sx_returnO {e : Expr} {pos : Pos} {d : D} {x : Str} {c : Addr} {ns : List Int} {rest : List Stmt} {E : Value → Shared → Prop} {Q : Flow → Shared → Prop} (S : SS P X₀ Z₀ s₀ Z X env sc ρ (some (x, c, ns)) s) (rm : Room A n) (he : Ev P n sc ((x, Zs ns) :: ρ) e d) (hc : ¬ X₀ c)
    (k : ∀ v s', Step P Z₀ s₀ s' → Rd X₀ s'.heap d v → Q (.ret v) s') : wpAny (model P.prog P.w) A (execs (.Return (some e) pos :: rest) env) Q E s :=
  wpAny_execs_cons (wpAny_Return_some (ev_of he S.seen rm fun v s1 st1 e1 r1 => k v s1 (S.step st1).whole (r1.mono .refl fun b x => ⟨S.rx b x, fun q => hc (q ▸ x)⟩)))
theorem sx_return0 {pos : Pos} {rest : List Stmt} {E : Value → Shared → Prop} {Q : Flow → Shared → Prop} (S : SS P X₀ Z₀ s₀ Z X env sc ρ o s) (k : Step P Z₀ s₀ s → Q (.ret .none) s) : wpAny (model P.prog P.w) A (execs (.Return none pos :: rest) env) Q E s := by
  exact wpAny_execs_cons (wpAny_Return_none (k S.whole))
theorem sx_break {pos : Pos} {rest : List Stmt} {E : Value → Shared → Prop} {Q : Flow → Shared → Prop} (k : Q .brk s) : wpAny (model P.prog P.w) A (execs (.Break pos :: rest) env) Q E s := wpAny_execs_cons (wpAny_Break k)

theorem sx_pair {x y : Str} {px py tp pos : Pos} {k0 : Nat} {e : Expr} {d1 d2 : D} {rest : List Stmt} {E : Value → Shared → Prop} {Q : Flow → Shared → Prop} (S : SS P X₀ Z₀ s₀ Z X env sc ρ o s) (rm : Room A n) (he : Ev P n sc ρ e (.tup [d1, d2]))
    (hx : Stored sc x) (hy : Stored sc y) (k : ∀ s', SS P X₀ Z₀ s₀ Z X env sc ((y, d2) :: (x, d1) :: ρ) o s' → wpAny (model P.prog P.w) A (execs rest env) Q E s')
    (hnx : ownName o ≠ some x := by decide) (hny : ownName o ≠ some y := by decide)
    (hsw : ∀ env, swappedStores [.Tuple [.Name x px, .Name y py] k0 tp] e env = pure none := by intro _; rfl) (hnc : ∀ env, swapsWithSole [.Tuple [.Name x px, .Name y py] k0 tp] e pos.line env = pure false := by intro _; rfl) :
    wpAny (model P.prog P.w) A (execs (.Assign [.Tuple [.Name x px, .Name y py] k0 tp] e pos :: rest) env) Q E s :=
  wpAny_execs_cons (st_pair S.a rm he hx hy (fun s' st a' => k s' ⟨a', fun z c ns q => let ⟨h1, h2, h3⟩ := S.o z c ns q; ⟨lookup_own hny q (lookup_own hnx q h1), h2, h3.seat S.a.e st⟩, S.rx, S.rz⟩) hsw hnc)
theorem sx_swap {x y : Str} {px py tp vp pos : Pos} {k0 k1 : Nat} {e e' : Expr} {d1 d2 : D} {rest : List Stmt} {E : Value → Shared → Prop} {Q : Flow → Shared → Prop} (S : SS P X₀ Z₀ s₀ Z X env sc ρ o s) (rm : Room A n) (he : Ev P n sc ρ e d1) (he' : Ev P n sc ρ e' d2)
    (hx : Stored sc x) (hy : Stored sc y) (k : ∀ s', SS P X₀ Z₀ s₀ Z X env sc ((x, d1) :: (y, d2) :: ρ) o s' → wpAny (model P.prog P.w) A (execs rest env) Q E s')
    (hsw : ∀ env : Env, env.scope = sc → swappedStores [.Tuple [.Name x px, .Name y py] k0 tp] (.Tuple [e, e'] k1 vp) env = pure (some [x, y]))
    (hnx : ownName o ≠ some x := by decide) (hny : ownName o ≠ some y := by decide)
    (hnc : ∀ env, swapsWithSole [.Tuple [.Name x px, .Name y py] k0 tp] (.Tuple [e, e'] k1 vp) pos.line env = pure false := by intro _; rfl)
    (hs : isStarred e = false := by rfl) (hs' : isStarred e' = false := by rfl) :
    wpAny (model P.prog P.w) A (execs (.Assign [.Tuple [.Name x px, .Name y py] k0 tp] (.Tuple [e, e'] k1 vp) pos :: rest) env) Q E s :=
  wpAny_execs_cons (st_swap S.a rm he he' hx hy (fun s' st a' => k s' ⟨a', fun z c ns q => let ⟨h1, h2, h3⟩ := S.o z c ns q; ⟨lookup_own hnx q (lookup_own hny q h1), h2, h3.seat S.a.e st⟩, S.rx, S.rz⟩) hsw hnc hs hs')
theorem sx_adds {x : Str} {e : Expr} {xp pos : Pos} {a b : Str} {rest : List Stmt} {E : Value → Shared → Prop} {Q : Flow → Shared → Prop} (S : SS P X₀ Z₀ s₀ Z X env sc ρ o s) (rm : Room A n) (hx : ρ.lookup x = some (.str a)) (he : Ev P n sc ρ e (.str b)) (hs : Stored sc x) (hlen : a.length + b.length ≤ 1000000)
    (k : ∀ s', SS P X₀ Z₀ s₀ Z X env sc ((x, .str (a ++ b)) :: ρ) o s' → wpAny (model P.prog P.w) A (execs rest env) Q E s') (hnx : ownName o ≠ some x := by decide) (hcl : (x == ("__classdict__" : Str)) = false := by decide) :
    wpAny (model P.prog P.w) A (execs (.AugAssign (.Name x xp) .Add e pos :: rest) env) Q E s :=
  wpAny_execs_cons (st_adds S.a rm hx he hs hlen (fun s' st a' => k s' ⟨a', fun z c ns q => let ⟨h1, h2, h3⟩ := S.o z c ns q; ⟨lookup_own hnx q h1, h2, h3.seat S.a.e st⟩, S.rx, S.rz⟩) hcl)

/-- the end of a loop's turn -/
noncomputable def TurnEnd (P : Prm) {σ : Type} (ρf : σ → Rho) (nf : σ → List Int) (oo : Option (Str × Addr)) (Z X : ASet) (env : Env) (sc : Scope) (s : Shared) (N B : σ → Prop) (R : D → Prop) (f : Flow) (s' : Shared) : Prop :=
  match f with
  | .next | .cont => ∃ t, N t ∧ SS P X Z s Z X env sc (ρf t) (mk oo (nf t)) s'
  | .brk => ∃ t, B t ∧ SS P X Z s Z X env sc (ρf t) (mk oo (nf t)) s'
  | .ret v => ∃ r, R r ∧ Step P Z s s' ∧ Rd X s'.heap r v

theorem sx_for {σ : Type} {tgt iter : Expr} {body rest : List Stmt} {pos : Pos} {ds : List D} {E : Value → Shared → Prop} {Q : Flow → Shared → Prop} (ρf : σ → Rho) (nf : σ → List Int) (oo : Option (Str × Addr)) (I : List D → σ → Prop) (B : σ → Prop) (R : D → Prop) (t₀ : σ)
    (S : SS P X₀ Z₀ s₀ Z X env sc (ρf t₀) (mk oo (nf t₀)) s) (rm : Room A n) (hit : EvIt P n sc (ρf t₀) tgt iter ds) (init : I ds t₀)
    (turn : ∀ (X' : ASet) d ds' t s v, I (d :: ds') t → SS P X' Z s Z X' env sc (ρf t) (mk oo (nf t)) s → Rd X' s.heap d v →
      wpAny (model P.prog P.w) A (assign tgt env v) (fun _ s' => wpAny (model P.prog P.w) A (execs body env) (TurnEnd P ρf nf oo Z X' env sc s (I ds') B R) F0 s') F0 s)
    (done : ∀ t s', (I [] t ∨ B t) → SS P X₀ Z₀ s₀ Z X env sc (ρf t) (mk oo (nf t)) s' → wpAny (model P.prog P.w) A (execs rest env) Q E s')
    (rets : ∀ r v s', R r → Step P Z₀ s₀ s' → Rd X₀ s'.heap r v → Q (.ret v) s')
    (hs : ∀ env x, foldedSetIterable iter env x = pure x := by intro _ _; rfl) :
    wpAny (model P.prog P.w) A (execs (.For tgt iter body [] pos :: rest) env) Q E s := by
  have conv : ∀ {X' : ASet} {s₁ s : Shared} {t : σ}, (∀ b, X₀ b → X' b) → Sta P Z s₁ X' env sc (ρf t) s → OwnsAt Z s (ol oo (nf t)) → (∀ x c, oo = some (x, c) → (ρf t).lookup x = some (.ptr c)) →
      SS P X' Z s₁ Z X' env sc (ρf t) (mk oo (nf t)) s := fun {X' s₁ s t} hx a o ho => ⟨a, fun x c ns e => by
        cases oo with
        | none => cases e
        | some p => cases e; exact ⟨ho _ _ rfl, (o _ (.head _)).1, (o _ (.head _)).2⟩, fun _ x => x, fun _ z => .inl z⟩
  have back : ∀ {X' Z' Z'' X'' : ASet} {s₁ s : Shared} {t : σ}, SS P X'' Z'' s₁ Z' X' env sc (ρf t) (mk oo (nf t)) s → OwnsAt Z' s (ol oo (nf t)) ∧ (∀ x c, oo = some (x, c) → (ρf t).lookup x = some (.ptr c)) := fun {X' Z' Z'' X'' s₁ s t} S => by
    cases oo with
    | none => exact ⟨fun p hp => (nomatch hp), fun _ _ e => (nomatch e)⟩
    | some p =>
      obtain ⟨h1, h2, h3⟩ := S.o _ _ _ rfl
      exact ⟨fun q hq => (by rcases List.mem_singleton.mp hq with rfl; exact ⟨h2, h3⟩), fun x c e => (by cases e; exact h1)⟩
  have keepX : ∀ b, X₀ b → X b := S.rx
  refine wpAny_execs_cons (st_for (os := ol oo (nf t₀))
    (fun ds ρ os => ∃ t, I ds t ∧ ρ = ρf t ∧ os = (ol oo (nf t)) ∧ ∀ x c, oo = some (x, c) → (ρf t).lookup x = some (.ptr c))
    (fun ρ os => ∃ t, B t ∧ ρ = ρf t ∧ os = (ol oo (nf t)) ∧ ∀ x c, oo = some (x, c) → (ρf t).lookup x = some (.ptr c)) R S.a rm hit (back S).1 ⟨t₀, init, rfl, rfl, (back S).2⟩ ?_ ?_ ?_ hs)
  · rintro X' d ds' ρ os s v hX ⟨t, hI, rfl, rfl, hl⟩ a o r
    refine wpAny_mono (turn X' d ds' t s v hI (conv (fun b x => hX b (keepX b x)) a o hl) r) (fun _ s' h => wpAny_mono h (fun f s'' h => ?_) fun _ _ x => x) fun _ _ x => x
    cases f with
    | next => obtain ⟨t', h1, h2⟩ := h; exact ⟨_, _, ⟨t', h1, rfl, rfl, (back h2).2⟩, h2.a, (back h2).1⟩
    | cont => obtain ⟨t', h1, h2⟩ := h; exact ⟨_, _, ⟨t', h1, rfl, rfl, (back h2).2⟩, h2.a, (back h2).1⟩
    | brk => obtain ⟨t', h1, h2⟩ := h; exact ⟨_, _, ⟨t', h1, rfl, rfl, (back h2).2⟩, h2.a, (back h2).1⟩
    | ret v => exact h
  · rintro ρ' os' s' hI a o
    have fin : ∀ t, ρ' = ρf t → os' = (ol oo (nf t)) → (∀ x c, oo = some (x, c) → (ρf t).lookup x = some (.ptr c)) → SS P X₀ Z₀ s₀ Z X env sc (ρf t) (mk oo (nf t)) s' := fun t e1 e2 hl => by
      subst e1 e2
      exact ⟨a, (conv keepX a o hl).o, S.rx, S.rz⟩
    rcases hI with ⟨t, h1, h2, h3, h4⟩ | ⟨t, h1, h2, h3, h4⟩
    · exact done t s' (.inl h1) (fin t h2 h3 h4)
    · exact done t s' (.inr h1) (fin t h2 h3 h4)
  · intro r v s' hr st rr
    refine rets r v s' hr ⟨⟨fun q o' z hn e => st.heap.keep q o' (fun y => (S.rz q y).elim z fun y => Nat.lt_irrefl _ (Nat.lt_of_lt_of_le (Heap.lt_size e) y)) hn e, st.heap.low, st.heap.tab, st.heap.size⟩, st.os, st.gens, st.bare⟩ (rr.mono .refl S.rx)

/-- the loop's own name is bound -/
theorem sx_tgt {x : Str} {pos : Pos} {d : D} {v : Value} {E : Value → Shared → Prop} {Q : Unit → Shared → Prop} (S : SS P X₀ Z₀ s₀ Z X env sc ρ o s) (r : Rd X s.heap d v) (hx : Stored sc x)
    (k : ∀ s', SS P X₀ Z₀ s₀ Z X env sc ((x, d) :: ρ) o s' → Q () s') (hn : ownName o ≠ some x := by decide) : wpAny (model P.prog P.w) A (assign (.Name x pos) env v) Q E s :=
  wpAny_assign_Name (S.store hx r hn fun s' S' _ => k s' S')
theorem sx_tgt2 {x y : Str} {px py tp : Pos} {k0 : Nat} {d1 d2 : D} {v : Value} {Q : Unit → Shared → Prop} (S : SS P X₀ Z₀ s₀ Z X env sc ρ o s) (hh : A.handled = none) (r : Rd X s.heap (.tup [d1, d2]) v) (hx : sc.names.lookup x = some .local) (hy : sc.names.lookup y = some .local)
    (k : ∀ s', SS P X₀ Z₀ s₀ Z X env sc ((y, d2) :: (x, d1) :: ρ) o s' → Q () s') (hnx : ownName o ≠ some x := by decide) (hny : ownName o ≠ some y := by decide) : wpAny (model P.prog P.w) A (assign (.Tuple [.Name x px, .Name y py] k0 tp) env v) Q F0 s :=
  wpAny_mono (bind_two hx hy X env A s ρ v S.a.e hh r) (fun _ s' ⟨st, e'⟩ => k s' ⟨⟨e', S.a.st.trans (st.weak fun b q => (show b = _ from q) ▸ S.a.zl), S.a.zl, S.a.zc, S.a.zx, S.a.apart, S.a.own⟩,
    fun z c ns q => let ⟨h1, h2, h3⟩ := S.o z c ns q; ⟨lookup_own hny q (lookup_own hnx q h1), h2, h3.seat S.a.e (st.weak fun b q => .inl q)⟩, S.rx, S.rz⟩) fun _ _ x => x

theorem sx_while {σ : Type} {test : Expr} {body rest : List Stmt} {pos : Pos} {E : Value → Shared → Prop} {Q : Flow → Shared → Prop} (ρf : σ → Rho) (nf : σ → List Int) (oo : Option (Str × Addr)) (I : σ → Prop) (m : σ → Nat) (t₀ : σ) (tb : σ → Bool)
    (S : SS P X₀ Z₀ s₀ Z X env sc (ρf t₀) (mk oo (nf t₀)) s) (rm : Room A n) (init : I t₀)
    (ht : ∀ t, I t → Tr P n sc (see (ρf t) (mk oo (nf t))) test (tb t))
    (turn : ∀ t s, I t → tb t = true → SS P X₀ Z₀ s₀ Z X env sc (ρf t) (mk oo (nf t)) s → wpAny (model P.prog P.w) A (execs body env)
      (fun f s' => match f with
        | .next | .cont => ∃ t', m t' < m t ∧ I t' ∧ SS P X₀ Z₀ s₀ Z X env sc (ρf t') (mk oo (nf t')) s'
        | _ => False) F0 s)
    (done : ∀ t s', I t → tb t = false → SS P X₀ Z₀ s₀ Z X env sc (ρf t) (mk oo (nf t)) s' → wpAny (model P.prog P.w) A (execs rest env) Q E s') :
    wpAny (model P.prog P.w) A (execs (.While test body [] pos :: rest) env) Q E s := by
  refine wpAny_execs_cons (wpAny_While (codeAny_whileLoop (fun m' s => ∃ t, m t = m' ∧ I t ∧ SS P X₀ Z₀ s₀ Z X env sc (ρf t) (mk oo (nf t)) s) (fun m' s ⟨t, hm, hI, S⟩ => ?_) (m t₀) ⟨t₀, rfl, init, S⟩))
  refine tr_of (ht t hI) S.seen rm fun s1 st1 e1 => ?_
  have S1 := S.step st1
  cases hb : tb t with
  | false => exact wpAny_execs_nil (done t s1 hI hb S1)
  | true =>
    simp only [if_true]
    refine wpAny_mono (turn t s1 hI hb S1) (fun f s'' h2 => ?_) fun _ _ x => x.elim
    cases f with
    | next => obtain ⟨t', h1, h2, h3⟩ := h2; exact ⟨m t', hm ▸ h1, t', rfl, h2, h3⟩
    | cont => obtain ⟨t', h1, h2, h3⟩ := h2; exact ⟨m t', hm ▸ h1, t', rfl, h2, h3⟩
    | brk => exact h2.elim
    | ret v => exact h2.elim
end
end Mine
end
section
open PySem PySem.W PySem.Calls PyProof.Rows
set_option Elab.async false
set_option maxRecDepth 100000
set_option linter.unusedVariables false
namespace Mine

/-- a def of the top -/
structure Def (P : Prm) (x : Str) (d : Stmt) : Prop where
  at' : ∃ a fd, P.mg x = some (.ref a) ∧ keepIn P.K (.ref a) = true ∧ FnObj P a d fd
/-- a def's contract -/
noncomputable def Ok (P : Prm) (x : Str) (n : Nat) (ds : List D) (r : D) : Prop := ∃ f, Glo P x f ∧ Callee P f ∧ CallOK P n f ds r
theorem len1 {vs : List Value} : vs.length = 1 → ∃ u, vs = [u] := fun h => List.length_eq_one_iff.mp h
theorem len2 {vs : List Value} (h : vs.length = 2) : ∃ u v, vs = [u, v] := by
  cases vs with
  | nil => cases h
  | cons u r => obtain ⟨v, rfl⟩ := len1 (Nat.succ.inj h); exact ⟨u, v, rfl⟩
theorem len3 {vs : List Value} (h : vs.length = 3) : ∃ u v w, vs = [u, v, w] := by
  cases vs with
  | nil => cases h
  | cons u r => obtain ⟨v, w, rfl⟩ := len2 (Nat.succ.inj h); exact ⟨u, v, w, rfl⟩
theorem len4 {vs : List Value} (h : vs.length = 4) : ∃ u v w z, vs = [u, v, w, z] := by
  cases vs with
  | nil => cases h
  | cons u r => obtain ⟨v, w, z, rfl⟩ := len3 (Nat.succ.inj h); exact ⟨u, v, w, z, rfl⟩
noncomputable abbrev Binds (d : Stmt) (xs : List Str) : Prop := ∀ fd : FuncData, fd.params = defParams d → fd.defaults = .none → fd.kwdefaults = .none → ∀ vs, vs.length = xs.length → bindArgs fd ⟨vs, []⟩ = pure (xs.zip vs)

section
variable {P : Prm} {X X' Y Z X₀ Z₀ : ASet} {env : Env} {sc scope : Scope} {ρ ρ' ρc : Rho} {s s' s₀ : Shared} {A : Around} {n m : Nat} {h h' : Heap} {o o' : Own1}

theorem callOK_le {f : Value} {ds : List D} {d : D} (c : CallOK P m f ds d) (h : m ≤ n) : CallOK P n f ds d := fun X A s vs a rm r => c X A s vs a (room_le rm h) r
theorem Def.ok {x : Str} {d : Stmt} (D' : Def P x d) (p : PrmOK P) {xs : List Str} {ds : List D} {r : D} (O : DefOK d xs) (hpp : Binds d xs) (hlen : xs.length = ds.length) (hb : ∀ fd, BodyOK P n fd d (xs.zip ds) r) : Ok P x (n + 1) ds r := by
  obtain ⟨a, fd, h1, h2, F⟩ := D'.at'
  exact ⟨.ref a, .inl h1, h2, call_own p F O (hb fd) hlen (hpp fd F.params F.dv F.kd)⟩
theorem ev_fn {x : Str} {xp pos : Pos} {es : List Expr} {ds : List D} {d : D} (p : PrmOK P) (k : Ok P x m ds d) (h : EvL P n sc ρ es ds) (hm : m ≤ n := by omega)
    (hx : sc.names.lookup x = some .globalImplicit := by rfl) (hd : (x == ("__debug__" : Str)) = false := by decide) : Ev P n sc ρ (.Call (.Name x xp) es [] pos) d :=
  let ⟨f, g, c, ck⟩ := k; ev_call p g c h (callOK_le ck hm) hx hd
/-- a built-in, by its name -/
noncomputable def Boot (P : Prm) (x : Str) : Prop := P.mg x = none
theorem ev_boot {x : Str} {xp pos : Pos} {es : List Expr} {ds : List D} {d : D} {f : Value} (p : PrmOK P) (b : Boot P x) (hf : bootBuiltins x = some f) (h : EvL P n sc ρ es ds) (c : CallOK P n f ds d) (hc : Callee P f := by trivial)
    (hn : x ≠ "__name__" := by decide) (hx : sc.names.lookup x = some .globalImplicit := by rfl) (hd : (x == ("__debug__" : Str)) = false := by decide) : Ev P n sc ρ (.Call (.Name x xp) es [] pos) d :=
  ev_call p (.inr ⟨b, hn, hf⟩) hc h c hx hd
/-- a global that holds an int -/
theorem ev_gint {x : Str} {pos : Pos} {i : Int} {t : Tok} (p : PrmOK P) (g : P.mg x = some (.int i t)) (hx : sc.names.lookup x = some .globalImplicit := by rfl) (hd : (x == ("__debug__" : Str)) = false := by decide) : Ev P n sc ρ (.Name x pos) (.int i) :=
  fun X env A s e rm => eval_glo p e (.inl g) hx ⟨.refl, rd_int⟩ hd
theorem truth_int {a : Int} : Truth P n (.int a) (a != 0) := fun X A s u at' rm ra => by
  obtain ⟨t, rfl⟩ := int_rd ra
  exact PySem.P.truthy_int ⟨.refl, rfl⟩
theorem truth_list {ds : List D} (hf : ds.length < 2 ^ 62) : Truth P n (.list ds) (!ds.isEmpty) := fun X A s u at' rm ra => by
  obtain ⟨a, vs, rfl, hx, hl, hr⟩ := list_rd ra
  have hlen := rdL_length hr
  simp at hlen
  refine wpAny_truthy_list hl (by (clear hx; omega)) ⟨step_toks, ?_⟩
  have e : vs.isEmpty = decide (vs.size = 0) := rfl
  rw [e, ← hlen]
  cases ds <;> simp
/-- a def of the top that makes functions: its code's place is asked, too -/
structure DefC (P : Prm) (x : Str) (d : Stmt) (c : Addr) (q : Str) : Prop where
  at' : ∃ a fd, P.mg x = some (.ref a) ∧ keepIn P.K (.ref a) = true ∧ FnObj P a d fd ∧ fd.code = .ref c ∧ fd.qualname = q
theorem DefC.ok {x : Str} {d : Stmt} {c : Addr} {q : Str} (D' : DefC P x d c q) (p : PrmOK P) {xs : List Str} {ds : List D} {r : D} (O : DefOK d xs) (hpp : Binds d xs) (hlen : xs.length = ds.length) (hb : ∀ fd, fd.code = .ref c → fd.qualname = q → BodyOK P n fd d (xs.zip ds) r) : Ok P x (n + 1) ds r := by
  obtain ⟨a, fd, h1, h2, F, h3, h4⟩ := D'.at'
  exact ⟨.ref a, .inl h1, h2, call_own p F O (hb fd h3 h4) hlen (hpp fd F.params F.dv F.kd)⟩
theorem mulOk {a b : Int} (ha : a.natAbs < 2 ^ 64) (hb : b.natAbs < 2 ^ 64) : IntMulOk a b := mulOk_of_bits (m := 64) (n := 64) (intBits_le_iff.mpr ha) (intBits_le_iff.mpr hb) (by decide)
theorem noPylong {a b : Int} (ha : a.natAbs < 2 ^ 64) : Builtin.divisionGoesByPylong a b = false := by
  unfold Builtin.divisionGoesByPylong
  have h : (if (a == 0) = true then 0 else a.natAbs.log2 / 30 + 1) ≤ 3 := by
    split
    · (clear ha; omega)
    · rename_i q
      have h0 : a.natAbs ≠ 0 := fun e => q (by have := Int.natAbs_eq_zero.mp e; subst this; rfl)
      have := (Nat.log2_lt h0).mpr ha
      (clear ha q h0; omega)
  simp only [Bool.and_eq_false_iff, decide_eq_false_iff_not]
  right
  (clear ha; omega)
end
end Mine
end
section
open PySem PySem.W PySem.Calls PyProof.Rows
set_option Elab.async false
set_option maxRecDepth 100000
set_option linter.unusedVariables false
namespace Mine

section
variable {P : Prm} {X X' Y Z X₀ Z₀ W : ASet} {env : Env} {sc scope : Scope} {ρ ρ' ρc : Rho} {s s' s₀ : Shared} {A : Around} {n m : Nat} {h h' : Heap} {o o' : Own1} {t : Tab}

/-- an operation that makes a list of ints that none else holds -/
noncomputable def OpNew (P : Prm) (n : Nat) (op : Operator) (a b : D) (ns : List Int) : Prop :=
  ∀ X A s u v, At P X s.heap → Room A n → Rd X s.heap a u → Rd X s.heap b v → wpAny (model P.prog P.w) A (binaryOp op u v) (fun w s' => ∃ c, w = .ref c ∧ s.heap.objs.size ≤ c ∧ Step P E0 s s' ∧ OwnZ s' c ns) F0 s

theorem opnew_addl {a b : List Int} (hsz : a.length + b.length ≤ 1000000) : OpNew P n .Add (Zs a) (Zs b) (a ++ b) := fun X A s u v at' rm ra rb => by
  obtain ⟨l, vs, rfl, hx, hl, hr⟩ := list_rd ra; obtain ⟨m, us, rfl, hx', hl', hr'⟩ := list_rd rb
  have q := rdL_length hr; have q' := rdL_length hr'
  simp at q q'
  obtain ⟨⟨cls, dd, data, sl⟩, ho, hc, k, hd⟩ := id hl
  obtain ⟨⟨cls2, dd2, data2, sl2⟩, ho2, hc2, k2, hd2⟩ := id hl'
  simp only at hc hd hc2 hd2
  subst hc hd hc2 hd2
  refine concat_meets ⟨_, ho, rfl⟩ ⟨_, ho2, rfl⟩ noFill_list_add seq_list_add PySem.F.slot_list_add PySem.F.entry_list_add (PySem.F.args_list_add_2 _ _) (list_addW l m vs us k k2 dd dd2 sl sl2 (by rw [sizeLine_eq]; (clear hx hx'; omega))) ⟨ho, ho2, ?_⟩
  refine ⟨_, rfl, Nat.le_refl _, step_push, vs ++ us, ⟨0, Heap.get?_push_size _ rfl⟩, ?_⟩
  have := (intsAre_of hr).append (intsAre_of hr')
  simpa using this
theorem opnew_mull {a : List Int} {x : Int} (hx0 : x < 2 ^ 62) (hlo : -(2 ^ 62) ≤ x) (hsz : a.length * x.toNat ≤ 1000000) : OpNew P n .Mult (Zs a) (.int x) (List.replicate x.toNat a).flatten := fun X A s u v at' rm ra rb => by
  obtain ⟨l, vs, rfl, hx, hl, hr⟩ := list_rd ra; obtain ⟨t', rfl⟩ := int_rd rb
  have q := rdL_length hr
  simp at q
  obtain ⟨⟨cls, d, data, sl⟩, ho, hcl, k, hd⟩ := id hl
  simp only at hcl hd
  subst hcl hd
  have hsz' : vs.size * x.toNat ≤ 1000000 := by rw [← q]; exact hsz
  refine wpAny_binaryOp_repeat_ref (T := "list") (U := "int") (by decide) ⟨_, ho, rfl⟩ (fun s' => typeIs_int s' x t') noFill_list_mul F.fills_int_mul F.slot_int_rmul repeat_list F.slot_int_index.lookup
    (call_meets F.slot_int_rmul (typeIs_int s x t') F.entry_int_rmul (F.args_int_rmul_2 _ _) (lm_int_rmul_list_any x t' l vs k d sl)
      ⟨ho, rfl, ⟨_, ho, rfl⟩, call_meets F.slot_list_mul ⟨_, ho, rfl⟩ F.entry_list_mul (F.args_list_mul_2 _ _)
        (lm_list_mul_any l vs k d sl x t' (by simp [Builtin.List.listFitsIndex]; (clear hsz hx q hsz'; omega)) (by (clear hx0 hlo hsz hx q; omega)) (by simp [Builtin.List.listTooLong, sizeLine]; (clear hx0 hlo hsz hx q; omega)))
        ⟨ho, ?_⟩⟩)
  refine ⟨_, rfl, Nat.le_refl _, step_push, _, ⟨0, Heap.get?_push_size _ rfl⟩, ?_⟩
  rw [listMul_foldl_if]
  have h1 := rdL_rep (of_intsAre (X := E0) (h := s.heap) (intsAre_of hr)) x.toNat
  have e : ∀ k : Nat, (List.replicate k (a.map D.int)).flatten = ((List.replicate k a).flatten).map D.int := fun k => by simp [List.map_flatten]
  rw [e] at h1
  simpa using intsAre_of h1

/-- x = l op r, a list that the frame will fill -/
theorem sx_newop {x : Str} {l r : Expr} {op : Operator} {bp px pos : Pos} {a b : D} {ns : List Int} {rest : List Stmt} {E : Value → Shared → Prop} {Q : Flow → Shared → Prop} (S : SS P X₀ Z₀ s₀ Z X env sc ρ none s) (rm : Room A n) (h1 : Ev P n sc ρ l a) (h2 : Ev P n sc ρ r b) (h3 : OpNew P n op a b ns) (hx : Stored sc x)
    (k : ∀ c s', s₀.heap.objs.size ≤ c → SS P X₀ Z₀ s₀ (Un Z (One c)) (Un X (One c)) env sc ((x, .ptr c) :: ρ) (some (x, c, ns)) s' → wpAny (model P.prog P.w) A (execs rest env) Q E s')
    (hsw : ∀ env, swapsWith (.BinOp l op r bp) (some (.Name x px)) pos.line env = pure false := by intro _; rfl) :
    wpAny (model P.prog P.w) A (execs (.Assign [.Name x px] (.BinOp l op r bp) pos :: rest) env) Q E s := by
  refine wpAny_execs_cons (wpAny_Assign_Name (wpAny_BinOp (ev_of h1 S.a.e rm fun u s1 st1 e1 r1 => ev_of h2 e1 rm fun v s2 st2 e2 r2 => wpAny_mono (h3 X A s2 u v e2.at' rm (r1.step st2) r2) (fun w s3 ⟨c, e, hc, st3, ho⟩ => ?_) fun _ _ x => x.elim)) (hsw env))
  subst e
  have st := (st1.trans st2).trans st3
  have hc0 : s.heap.objs.size ≤ c := Nat.le_trans (st1.trans st2).heap.size hc
  have a1 := S.a.step st
  obtain ⟨vs, ⟨kk, hg⟩, hi⟩ := id ho
  have aX : At P (Un X (One c)) s3.heap := e2.at'.more (a1.e.at') hc hg (nc_cls rfl)
  have e3 := S.a.e.grow st (Y := One c) (fun b y => by rw [show b = c from y]; exact hc0) aX
  have a2 : Sta P (Un Z (One c)) s₀ (Un X (One c)) env sc ρ s3 :=
    ⟨e3, a1.st.weak fun b z => .inl z, .inl a1.zl, fun x c h1 h2 => .inl (a1.zc x c h1 h2), fun b z => z.elim (fun z => .inl (a1.zx b z)) .inr, a1.apart, a1.own⟩
  have hc1 : s₀.heap.objs.size ≤ c := Nat.le_trans S.a.st.heap.size hc0
  refine a2.store hx (d := .ptr c) (by simp only [Rd]) fun s4 st4 a4 => ?_
  exact k c s4 hc1 ⟨a4, fun y c' ns' e => by cases e; exact ⟨lookup_cons_eq, .inr rfl, ho.seat e3 st4⟩, fun b x => .inl (S.rx b x), fun b z => z.elim (S.rz b) fun q => .inr ((show b = c from q) ▸ hc1)⟩

theorem intsAre_set {v : Int} {t : Tok} : ∀ {vs : List Value} {ns : List Int}, IntsAre vs ns → ∀ i : Nat, IntsAre (vs.set i (.int v t)) (ns.set i v)
  | _, _, .nil, _ => .nil
  | _, _, .cons n t r, 0 => .cons v _ r
  | _, _, .cons n t r, i + 1 => .cons n t (intsAre_set r i)
/-- xs[i] = e, xs the frame's own -/
theorem sx_setitem {x : Str} {c : Addr} {ns : List Int} {e i : Expr} {xp sp pos : Pos} {v k : Int} {rest : List Stmt} {E : Value → Shared → Prop} {Q : Flow → Shared → Prop} (S : SS P X₀ Z₀ s₀ Z X env sc ρ (some (x, c, ns)) s) (rm : Room A n)
    (he : Ev P n sc ((x, Zs ns) :: ρ) e (.int v)) (hi : Ev P n sc ((x, Zs ns) :: ρ) i (.int k)) (h0 : (0 : Int) ≤ k) (hlt : k < ns.length) (hfit : ns.length < 2 ^ 62)
    (kk : ∀ s', SS P X₀ Z₀ s₀ Z X env sc ρ (some (x, c, ns.set k.toNat v)) s' → wpAny (model P.prog P.w) A (execs rest env) Q E s')
    (hd : (x == ("__debug__" : Str)) = false := by decide) (hcl : (x == ("__classdict__" : Str)) = false := by decide)
    (hsw : swapsWith e (some (.Subscript (.Name x xp) i sp)) pos.line env = pure false := by rfl) :
    wpAny (model P.prog P.w) A (execs (.Assign [.Subscript (.Name x xp) i sp] e pos :: rest) env) Q E s := by
  refine wpAny_execs_cons (wpAny_Assign_Subscript (ev_of he S.seen rm fun w s1 st1 e1 r1 => ?_) hsw)
  have S1 := S.step st1
  obtain ⟨h1, h2, h3⟩ := S1.o x c ns rfl
  refine wpAny_Name (load_env S1.a.e h1 (fun u hu => ?_) hcl) hd
  simp only [Rd] at hu; subst hu
  refine ev_of hi e1 rm fun u s2 st2 e2 r2 => ?_
  have S2 := S1.step st2
  obtain ⟨_, _, o2⟩ := S2.o x c ns rfl
  obtain ⟨tv, rfl⟩ := int_rd r1
  obtain ⟨tk, rfl⟩ := int_rd r2
  obtain ⟨vs, ⟨kk', ho⟩, hin⟩ := id o2
  have hl := hin.length
  simp at hl
  refine ki_setAt ho h0 (by (clear h0; omega)) (by (clear h0 hfit; omega)) ?_
  have st2' : HStep P (One c) s2.heap (s2.heap.update c (Obj.mapSeq fun xs => xs.setIfInBounds k.toNat (.int v tv))) := HStep.update S2.a.e.at' (S2.a.zx c h2) (notTab_of S2.a.e.at' ho (nt_cls rfl)) (Heap.SameBut.update ..)
  obtain ⟨_, nl, nc⟩ := o2.notSeat S2.a.e
  have e3 := S2.a.e.stepY (s' := { s2 with heap := s2.heap.update c (Obj.mapSeq fun xs => xs.setIfInBounds k.toNat (.int v tv)) }) (step_heap st2') (fun b q => (show b = c from q) ▸ S2.a.zx c h2) fun b q => by
    have q' : b = c := q
    subst q'
    rintro (q | ⟨m, hm⟩)
    · exact nl q
    · exact nc m _ hm rfl
  refine kk _ ⟨⟨e3, S2.a.st.trans (step_heap (st2'.weak fun b q => (show b = c from q) ▸ h2)), S2.a.zl, S2.a.zc, S2.a.zx, S2.a.apart, S2.a.own⟩, fun y c' ns' q => by cases q; exact ⟨h1, h2, vs.setIfInBounds k.toNat (.int v tv), ⟨_, IsL.update ho _⟩, by rw [Array.toList_setIfInBounds]; exact intsAre_set hin _⟩, S2.rx, S2.rz⟩
end
end Mine
end
section
open PySem PySem.W PySem.Calls PyProof.Rows
set_option Elab.async false
set_option maxRecDepth 100000
set_option linter.unusedVariables false
namespace Mine

section
variable {P : Prm} {X X' Y Z X₀ Z₀ W : ASet} {env : Env} {sc scope : Scope} {ρ ρ' ρc : Rho} {s s' s₀ : Shared} {A : Around} {n m : Nat} {h h' : Heap} {o o' : Own1} {t : Tab} {f : Addr} {fd : FuncData}

/-- a call of a function that a frame has made: the arguments, then the call -/
theorem ptr_callWith {pos : Pos} {es : List Expr} {ds : List D} {E : Value → Shared → Prop} {Q : Value → Shared → Prop} (h : EvL P n sc ρ es ds) (e : EnvAt P X env sc ρ s) (rm : Room A n) (hf : FnIs s.heap f fd)
    (k : ∀ vs s', Step P E0 s s' → RdL X s'.heap ds vs → wpAny (model P.prog P.w) A (call (.ref f) vs) Q E s') : wpAny (model P.prog P.w) A (callWith pos (.ref f) [] (backTo pos (starEach es env)) []) Q E s :=
  callWith_of (P := FnAt f) (by rw [evl_plain h pos]; rfl) (fun h a => keeps_F h a) (evalArgs_evl h e rm fun vs s1 st1 e1 r1 =>
    ⟨(let ⟨od, sl, e⟩ := (hf.agree st1.heap.keep fun y => y).obj; ⟨_, _, _, _, e⟩), k vs s1 st1 r1⟩)

theorem closOf_names {cells : List (Str × Addr)} : ∀ (names : List (Str × NameKind)) (acc : List (Str × Addr)), (names.map (·.1)).Nodup → (acc.map (·.1)).Nodup → (∀ x ∈ names.map (·.1), x ∉ acc.map (·.1)) → ((closOf cells names acc).map (·.1)).Nodup
  | [], acc, _, h2, _ => h2
  | (x, k) :: r, acc, h1, h2, h3 => by
    unfold closOf
    have h1' := List.nodup_cons.mp h1
    have keep : ((closOf cells r acc).map (·.1)).Nodup := closOf_names r acc h1'.2 h2 fun y hy => h3 y (.tail _ hy)
    split
    · split
      · refine closOf_names r _ h1'.2 ?_ fun y hy hy2 => ?_
        · exact List.nodup_cons.mpr ⟨h3 x (.head _), h2⟩
        · rcases List.mem_cons.mp hy2 with q | q
          · exact h1'.1 (q ▸ hy)
          · exact h3 y (.tail _ hy) q
      · exact keep
    · exact keep
theorem closOf_apart {cells : List (Str × Addr)} {names : List (Str × NameKind)} (ha : cells.Pairwise fun x y => x.2 ≠ y.2) (hn : (names.map (·.1)).Nodup) : (closOf cells names []).Pairwise fun x y => x.2 ≠ y.2 := by
  have h := closOf_names (cells := cells) names [] hn .nil fun _ _ q => (nomatch q)
  rw [List.Nodup, List.pairwise_map] at h
  refine h.imp_of_mem fun {p q} hp hq hne e => hne ?_
  have h1 := (closOf_mem _ _ p.1 p.2 hp).resolve_right fun q => (nomatch q)
  have h2 := (closOf_mem _ _ q.1 q.2 hq).resolve_right fun q => (nomatch q)
  exact name_of_addr ha (mem_lookup h1) (e ▸ mem_lookup h2)

/-- what a made function reads -/
noncomputable def Reads' (names : List (Str × NameKind)) (ρ : Rho) : Rho → Prop
  | [] => True
  | (x, d) :: r => (x, NameKind.free) ∈ names ∧ ρ.lookup x = some d ∧ Reads' names ρ r
theorem reads_mem {names : List (Str × NameKind)} : ∀ {r : Rho}, Reads' names ρ r → ∀ {x : Str} {d : D}, r.lookup x = some d → (x, NameKind.free) ∈ names ∧ ρ.lookup x = some d
  | (y, e) :: r, h, x, d, hl => by
    obtain ⟨h1, h2, h3⟩ := h
    rw [List.lookup_cons] at hl
    cases hb : x == y with
    | true => rw [hb] at hl; cases hl; rw [eq_of_beq hb]; exact ⟨h1, h2⟩
    | false => rw [hb] at hl; exact reads_mem h3 hl
/-- def inside a def, in the bundle -/
theorem sx_def {name : Str} {params : Arguments} {body rest : List Stmt} {pos : Pos} {E : Value → Shared → Prop} {Q : Flow → Shared → Prop} (ρc : Addr → Rho) (p : PrmOK P) (S : SS P X₀ Z₀ s₀ Z X env sc ρ o s) (ht : t ∈ P.tabs) (hu : ∀ t' ∈ P.tabs, t'.P = t.P → t' = t) (hcode : env.code = .ref t.c) (hl : pos.line = t.line) (hc : pos.col = t.col)
    (hq : qualnameIn env name name = t.qual) (hx : Stored sc name) (hd0 : params.defaults = []) (hk0 : params.kw_defaults = []) (ha : annTrees params none env = []) (hn : ownName o ≠ some name)
    (hnd : (scope.names.map (·.1)).Nodup) (hfr : ∀ x, (x, NameKind.free) ∈ scope.names → sc.names.lookup x = some .cell) (hρ : ∀ f, Reads' scope.names ((name, .ptr f) :: ρ) (ρc f))
    (k : ∀ f fd s', SS P X₀ Z₀ s₀ Z X env sc ((name, .ptr f) :: ρ) o s' → FdIs fd params body scope (closOf env.cells scope.names []) t.qual → s₀.heap.objs.size ≤ f → Fn P X s'.heap f fd (ρc f) → wpAny (model P.prog P.w) A (execs rest env) Q E s') :
    wpAny (model P.prog P.w) A (execs (.FunctionDef name params body [] none [] scope none name pos :: rest) env) Q E s := by
  have own : ∀ x, (x, NameKind.free) ∈ scope.names → ∃ c, env.cells.lookup x = some c := fun x hx => S.a.own x (hfr x hx)
  refine wpAny_execs_cons (st_def p S.a ht hu hcode hl hc hq hx (fun x hx => by obtain ⟨c, hc⟩ := own x hx; rw [hc]; rfl) hd0 hk0 ha fun f fd s' hf st a' hi hd hcc => ?_)
  have S' : SS P X₀ Z₀ s₀ Z X env sc ((name, .ptr f) :: ρ) o s' := ⟨a', fun y c ns e => let ⟨h1, h2, h3⟩ := S.o y c ns e; ⟨lookup_own hn e h1, h2, h3.seat S.a.e st⟩, S.rx, S.rz⟩
  refine k f fd s' S' hd (Nat.le_trans S.a.st.heap.size hf) ⟨hi, fun x => Nat.lt_irrefl _ (Nat.lt_of_lt_of_le (S.a.e.at'.below _ x) hf), hd.qual ▸ hcc, hd.globals, hd.builtins, ?_, fun x c hm => ?_, fun x d hx => ?_⟩
  · rw [hd.clo]; exact closOf_apart S.a.apart hnd
  · rw [hd.clo] at hm
    have := (closOf_mem _ _ x c hm).resolve_right fun q => (nomatch q)
    obtain ⟨h1, h2, v, h3⟩ := a'.e.xc x c (mem_lookup this)
    exact ⟨h1, v, h3⟩
  · obtain ⟨h1, h2⟩ := reads_mem (hρ f) hx
    obtain ⟨c, v, g1, g2, g3⟩ := a'.e.cel x d h2 (.inl (hfr x h1))
    exact ⟨c, v, by rw [hd.clo]; exact closOf_lookup g1 h1, g2, g3⟩

/-- a call of a made function, as an expression -/
theorem ptr_eval {x : Str} {xp pos : Pos} {es : List Expr} {ds : List D} {E : Value → Shared → Prop} {Q : Value → Shared → Prop} (h : EvL P n sc ρ es ds) (e : EnvAt P X env sc ρ s) (rm : Room A n) (hx : ρ.lookup x = some (.ptr f)) (hf : FnIs s.heap f fd)
    (k : ∀ vs s', Step P E0 s s' → RdL X s'.heap ds vs → wpAny (model P.prog P.w) A (call (.ref f) vs) Q E s') (hd : (x == ("__debug__" : Str)) = false := by decide) (hcl : (x == ("__classdict__" : Str)) = false := by decide) :
    wpAny (model P.prog P.w) A (eval (.Call (.Name x xp) es [] pos) env) Q E s := by
  show wpAny _ A (do callWith pos (← eval (.Name x xp) env) [] (backTo pos (starEach es env)) []) _ _ s
  refine wpAny_bind (wpAny_Name (load_env e hx (fun v hv => ?_) hcl) hd)
  simp only [Rd] at hv; subst hv
  exact ptr_callWith h e rm hf k

/-- as a statement: the called one turns the frame's own list -/
theorem sx_callptr {x y : Str} {xp cpos pos : Pos} {es : List Expr} {ds : List D} {c : Addr} {ns ns' : List Int} {rest : List Stmt} {E : Value → Shared → Prop} {Q : Flow → Shared → Prop} (S : SS P X₀ Z₀ s₀ Z X env sc ρ (some (y, c, ns)) s) (rm : Room A n)
    (h : EvL P n sc ((y, Zs ns) :: ρ) es ds) (hx : List.lookup x ((y, Zs ns) :: ρ) = some (.ptr f)) (hf : FnIs s.heap f fd)
    (hcall : ∀ vs s1, Step P E0 s s1 → SS P X₀ Z₀ s₀ Z X env sc ρ (some (y, c, ns)) s1 → RdL (cut X (some (y, c, ns))) s1.heap ds vs → wpAny (model P.prog P.w) A (call (.ref f) vs) (fun w s2 => w = .none ∧ Step P (One c) s1 s2 ∧ OwnZ s2 c ns') F0 s1)
    (k : ∀ s', Step P (One c) s s' → SS P X₀ Z₀ s₀ Z X env sc ρ (some (y, c, ns')) s' → wpAny (model P.prog P.w) A (execs rest env) Q E s')
    (hd : (x == ("__debug__" : Str)) = false := by decide) (hcl : (x == ("__classdict__" : Str)) = false := by decide)
    (hi : ∀ env : Env, env.scope = sc → interactive env = false := by intro env he; unfold interactive; rw [he]; rfl)
    (hsw : swapsWith (.Call (.Name x xp) es [] cpos) none pos.line env = pure false := by rfl) :
    wpAny (model P.prog P.w) A (execs (.Expr (.Call (.Name x xp) es [] cpos) pos :: rest) env) Q E s := by
  refine wpAny_execs_cons (wpAny_Expr ?_ (hi env S.a.e.hsc) hsw)
  refine ptr_eval h S.seen rm hx hf (fun vs s1 st1 r1 => ?_) hd hcl
  have S1 := S.step st1
  refine wpAny_mono (hcall vs s1 st1 S1 r1) (fun w s2 ⟨e, st2, o2⟩ => ?_) fun _ _ x => x.elim
  subst e
  obtain ⟨h1, h2, h3⟩ := S1.o y c ns rfl
  obtain ⟨_, nl, nc⟩ := h3.notSeat S1.a.e
  have e2 := S1.a.e.stepY st2 (fun b q => (show b = c from q) ▸ S1.a.zx c h2) fun b q => by
    have q' : b = c := q
    subst q'
    rintro (q | ⟨m, hm⟩)
    · exact nl q
    · exact nc m _ hm rfl
  exact k s2 (st1.any.trans st2) ⟨⟨e2, S1.a.st.trans (st2.weak fun b q => (show b = c from q) ▸ h2), S1.a.zl, S1.a.zc, S1.a.zx, S1.a.apart, S1.a.own⟩, fun y' c' ns'' q => by cases q; exact ⟨h1, h2, o2⟩, S1.rx, S1.rz⟩
end
end Mine
end
section
set_option Elab.async false
set_option linter.unusedVariables false
namespace Mine
/-- figures to the base 2 ^ n, the lowest first -/
noncomputable def digs (n : Nat) : Nat → Nat → List Nat
  | 0, _ => []
  | k + 1, x => x % 2 ^ n :: digs n k (x / 2 ^ n)
noncomputable def valL (n : Nat) : List Nat → Nat
  | [] => 0
  | d :: r => d + 2 ^ n * valL n r
theorem digs_length (n : Nat) : ∀ k x, (digs n k x).length = k
  | 0, x => rfl
  | k + 1, x => by simp [digs, digs_length n k]
theorem digs_append (n : Nat) : ∀ i j x, digs n (i + j) x = digs n i (x % 2 ^ (n * i)) ++ digs n j (x / 2 ^ (n * i))
  | 0, j, x => by simp [digs]
  | i + 1, j, x => by
    rw [show i + 1 + j = (i + j) + 1 from by omega]
    simp only [digs, List.cons_append]
    have e : 2 ^ (n * (i + 1)) = 2 ^ n * 2 ^ (n * i) := by rw [← Nat.pow_add]; congr 1; rw [Nat.mul_add]; omega
    rw [digs_append n i j, e]
    congr 1
    · rw [Nat.mod_mul_right_mod]
    · congr 1
      · rw [Nat.mod_mul_right_div_self]
      · rw [Nat.div_div_eq_div_mul]
theorem digs_lt (n : Nat) : ∀ k x, ∀ d ∈ digs n k x, d < 2 ^ n
  | 0, x, d, h => by simp [digs] at h
  | k + 1, x, d, h => by
    rcases List.mem_cons.mp h with rfl | h
    · exact Nat.mod_lt _ (Nat.two_pow_pos n)
    · exact digs_lt n k _ d h
theorem valL_digs (n : Nat) : ∀ k x, x < 2 ^ (n * k) → valL n (digs n k x) = x
  | 0, x, h => by simp at h; simp [digs, valL, h]
  | k + 1, x, h => by
    have e : 2 ^ (n * (k + 1)) = 2 ^ n * 2 ^ (n * k) := by rw [← Nat.pow_add]; congr 1; rw [Nat.mul_add]; (clear h; omega)
    rw [e] at h
    simp only [digs, valL]
    rw [valL_digs n k _ (Nat.div_lt_of_lt_mul h)]
    exact Nat.mod_add_div x (2 ^ n)
theorem valL_append (n : Nat) : ∀ a b, valL n (a ++ b) = valL n a + 2 ^ (n * a.length) * valL n b
  | [], b => by simp [valL]
  | d :: a, b => by
    have e : 2 ^ (n * (a.length + 1)) = 2 ^ n * 2 ^ (n * a.length) := by rw [← Nat.pow_add]; congr 1; rw [Nat.mul_add]; omega
    simp only [List.cons_append, valL, valL_append n a b, List.length_cons]
    rw [e, Nat.mul_add, Nat.mul_assoc, Nat.add_assoc]
theorem valL_lt (n : Nat) : ∀ l : List Nat, (∀ d ∈ l, d < 2 ^ n) → valL n l < 2 ^ (n * l.length)
  | [], _ => by simp [valL]
  | d :: l, h => by
    have h1 := valL_lt n l fun x hx => h x (.tail _ hx)
    have h2 := h d (.head _)
    have e : 2 ^ (n * (l.length + 1)) = 2 ^ n * 2 ^ (n * l.length) := by rw [← Nat.pow_add]; congr 1; rw [Nat.mul_add]; (clear h1 h2; omega)
    simp only [valL, List.length_cons, e]
    calc d + 2 ^ n * valL n l < 2 ^ n + 2 ^ n * valL n l := by (clear h1 e; omega)
      _ = 2 ^ n * (valL n l + 1) := by rw [Nat.mul_add]; (clear h1 h2 e; omega)
      _ ≤ 2 ^ n * 2 ^ (n * l.length) := Nat.mul_le_mul_left _ h1
/-- long division, the highest figure first -/
noncomputable def qs (n b : Nat) : Nat → List Nat → List Nat × Nat
  | r, [] => ([], r)
  | r, d :: ds => let t := r * 2 ^ n + d; ((t / b) :: (qs n b (t % b) ds).1, (qs n b (t % b) ds).2)
theorem qs_length (n b : Nat) : ∀ ds r, (qs n b r ds).1.length = ds.length
  | [], r => rfl
  | d :: ds, r => by simp [qs, qs_length n b ds]
theorem qs_val (n b : Nat) (hb : 0 < b) : ∀ ds r, r < b → r * 2 ^ (n * ds.length) + valL n ds.reverse = b * valL n (qs n b r ds).1.reverse + (qs n b r ds).2 ∧ (qs n b r ds).2 < b
  | [], r, h => by simp [qs, valL, h]
  | d :: ds, r, h => by
    obtain ⟨h1, h2⟩ := qs_val n b hb ds ((r * 2 ^ n + d) % b) (Nat.mod_lt _ hb)
    refine ⟨?_, h2⟩
    simp only [qs, List.reverse_cons, valL_append, List.length_reverse, qs_length, valL, Nat.mul_zero, Nat.add_zero, List.length_cons]
    have e : 2 ^ (n * (ds.length + 1)) = 2 ^ n * 2 ^ (n * ds.length) := by rw [← Nat.pow_add]; congr 1; rw [Nat.mul_add]; (clear hb h h1 h2; omega)
    rw [e]
    have h3 := Nat.div_add_mod (r * 2 ^ n + d) b
    generalize hp : 2 ^ (n * ds.length) = p at *
    generalize hq : 2 ^ n = q at *
    generalize (r * q + d) / b = u at *
    generalize hm : (r * q + d) % b = m at *
    have h4 : (r * q + d) * p = (b * u + m) * p := by rw [h3]
    have e1 : (r * q + d) * p = r * (q * p) + p * d := by rw [Nat.add_mul, Nat.mul_assoc, Nat.mul_comm d p]
    have e2 : (b * u + m) * p = b * (p * u) + m * p := by rw [Nat.add_mul, Nat.mul_assoc, Nat.mul_comm u p]
    rw [Nat.mul_add]
    (clear hb h hp hq e hm h2 h3; omega)
theorem qs_lt (n b : Nat) (hb : 0 < b) : ∀ ds r, r < b → (∀ d ∈ ds, d < 2 ^ n) → ∀ q ∈ (qs n b r ds).1, q < 2 ^ n
  | [], r, h, hd, q, hq => by simp [qs] at hq
  | d :: ds, r, h, hd, q, hq => by
    simp only [qs, List.mem_cons] at hq
    rcases hq with rfl | hq
    · have h1 := hd d (.head _)
      refine Nat.div_lt_of_lt_mul ?_
      calc r * 2 ^ n + d < r * 2 ^ n + 2 ^ n := by (clear hb h; omega)
        _ = (r + 1) * 2 ^ n := by rw [Nat.add_mul]; (clear hb h h1; omega)
        _ ≤ b * 2 ^ n := Nat.mul_le_mul_right _ h
    · exact qs_lt n b hb ds _ (Nat.mod_lt _ hb) (fun x hx => hd x (.tail _ hx)) q hq
theorem qs_final {n b a k : Nat} (hb : 0 < b) (ha : a < 2 ^ (n * k)) : valL n (qs n b 0 (digs n k a).reverse).1.reverse = a / b ∧ (qs n b 0 (digs n k a).reverse).2 = a % b := by
  obtain ⟨h1, h2⟩ := qs_val n b hb (digs n k a).reverse 0 hb
  rw [List.reverse_reverse, valL_digs n k a ha, Nat.zero_mul, Nat.zero_add] at h1
  generalize valL n (qs n b 0 (digs n k a).reverse).1.reverse = q at *
  generalize (qs n b 0 (digs n k a).reverse).2 = r at *
  subst h1
  constructor
  · rw [Nat.mul_add_div hb, Nat.div_eq_of_lt h2]; simp
  · rw [Nat.mul_add_mod, Nat.mod_eq_of_lt h2]
theorem and_floor (x s : Nat) : x &&& (x / 2 ^ s * 2 ^ s) = x / 2 ^ s * 2 ^ s := by
  apply Nat.eq_of_testBit_eq
  intro i
  rw [Nat.testBit_and, ← Nat.shiftLeft_eq, Nat.testBit_shiftLeft, Nat.testBit_div_two_pow]
  by_cases h : i ≥ s
  · simp [h, show i - s + s = i from by omega]
  · simp [h]
theorem xor_floor (x s : Nat) : PySem.Builtin.bitXor (x : Int) (((x : Int).fdiv (2 ^ s)) * 2 ^ s) = ((x % 2 ^ s : Nat) : Int) := by
  have e : ((x : Int).fdiv (2 ^ s)) * 2 ^ s = ((x / 2 ^ s * 2 ^ s : Nat) : Int) := by
    rw [Int.fdiv_eq_ediv_of_nonneg _ (Int.le_of_lt (Int.pow_pos (by decide)))]
    push_cast; rfl
  rw [e, PyProof.Rows.bitXor_and]
  have e2 : PySem.Builtin.bitAnd (x : Int) ((x / 2 ^ s * 2 ^ s : Nat) : Int) = ((x / 2 ^ s * 2 ^ s : Nat) : Int) := by
    unfold PySem.Builtin.bitAnd
    rw [decide_eq_true (Int.natCast_nonneg x), decide_eq_true (Int.natCast_nonneg _)]
    simp only [Int.toNat_natCast]
    rw [and_floor]
  rw [e2]
  have := Nat.div_add_mod x (2 ^ s)
  rw [Nat.mul_comm] at this
  (clear e; omega)
/-- a part of a list written anew -/
noncomputable def put (ns : List Nat) (L : Nat) (ds : List Nat) : List Nat := ns.take L ++ ds ++ ns.drop (L + ds.length)
theorem put_length {ns ds : List Nat} {L : Nat} (h : L + ds.length ≤ ns.length) : (put ns L ds).length = ns.length := by simp [put]; omega
theorem put_put {ns a b : List Nat} {L : Nat} (h : L + a.length + b.length ≤ ns.length) : put (put ns L a) (L + a.length) b = put ns L (a ++ b) := by
  have hl : (ns.take L).length = L := by simp; omega
  unfold put
  have e1 : (ns.take L ++ a ++ ns.drop (L + a.length)).take (L + a.length) = ns.take L ++ a := by
    rw [List.take_append_of_le_length (by simp; omega), List.take_of_length_le (by simp; (clear h; omega))]
  have e2 : (ns.take L ++ a ++ ns.drop (L + a.length)).drop (L + a.length + b.length) = ns.drop (L + (a ++ b).length) := by
    rw [List.drop_append, List.drop_of_length_le (by simp; (clear h; omega)), List.nil_append, List.drop_drop, List.length_append, hl, List.length_append]
    congr 1; (clear h hl; omega)
  rw [e1, e2]; simp
theorem put_all {ns ds : List Nat} (h : ds.length = ns.length) : put ns 0 ds = ds := by
  unfold put; simp [h]
theorem put_one {ns : List Nat} {L x : Nat} (h : L < ns.length) : put ns L [x] = ns.set L x := by
  unfold put
  rw [List.set_eq_take_append_cons_drop, if_pos h]; simp
end Mine
end
section
open PySem PySem.W PySem.Calls PyProof.Rows
set_option Elab.async false
set_option maxRecDepth 100000
set_option linter.unusedVariables false
namespace Mine

section
variable {P : Prm} {X X' Y Z X₀ Z₀ W : ASet} {env : Env} {sc scope : Scope} {ρ ρ' ρc : Rho} {s s' s₀ : Shared} {A : Around} {n m : Nat} {h h' : Heap} {o o' : Own1} {t : Tab} {f : Addr} {fd : FuncData}
theorem mBits {i : Int} : ∀ (X : ASet) (A : Around) (s : Shared) (v : Value) (pl : Sem Bool) (Q : Value × List Value → Shared → Prop), Rd X s.heap (.int i) v → Q (.builtin "int.bit_length", [v]) s → wpAny (model P.prog P.w) A (getMethod v "bit_length" pl) Q F0 s := fun _ _ _ _ _ _ r q => meth_bits r q
theorem mJoin {x : Str} : ∀ (X : ASet) (A : Around) (s : Shared) (v : Value) (pl : Sem Bool) (Q : Value × List Value → Shared → Prop), Rd X s.heap (.str x) v → Q (.builtin "str.join", [v]) s → wpAny (model P.prog P.w) A (getMethod v "join" pl) Q F0 s := fun _ _ _ _ _ _ r q => meth_join r q

theorem OpNew.congr {op : Operator} {a b : D} {ns ns' : List Int} (h : OpNew P n op a b ns) (e : ns = ns') : OpNew P n op a b ns' := e ▸ h
theorem rdL_ints {ns : List Int} {vs : List Value} (r : RdL X h (ns.map .int) vs) : RdL X' h' (ns.map .int) vs := of_intsAre (intsAre_of r)
theorem ownNe {x y : Str} {c : Addr} {ns : List Int} (h : x ≠ y) : ownName (some (x, c, ns)) ≠ some y := fun e => h (Option.some.inj e)
theorem Fn.later0 (F : Fn P X s₀.heap f fd ρc) (S₀ : SS P X₀ Z₀ s₀ Z X env sc ρ o s₀) (st : Step P Z s₀ s) (hz : ∀ b, Z b → b = env.locals) : Fn P X s.heap f fd ρc := by
  obtain ⟨m, ⟨o', es, ep, ho', hd', _⟩, _⟩ := S₀.a.e.lcl
  refine F.step st (fun b z => S₀.a.zx b z) fun x q hm z => ?_
  obtain ⟨_, v, o₂, e1, e2⟩ := F.cells x q hm
  have := hz q z
  subst this
  rw [ho'] at e1; cases e1; rw [hd'] at e2; cases e2
theorem sx_ifS {test : Expr} {body orelse rest : List Stmt} {pos : Pos} {b : Bool} {E : Value → Shared → Prop} {Q : Flow → Shared → Prop} (S : SS P X₀ Z₀ s₀ Z X env sc ρ o s) (rm : Room A n) (ht : Tr P n sc (see ρ o) test b)
    (h1 : b = true → ∀ s', Step P E0 s s' → SS P X₀ Z₀ s₀ Z X env sc ρ o s' → wpAny (model P.prog P.w) A (execs body env) (fun f s' => match f with | .next => wpAny (model P.prog P.w) A (execs rest env) Q E s' | f => Q f s') E s')
    (h2 : b = false → ∀ s', Step P E0 s s' → SS P X₀ Z₀ s₀ Z X env sc ρ o s' → wpAny (model P.prog P.w) A (execs orelse env) (fun f s' => match f with | .next => wpAny (model P.prog P.w) A (execs rest env) Q E s' | f => Q f s') E s') :
    wpAny (model P.prog P.w) A (execs (.If test body orelse pos :: rest) env) Q E s := by
  refine wpAny_execs_cons (wpAny_If (tr_of ht S.seen rm fun s1 st1 e1 => ?_))
  cases b with
  | true => exact h1 rfl s1 st1 (S.step st1)
  | false => exact h2 rfl s1 st1 (S.step st1)
/-- a made function, after what its frame did -/
theorem Fn.later {x : Str} {c : Addr} {ns : List Int} (F : Fn P X s₀.heap f fd ρc) (S₀ : SS P X₀ Z₀ s₀ Z X env sc ρ (some (x, c, ns)) s₀) (st : Step P Z s₀ s) (hz : ∀ b, Z b → b = env.locals ∨ b = c) : Fn P X s.heap f fd ρc := by
  obtain ⟨_, h2, vs, ⟨k, hc⟩, _⟩ := S₀.o x c ns rfl
  obtain ⟨m, ⟨o', es, ep, ho', hd', _⟩, _⟩ := S₀.a.e.lcl
  refine F.step st (fun b z => S₀.a.zx b z) fun x q hm z => ?_
  obtain ⟨_, v, o₂, e1, e2⟩ := F.cells x q hm
  rcases hz q z with rfl | rfl
  · rw [ho'] at e1; cases e1; rw [hd'] at e2; cases e2
  · rw [hc] at e1; cases e1; cases e2
end
theorem shr_half (a : Nat) : (a : Int).fdiv (2 ^ (1 : Int).toNat) = ((a / 2 : Nat) : Int) := by
  rw [Int.fdiv_eq_ediv_of_nonneg _ (by decide)]; rfl
theorem shr_nat (a : Nat) {k : Int} {j : Nat} (h : k = j) : (a : Int).fdiv (2 ^ k.toNat) = ((a / 2 ^ j : Nat) : Int) := by
  subst h
  rw [Int.fdiv_eq_ediv_of_nonneg _ (Int.le_of_lt (Int.pow_pos (by decide)))]
  push_cast; rfl
theorem valL_part (n : Nat) (l : List Nat) (L k : Nat) : valL n ((l.drop L).take k) ≤ valL n l := by
  have h1 : valL n (l.drop L) ≤ valL n l := by
    conv => rhs; rw [← List.take_append_drop L l, valL_append]
    have := Nat.le_mul_of_pos_left (valL n (l.drop L)) (Nat.two_pow_pos (n * (l.take L).length))
    omega
  have h2 : valL n ((l.drop L).take k) ≤ valL n (l.drop L) := by
    conv => rhs; rw [← List.take_append_drop k (l.drop L), valL_append]
    (clear h1; omega)
  omega
theorem fdiv_nat (a b : Nat) : (a : Int).fdiv b = ((a / b : Nat) : Int) := by rw [Int.fdiv_eq_ediv_of_nonneg _ (Int.natCast_nonneg b)]; rfl
theorem fmod_nat (a b : Nat) : (a : Int).fmod b = ((a % b : Nat) : Int) := by rw [Int.fmod_eq_emod_of_nonneg _ (Int.natCast_nonneg b)]; rfl
noncomputable abbrev iz (l : List Nat) : List Int := l.map fun x : Nat => (x : Int)
end Mine
end
section
open PySem PySem.W PySem.Calls PyProof.Rows
set_option Elab.async false
set_option maxRecDepth 100000
set_option linter.unusedVariables false
namespace Mine

section
variable {M : Model} {A : Around} {R : GenEnd} {Y : Protocol} {n : Nat} {s₀ : Shared} {c : Code} {fs : List Frame} {s : Shared} {env : Env} {K : Flow → Sem Fin} {H : Value → Sem Fin} {gd : Bool → Bool} {lv : List Value → List Value}
theorem sg_stmt {st : Stmt} (h : wpAny M (A.over c fs) (exec st env) (fun f s' => Seg M A R Y n s₀ c (K f) fs s') F0 s) : Seg M A R Y n s₀ c ((exec st env).wrap K H gd lv) fs s :=
  seg_wrap (wpAny_mono h (fun _ _ x => x) fun _ _ x => x.elim)
theorem sg_if {test : Expr} {body orelse : List Stmt} {pos : Pos}
    (h : wpAny M (A.over c fs) (isTrue test env (eval test env)) (fun b s' => if b = true then Seg M A R Y n s₀ c ((execs body env).wrap K H gd lv) fs s' else Seg M A R Y n s₀ c ((execs orelse env).wrap K H gd lv) fs s') F0 s) :
    Seg M A R Y n s₀ c ((exec (.If test body orelse pos) env).wrap K H gd lv) fs s := by
  rw [exec_If]
  show Seg M A R Y n s₀ c (.at pos fun _ => (isTrue test env (eval test env) >>= fun b => if b = true then execs body env else execs orelse env).wrap K H gd lv) fs s
  refine seg_at ?_
  rw [Sem.bind_eq_wrap', Sem.wrap_wrap]
  refine seg_wrap (wpAny_mono h (fun b s' hb => ?_) fun _ _ x => x.elim)
  cases b with
  | true => exact hb
  | false => exact hb
theorem sg_for {tgt iter : Expr} {body orelse : List Stmt} {pos : Pos} (hs : ∀ x, foldedSetIterable iter env x = pure x)
    (h : wpAny M (A.over c fs) (eval iter env) (fun x s1 => wpAny M (A.over c fs) (pyIter x) (fun it s2 => ∀ (k : Result → Sem Fin) p, (∀ f, k (.ok f) = K f) →
      Seg M A R Y n s₀ (.forLoop tgt it body orelse env) (M.den (.forLoop tgt it body orelse env)) (.ret k none (gd false) (lv []) c p [] :: fs) s2) F0 s1) F0 s) :
    Seg M A R Y n s₀ c ((exec (.For tgt iter body orelse pos) env).wrap K H gd lv) fs s := by
  rw [exec_For]
  show Seg M A R Y n s₀ c (.at pos fun _ => (eval iter env >>= fun v => foldedSetIterable iter env v >>= fun x => standAt iter.pos >>= fun _ => holding [x] (pyIter x) >>= fun it => runOwn (.forLoop tgt it body orelse env) env).wrap K H gd lv) fs s
  refine seg_at ?_
  rw [Sem.bind_eq_wrap', Sem.wrap_wrap]
  refine seg_wrap (wpAny_mono h (fun x s1 h1 => ?_) fun _ _ x => x.elim)
  rw [hs x]
  show Seg M A R Y n s₀ c (.at iter.pos fun _ => (holding [x] (pyIter x) >>= fun it => runOwn (.forLoop tgt it body orelse env) env).wrap K H gd lv) fs s1
  refine seg_at ?_
  rw [Sem.bind_eq_wrap', Sem.wrap_wrap]
  refine seg_wrap (wpAny_holding (wpAny_mono h1 (fun it s2 h2 => ?_) fun _ _ x => x.elim))
  exact seg_call fun p => h2 _ p fun f => rfl
theorem sg_while {test : Expr} {body orelse : List Stmt} {pos : Pos} (h : ∀ (k : Result → Sem Fin) p, (∀ f, k (.ok f) = K f) →
      Seg M A R Y n s₀ (.whileLoop test body orelse env) (M.den (.whileLoop test body orelse env)) (.ret k none (gd false) (lv []) c p [] :: fs) s) :
    Seg M A R Y n s₀ c ((exec (.While test body orelse pos) env).wrap K H gd lv) fs s :=
  seg_While fun p => h _ p fun f => rfl
end
section
variable {prog : Program} {w : World} {A : Around} {R : GenEnd} {Y : Protocol} {n : Nat} {s₀ : Shared} {fs : List Frame} {s : Shared} {env : Env}
/-- how a loop's turn goes on -/
noncomputable def turnK (c : Code) : Flow → Sem Fin
  | .next | .cont => .pure (.again c)
  | .brk => .pure (.done .next)
  | .ret v => .pure (.done (.ret v))
theorem sg_forLoop {tgt : Expr} {it : Value} {body orelse : List Stmt} 
    (h : wpAny (model prog w) (A.over (.forLoop tgt it body orelse env) fs) (pyNext it) (fun r s' => match r with
      | none => Seg (model prog w) A R Y n s₀ (.forLoop tgt it body orelse env) (.pure (.again (.block orelse env))) fs s'
      | some v => wpAny (model prog w) (A.over (.forLoop tgt it body orelse env) fs) (letOwnedTupleGo tgt it v) (fun _ s2 => wpAny (model prog w) (A.over (.forLoop tgt it body orelse env) fs) (assign tgt env v) (fun _ s'' => ∀ H : Value → Sem Fin,
          Seg (model prog w) A R Y n s₀ (.forLoop tgt it body orelse env) ((execs body env).wrap (turnK (.forLoop tgt it body orelse env)) H id id) fs s'') F0 s2) F0 s') F0 s) :
    Seg (model prog w) A R Y n s₀ (.forLoop tgt it body orelse env) ((model prog w).den (.forLoop tgt it body orelse env)) fs s := by
  show Seg _ A R Y n s₀ _ ((forTurn tgt it body orelse env).onRaise (fun x => do noteFrame x env; theTreesLotGoes x)) fs s
  unfold forTurn
  rw [Sem.onRaise_eq_wrap]
  refine seg_at ?_
  show Seg _ A R Y n s₀ _ (Sem.wrap _ _ _ _ ((pyNext it).onRaise _ >>= _)) fs s
  rw [Sem.bind_eq_wrap', Sem.wrap_wrap]
  refine seg_wrap (wpAny_onRaise (wpAny_mono h (fun r s' hr => ?_) fun _ _ x => x.elim))
  cases r with
  | none => exact hr
  | some v =>
    show Seg _ A R Y n s₀ _ (Sem.wrap _ _ _ _ (letOwnedTupleGo tgt it v >>= _)) fs s'
    rw [Sem.bind_eq_wrap', Sem.wrap_wrap]
    refine seg_wrap (wpAny_mono hr (fun _ s2 hr => ?_) fun _ _ x => x.elim)
    show Seg _ A R Y n s₀ _ (Sem.wrap _ _ _ _ (assign tgt env v >>= _)) fs s2
    rw [Sem.bind_eq_wrap', Sem.wrap_wrap]
    refine seg_wrap (wpAny_mono hr (fun _ s'' h2 => ?_) fun _ _ x => x.elim)
    show Seg _ A R Y n s₀ _ (Sem.wrap _ _ _ _ (execs body env >>= _)) fs s''
    rw [Sem.bind_eq_wrap', Sem.wrap_wrap]
    refine Eq.mp (congrArg (fun t => Seg (model prog w) A R Y n s₀ (.forLoop tgt it body orelse env) t fs s'') (Sem.wrap_congr (execs body env) _ _ (fun f => ?_) fun e => rfl)) (h2 _)
    cases f <;> rfl
theorem sg_forEnd {tgt : Expr} {it : Value} {body : List Stmt} {k : Result → Sem Fin} {c : Code} {p : Pos} {g : Bool} {l : List Value} (h : Seg (model prog w) A R Y n s₀ c (k (.ok .next)) fs s) :
    Seg (model prog w) A R Y n s₀ (.forLoop tgt it body [] env) (.pure (.again (.block [] env))) (.ret k none g l c p [] :: fs) s :=
  seg_again rfl (seg_leaf (.ok .next) h)
theorem sg_forRet {c₀ c : Code} {v : Value} {k : Result → Sem Fin} {p : Pos} {g : Bool} {l : List Value} (h : Seg (model prog w) A R Y n s₀ c (k (.ok (.ret v))) fs s) :
    Seg (model prog w) A R Y n s₀ c₀ (.pure (.done (.ret v))) (.ret k none g l c p [] :: fs) s := seg_leaf (.ok (.ret v)) h
theorem sg_whileLoop {test : Expr} {body orelse : List Stmt}
    (h : wpAny (model prog w) (A.over (.whileLoop test body orelse env) fs) (isTrue test env (eval test env)) (fun b s' => b = true ∧ ∀ H : Value → Sem Fin,
        Seg (model prog w) A R Y n s₀ (.whileLoop test body orelse env) ((execs body env).wrap (turnK (.whileLoop test body orelse env)) H id id) fs s') F0 s) :
    Seg (model prog w) A R Y n s₀ (.whileLoop test body orelse env) ((model prog w).den (.whileLoop test body orelse env)) fs s := by
  refine seg_whileLoop (wpAny_mono h (fun b s' ⟨hb, h2⟩ => ?_) fun _ _ x => x.elim)
  rw [if_pos hb]
  refine Eq.mp (congrArg (fun t => Seg (model prog w) A R Y n s₀ (.whileLoop test body orelse env) t fs s') (Sem.wrap_congr (execs body env) _ _ (fun f => ?_) fun e => rfl)) (h2 _)
  cases f <;> rfl
theorem sg_func {body : List Stmt} (h : ∀ H : Value → Sem Fin, Seg (model prog w) A R Y n s₀ (.func body env) ((execs body env).wrap (fun f => .pure (.done (.ret (match f with | .ret v => v | _ => .none)))) H id id) fs s) :
    Seg (model prog w) A R Y n s₀ (.func body env) ((model prog w).den (.func body env)) fs s := seg_func (h _)

/-- a function generator's next, bare states kept bare -/
theorem next_gen {E : Value → Shared → Prop} {a : Addr} {g n : Nat} {gs : GenState} {T : Nat → Shared → Shared → Prop} {Q : Option Value → Shared → Prop} (hh : A.handled = none)
    (hl : s.heap.NoLimit) (hroom : A.depth < recursionLimit) (hg : s.heap.IsGen a g) (hgs : s.gens[g]? = some gs)
    (hgo : gs.Goes (model prog w) A.in1 (fun n s₀ r s₁ => r = .ok (.ret .none) ∧ T n s₀ s₁) Y n (.send .none) (s.setGen g .running))
    (hY : ∀ v s₁ gs', gs'.bare = true → Y (n - 1) (s.setGen g .running) v s₁ (fun r' s'' => match n with
        | 0 => False
        | m + 1 => gs'.Goes (model prog w) A.in1 (fun n s₀ r s₁ => r = .ok (.ret .none) ∧ T n s₀ s₁) Y m r' s'') → Q (some v) (s₁.setGen g gs'))
    (hP : ∀ s₁, T n (s.setGen g .running) s₁ → ∀ h', s₁.heap.objs.size ≤ h'.objs.size → (∀ b o, s₁.heap.get? b = some o → h'.get? b = some o) → Q none { s₁.setGen g .finished with heap := h' }) :
    wpAny (model prog w) A (pyNext (.ref a)) Q E s := by
  have ends : ∀ (s₁ : Shared) (α : Type) (k : α → Sem Fin), T n (s.setGen g .running) s₁ → wpAny (model prog w) A.in1 (newExc (.type "StopIteration") [] >>= fun x => raiseNew x >>= k) (fun f s' => ∃ v, f = .done (.ret v) ∧ Q (some v) s') (fun e s' => s'.TypeIs e "StopIteration" ∧ Q none s') (s₁.setGen g .finished) := fun s₁ α k hp => by
    refine wpAny_bind ?_
    simp only [newExc, newTuple]
    refine wpAny_bind (wpAny_newObj_type ?_ (by size_fits))
    refine wpAny_bind (m := firstArgMember _ _) (wpAny_of_eq (a := Value.none) (by first | rfl | (simp only [firstArgMember]; rfl)) (wpAny_newObj_type ?_ (by size_fits)))
    simp only [raiseNew]
    refine wpAny_bind (wpAny_bind (wpAny_handled ?_))
    rw [show A.in1.handled = none from hh]
    refine wpAny_throw (And.intro ⟨_, Heap.get?_push_size _ rfl, rfl⟩ ?_)
    exact hP s₁ hp _ (by rw [Heap.size_push, Heap.size_push]; show s₁.heap.objs.size ≤ s₁.heap.objs.size + 1 + 1; (clear hroom; omega)) fun b o hb => Heap.get?_push_of_some _ (Heap.get?_push_of_some _ hb)
  have wake : wpAny (model prog w) A.in1 (Builtin.Generator.genWake (.ref a) (.send .none)) (fun f s' => ∃ v, f = .done (.ret v) ∧ Q (some v) s') (fun e s' => s'.TypeIs e "StopIteration" ∧ Q none s') s := by
    unfold Builtin.Generator.genWake
    refine wpAny_bind (wpAny_holding (wpAny_genNumber hg (wpAny_bind (wpAny_genState hgs ?_))))
    have go : gs.status ≠ .finished ∧ gs.status ≠ .running := by
      cases gs <;> first | exact hgo.elim | exact ⟨nofun, nofun⟩
    cases gs with
    | running => exact hgo.elim
    | finished => exact hgo.elim
    | _ =>
      refine wpAny_bind (wpAny_roomToWake hl hroom ?_)
      refine wpAny_resumeQ hgs hgo (fun x s₁ ⟨hx, hp⟩ => ?_) fun v s₁ gs' hb hv => wpAny_pure ⟨v, rfl, hY v s₁ gs' hb hv⟩
      subst hx
      show wpAny _ A.in1 (newExc (.type "StopIteration") [] >>= fun x => raiseNew x >>= _) _ _ _
      exact ends s₁ _ _ hp
  unfold pyNext
  refine wpAny_bind (wpAny_attempt (wpAny_callSpecial?_slot (name := Str.ofString "__next__") hg.typeIs slot_gen_next (wpAny_call_entry slot_gen_next hg.typeIs entry_gen_next ?_ (args_gen_next _))))
  refine wpAny_mono wake (fun f s' ⟨v, e, q⟩ => ?_) fun e s' ⟨ht, q⟩ => ?_
  · subst e; exact ⟨v, rfl, wpAny_pure q⟩
  · exact wpAny_bind (wpAny_isInstance ht isSubtype_stop (wpAny_pure q))
end
end Mine
end
section
open PySem PySem.W PySem.Calls PyProof.Rows
set_option Elab.async false
set_option maxRecDepth 100000
set_option linter.unusedVariables false
namespace Mine

section
variable {P : Prm} {X X' Y Z X₀ Z₀ W O : ASet} {env : Env} {sc scope : Scope} {ρ ρ' ρc : Rho} {s s' s₀ : Shared} {A : Around} {n m : Nat} {h h' : Heap} {o o' : Own1} {t : Tab} {f : Addr} {fd : FuncData}

/-- list iterators at W -/
noncomputable def IterAll (h : Heap) (W : ASet) : Prop := ∀ b, W b → ∃ o, h.get? b = some o ∧ o.cls = .type "list_iterator" ∧ ∃ vs, o.data = .fields vs
theorem IterAll.no {T : String} {a : Addr} {o : Obj} (w : IterAll h W) (hT : T ≠ "list_iterator") (hc : o.cls = .type T) (ho : h.get? a = some o) : ¬ W a := fun x => by
  obtain ⟨o', h1, h2, _⟩ := w a x
  rw [ho] at h1; cases h1; rw [hc] at h2; injection h2 with h2; exact hT h2
theorem IterAll.noD {a : Addr} {o : Obj} (w : IterAll h W) {es n} (hc : o.data = .dict es n) (ho : h.get? a = some o) : ¬ W a := fun x => by
  obtain ⟨o', h1, _, vs, h2⟩ := w a x
  rw [ho] at h1; cases h1; rw [hc] at h2; cases h2
theorem IterAll.noR {a C dx : Addr} (w : IterAll h W) (ho : h.get? a = some (instObj C dx)) : ¬ W a := fun x => by
  obtain ⟨o', h1, h2, _⟩ := w a x
  rw [ho] at h1; cases h1; cases h2
mutual
theorem Rd.widen (w : IterAll h W) : ∀ {d : D} {v : Value}, Rd X h d v → Rd (Un X W) h d v
  | .none, _, r => by simpa only [Rd] using r
  | .bool _, _, r => by simpa only [Rd] using r
  | .int _, _, r => by simpa only [Rd] using r
  | .str _, _, r => by simpa only [Rd] using r
  | .ptr _, _, r => by simpa only [Rd] using r
  | .tup l, v, r => by
    simp only [Rd] at r ⊢
    obtain ⟨a, vs, e, hx, ht, hl⟩ := r
    exact ⟨a, vs, e, fun y => y.elim hx (let ⟨o, ho, hc, _⟩ := ht; w.no (by decide) hc ho), ht, RdL.widen w hl⟩
  | .list l, v, r => by
    simp only [Rd] at r ⊢
    obtain ⟨a, vs, e, hx, ht, hl⟩ := r
    exact ⟨a, vs, e, fun y => y.elim hx (let ⟨o, ho, hc, _⟩ := ht; w.no (by decide) hc ho), ht, RdL.widen w hl⟩
  | .ws .., v, r => by
    simp only [Rd] at r ⊢
    obtain ⟨x, e, dx, m, h1, h2, h3, h4, h5, h6, h7, h8, p, q, vs, t, h9, h10, h11, h12, h13, h14⟩ := r
    exact ⟨x, e, dx, m, fun y => y.elim h1 (w.noR h3), fun y => y.elim h2 (let ⟨o, es, ep, ho, hd, _⟩ := h4; w.noD hd ho), h3, h4, h5, h6, h7, h8, p, q, vs, t, h9, fun y => y.elim h10 (let ⟨o, ho, hc, _⟩ := h12; w.no (by decide) hc ho), fun y => y.elim h11 (let ⟨o, ho, hc, _⟩ := h13; w.no (by decide) hc ho), h12, h13, h14⟩
theorem RdL.widen (w : IterAll h W) : ∀ {ds : List D} {vs : List Value}, RdL X h ds vs → RdL (Un X W) h ds vs
  | [], _, r => by simpa only [RdL] using r
  | d :: ds, vs, r => by
    simp only [RdL] at r ⊢
    obtain ⟨v, vr, e, h1, h2⟩ := r
    exact ⟨v, vr, e, Rd.widen w h1, RdL.widen w h2⟩
end
theorem At.widen (a : At P X h) (w : IterAll h W) (hg : ∀ b, W b → P.G.get? b = none) : At P (Un X W) h :=
  ⟨a.low, fun b x => x.elim (a.xlow b) (hg b), fun t ht => by
    obtain ⟨y0, y⟩ := a.tab t ht
    exact ⟨.inl y0, y.elim .inl fun ⟨c', hx, e, o', vs, q, e1, e2, r⟩ => .inr ⟨c', fun q => q.elim hx (w.no (by decide) e2 e1), e, o', vs, q, e1, e2, r⟩⟩,
    fun b x => x.elim (a.below b) fun y => let ⟨o, ho, _⟩ := w b y; Heap.lt_size ho⟩
theorem EnvAt.widen (e : EnvAt P X env sc ρ s) (w : IterAll s.heap W) (hg : ∀ b, W b → P.G.get? b = none) : EnvAt P (Un X W) env sc ρ s := by
  obtain ⟨m, hm, hl⟩ := e.lcl
  exact ⟨e.at'.widen w hg, e.hsc, e.hk, e.hg, e.hb, .inl e.xl, ⟨m, hm, fun x d p q => let ⟨v, h1, h2⟩ := hl x d p q; ⟨v, h1, h2.widen w⟩⟩,
    fun x d p q => let ⟨c, v, h1, h2, h3⟩ := e.cel x d p q; ⟨c, v, h1, h2, h3.widen w⟩, e.knd, fun n c hm => let ⟨a, b, v, q⟩ := e.xc n c hm; ⟨.inl a, b, v, q⟩⟩
/-- a frame looks at the heap alone -/
theorem EnvAt.heapEq (e : EnvAt P X env sc ρ s) (h : s'.heap = s.heap) : EnvAt P X env sc ρ s' := by
  obtain ⟨h1, h2, h3, h4, h5, h6, h7, h8, h9, h10⟩ := e
  rw [← h] at h1 h7 h8 h10
  exact ⟨h1, h2, h3, h4, h5, h6, h7, h8, h9, h10⟩
theorem EnvAt.stepH (e : EnvAt P X env sc ρ s) (st : HStep P Y s.heap s'.heap) (hy : ∀ b, Y b → X b) (hd : ∀ b, Y b → ¬ Seat env b) : EnvAt P X env sc ρ s' :=
  (e.stepY (s' := { s with heap := s'.heap }) (step_heap st) hy hd).heapEq rfl
theorem SS.widen (S : SS P X₀ Z₀ s₀ Z X env sc ρ o s) (w : IterAll s.heap W) (hg : ∀ b, W b → P.G.get? b = none) : SS P X₀ Z₀ s₀ Z (Un X W) env sc ρ o s :=
  ⟨⟨S.a.e.widen w hg, S.a.st, S.a.zl, S.a.zc, fun b z => .inl (S.a.zx b z), S.a.apart, S.a.own⟩, S.o, fun b x => .inl (S.rx b x), S.rz⟩
/-- what a generator did between -/
theorem SS.resume (S : SS P X₀ Z₀ s₀ Z X env sc ρ o s) (st : HStep P O s.heap s'.heap) (hO : ∀ b, O b → X b) (hZ : ∀ b, O b → ¬ Z b) (hF : ∀ b, O b → s₀.heap.objs.size ≤ b) (hse : ∀ b, O b → ¬ Seat env b)
    (hos : s'.os = s.os) (hg : ∀ (i : Nat) (x : GenState), s₀.gens[i]? = some x → s'.gens[i]? = some x) (hb : AllBare s₀.gens → AllBare s'.gens) : SS P X₀ Z₀ s₀ Z X env sc ρ o s' :=
  ⟨⟨S.a.e.stepH st hO hse, ⟨⟨fun q o' z hn e => st.keep q o' (fun y => Nat.lt_irrefl _ (Nat.lt_of_lt_of_le (Heap.lt_size e) (hF q y))) hn (S.a.st.heap.keep q o' z hn e),
      fun q o' e e1 => st.low q o' e (S.a.st.heap.low q o' e e1), fun X t ht hx k => st.tab X t ht (fun q y => Nat.lt_of_lt_of_le (hx q y) S.a.st.heap.size) (S.a.st.heap.tab X t ht hx k), Nat.le_trans S.a.st.heap.size st.size⟩,
      hos.trans S.a.st.os, hg, hb⟩, S.a.zl, S.a.zc, S.a.zx, S.a.apart, S.a.own⟩,
    fun x c ns e => let ⟨h1, h2, vs, h3, h4⟩ := S.o x c ns e; ⟨h1, h2, vs, isL_agree st.keep (fun y => hZ c y h2) h3, h4⟩, S.rx, S.rz⟩
theorem SS.root (S : SS P X₀ Z₀ s₀ Z X env sc ρ o s) : SS P X Z s Z X env sc ρ o s := ⟨S.a.root, S.o, fun _ x => x, fun _ z => .inl z⟩
theorem SS.back {s₂ : Shared} {ρ₂ : Rho} {o₂ : Own1} (S : SS P X₀ Z₀ s₀ Z X env sc ρ o s) (S2 : SS P X Z s Z X env sc ρ₂ o₂ s₂) : SS P X₀ Z₀ s₀ Z X env sc ρ₂ o₂ s₂ := ⟨S.a.back S2.a, S2.o, S.rx, S.rz⟩
theorem SS.grow (S : SS P X₀ Z₀ s₀ Z X env sc ρ o s) (st : Step P E0 s s') (hy : ∀ b, W b → s.heap.objs.size ≤ b) (a : At P (Un X W) s'.heap) : SS P X₀ Z₀ s₀ Z (Un X W) env sc ρ o s' :=
  have a1 := S.a.step st
  ⟨⟨S.a.e.grow st hy a, a1.st, a1.zl, a1.zc, fun b z => .inl (a1.zx b z), a1.apart, a1.own⟩, (S.step st).o, fun b x => .inl (S.rx b x), S.rz⟩
theorem setGen_get {g i : Nat} {x y : GenState} (hi : i ≠ g) (e : s.gens[i]? = some x) : (s.setGen g y).gens[i]? = some x := by
  show (s.gens.setIfInBounds g y)[i]? = some x
  rw [Array.getElem?_setIfInBounds_ne (Ne.symm hi)]; exact e
theorem setGen_bare {g : Nat} {x y : GenState} (hg : s.gens[g]? = some x) (hb : y.bare = true) (e : AllBare s.gens) : AllBare (s.setGen g y).gens :=
  e.moved (GenOnlyQ.of (GenOnly.setGen s g y) (setGen_self hg) hb)
end

section
variable {A : Around} {n : Nat} {env : Env}
theorem room_ov0 {b : List Stmt} (rm : Room A (n + 4)) : Room (A.in1.over (.func b env) []) n := by
  obtain ⟨h1, h2, h3⟩ := rm
  refine ⟨h1, ?_, ?_⟩
  · show A.depth + 0 + 1 + n < 990; (clear h3; omega)
  · show A.units + 1 + 0 + 3 + 20 * n < 9700; (clear h2; omega)
theorem room_ov1 {b : List Stmt} {tgt : Expr} {it : Value} {body orelse : List Stmt} {k g l p} (rm : Room A (n + 4)) : Room (A.in1.over (.forLoop tgt it body orelse env) [.ret k none g l (.func b env) p []]) n := by
  obtain ⟨h1, h2, h3⟩ := rm
  refine ⟨h1, ?_, ?_⟩
  · show A.depth + 1 + 0 + n < 990; (clear h3; omega)
  · show A.units + 1 + 3 + 0 + 20 * n < 9700; (clear h2; omega)
theorem room_ov2 {b : List Stmt} {tgt : Expr} {it : Value} {body orelse : List Stmt} {k g l p} {test : Expr} {body' orelse' : List Stmt} {k' g' l' p'} (rm : Room A (n + 4)) : Room (A.in1.over (.whileLoop test body' orelse' env) [.ret k' none g' l' (.forLoop tgt it body orelse env) p' [], .ret k none g l (.func b env) p []]) n := by
  obtain ⟨h1, h2, h3⟩ := rm
  refine ⟨h1, ?_, ?_⟩
  · show A.depth + 1 + 0 + n < 990; (clear h3; omega)
  · show A.units + 1 + 3 + 0 + 20 * n < 9700; (clear h2; omega)
end
end Mine
end
section
open PySem PySem.W PySem.Calls PyProof.Rows
set_option Elab.async false
set_option maxRecDepth 100000
set_option linter.unusedVariables false
namespace Mine

section
variable {P : Prm} {X X' Y Z X₀ Z₀ W O : ASet} {env : Env} {sc scope : Scope} {ρ ρ' ρc : Rho} {s s' s₀ : Shared} {A : Around} {n m : Nat} {h h' : Heap} {o o' : Own1} {t : Tab} {f : Addr} {fd : FuncData}

/-- a def of the top, called where objects that its arguments name may be changed -/
theorem code_top {a : Addr} {d : Stmt} {ds : List D} {vs : List Value} {xs : List Str} {R : Result → Shared → Prop} (p : PrmOK P) (F : FnObj P a d fd) (at' : At P X s.heap) (rm : Room A (n + 1)) (hr : RdL X s.heap ds vs) (O : DefOK d xs) (hlen : xs.length = ds.length)
    (hpp : bindArgs fd ⟨vs, []⟩ = pure (xs.zip vs)) (hloc : ∀ x ∈ xs, (defScope d).names.lookup x = some .local) (hc : ((defScope d).names.all fun x => x.2 != .cell) = true)
    (hb : ∀ env A s1, Step P E0 s s1 → Sta P (One env.locals) s1 (Un X (One env.locals)) env (defScope d) (xs.zip ds) s1 → s.heap.objs.size ≤ env.locals → Room A n →
      wpAny (model P.prog P.w) A (execs (defBody d) env) (fun fl s' => R (.ok (.ret (match fl with | .ret v => v | _ => .none))) s') F0 s1) :
    codeAny (model P.prog P.w) A (.call (.ref a) ⟨vs, []⟩) R s := by
  obtain ⟨oc, od, osl, hl⟩ := F.look
  have ho := at'.kin p _ _ hl
  obtain ⟨h1, h2, h3⟩ := O.fn
  have f3 := F.scope
  refine codeAny_call_def (fd := fd) (binds := xs.zip vs) (room_depth rm) ho rfl (at'.nolimit p) (codeRec_of (at'.kin p) F.code) F.body (.of_eq hpp) (fun x hx => ?_) (fun x hx => ?_) (fun h₀ hns keep => ?_) (by rw [f3]; exact h2) (by rw [f3]; exact h3) (by rw [f3]; exact h1)
  · rw [f3] at hx
    have := List.all_eq_true.mp hc x hx
    simpa using this
  · rw [f3]; exact hloc _ (mem_zip_fst hx)
  · have hL : (callEnv fd s.heap.objs.size a).locals = s.heap.objs.size := rfl
    have hC : (callEnv fd s.heap.objs.size a).cells = [] := F.clo
    have hS : (callEnv fd s.heap.objs.size a).scope = defScope d := f3
    have hG : (callEnv fd s.heap.objs.size a).globals = mainGlobals := F.globals
    have hB : (callEnv fd s.heap.objs.size a).builtins = builtinsNs := F.builtins
    generalize callEnv fd s.heap.objs.size a = env at *
    have st1 : Step P E0 s { s with heap := h₀, toks := s.toks + (xs.zip vs).length } := step_heap (.of_keeps keep (Nat.le_of_lt hns.lt))
    have hge : ∀ b, One env.locals b → s.heap.objs.size ≤ b := fun b y => by rw [y, hL]; exact Nat.le_refl _
    have aX : At P (Un X (One env.locals)) h₀ := at'.more2 (at'.step st1.heap) fun c hc => by
      obtain ⟨o, es, ep, ho, hd, _⟩ := hns
      cases hc
      rw [hL]
      exact ⟨Nat.le_refl _, o, ho, nc_dict hd⟩
    have rX : RdL (Un X (One env.locals)) h₀ ds vs := (hr.fresh hge).mono (st1.heap.keep.weak fun b y => y.elim) fun _ y => y
    have e1 : EnvAt P (Un X (One env.locals)) env (defScope d) (xs.zip ds) { s with heap := h₀, toks := s.toks + (xs.zip vs).length } := by
      refine ⟨aX, hS, h1, hG, hB, .inr rfl, ⟨_, (by rw [hL]; exact hns), fun x dx q hk => binds_rev O.nd rX q⟩, fun x dx q hk => ?_, fun x dx q => .inl (hloc x (mem_zip_fst (mem_lookup q))), fun n c hm => by rw [hC] at hm; cases hm⟩
      have := hloc x (mem_zip_fst (mem_lookup q))
      rcases hk with hk | hk <;> (rw [hk] at this; cases this)
    have S : Sta P (One env.locals) { s with heap := h₀, toks := s.toks + (xs.zip vs).length } (Un X (One env.locals)) env (defScope d) (xs.zip ds) { s with heap := h₀, toks := s.toks + (xs.zip vs).length } :=
      ⟨e1, .refl, rfl, fun x c hk _ => absurd (mem_lookup hk) fun hm => by
          have := List.all_eq_true.mp hc _ hm
          simp at this, fun b z => .inr z, by rw [hC]; exact .nil, fun x hk => absurd (mem_lookup hk) fun hm => by
          have := List.all_eq_true.mp hc _ hm
          simp at this⟩
    exact wpAny_mono (hb env (A.deeper env) _ st1 S (by rw [hL]; exact Nat.le_refl _) (room_deeper rm)) (fun fl s' h => h) fun _ _ y => y.elim

/-- what the class's own lookups give -/
structure ClsK (K : Frag) (C : Addr) : Prop where
  set : findIn K (.ref C) "__setattr__" = some (some (.builtin "object.__setattr__"))
  plain : plainOver K C = true
  dict : (clsIn K C).any (·.hasDict) = true
  ga : findIn K (.ref C) "__getattribute__" = some (some (.builtin "object.__getattribute__"))
  gb : findIn K (.ref C) "__getattr__" = some none

theorem lookIn_ns {a : Addr} {mA : Str → Option Value} {ob : Obj} (hn : h.Ns a mA) (ho : h.get? a = some ob) (name : Str) : lookIn name ob = some (mA name) := by
  obtain ⟨o', es, ep, e, d, k, f⟩ := hn
  rw [ho] at e; cases e
  unfold lookIn
  rw [d]
  have f' := f name
  unfold nsFind findBy at f'
  rw [← Array.find?_toList] at f'
  dsimp only
  cases q : es.toList.find? (fun e => e.key.isStr name) with
  | some e =>
    rw [q] at f'
    show some (some e.val) = _
    rw [← f']; rfl
  | none =>
    rw [q] at f'
    have : es.toList.any (·.refKey) = false := by
      rw [List.any_eq_false]
      intro e he
      obtain ⟨n, t, hk⟩ := k e (by simpa using he)
      simp [DictEntry.refKey, hk]
    rw [this]
    rw [← f']; rfl

theorem inst_at {x C dx : Addr} {mA : Str → Option Value} (hx : h.get? x = some (instObj C dx)) (hn : h.Ns dx mA) : ∃ od, PySem.W.InstAt h x (instObj C dx) C (some od) ∧ ∀ name, lookIn name od = some (mA name) := by
  obtain ⟨o', es, ep, e, r⟩ := id hn
  exact ⟨o', ⟨hx, rfl, rfl, e⟩, lookIn_ns hn e⟩

/-- an own attribute is read -/
theorem getattr_own {x C dx : Addr} {mA : Str → Option Value} {name : Str} {v : Value} {expr : Bool} {E : Value → Shared → Prop} {Q : Value → Shared → Prop} (p : PrmOK P) (at' : At P X s.heap) (CK : ClsK P.K C) (hx : s.heap.get? x = some (instObj C dx)) (hn : s.heap.Ns dx mA) (hv : mA name = some v)
    (hf : findIn P.K (.ref C) name = some none) (hh : handedIn v = true) (k : Q v { s with toks := s.toks + 1 }) : wpAny (model P.prog P.w) A (getAttr (.ref x) name expr) Q E s := by
  obtain ⟨od, I, hl⟩ := inst_at hx hn
  obtain ⟨cd, hc, hd⟩ := any_some CK.dict
  refine get_value (at'.kin p) I CK.ga ?_ hh k
  unfold findObj
  rw [hc, Option.bind_some, hf, Option.bind_some]
  show (PySem.W.ownOf cd (some od) name).bind _ = _
  unfold PySem.W.ownOf
  rw [hd, if_pos rfl]
  show (lookIn name od).bind _ = _
  rw [hl, hv]
  rfl
/-- an own attribute is set -/
theorem setattr_own {x C dx : Addr} {mA : Str → Option Value} {ns : List Str} {name : Str} {v : Value} {E : Value → Shared → Prop} {Q : Unit → Shared → Prop} (p : PrmOK P) (at' : At P X s.heap) (CK : ClsK P.K C) (hx : s.heap.get? x = some (instObj C dx)) (hn : s.heap.Ns1 dx mA)
    (hw : PySem.Within mA ns) (hsz : ns.length ≤ 100) (ht : takerIn P.K C name = some none) (k : ∀ h' tk, h'.Ns1 dx (fun y => if y = name then some v else mA y) → Heap.SameBut dx s.heap h' → Q () { s with heap := h', toks := tk }) :
    wpAny (model P.prog P.w) A (setAttr (.ref x) name v) Q E s := by
  obtain ⟨od, I, hl⟩ := inst_at hx hn.ns
  obtain ⟨cd, hc, hd⟩ := any_some CK.dict
  refine set_plain (at'.kin p) I CK.set (osa_open (s := { s with toks := s.toks + 1 }) (at'.kin p) I CK.plain ht fun b => ?_)
  refine wpAny_bind (wpAny_pure (wpAny_bind (wpAny_bind (wpAny_loadPart (o := instObj C dx) hx (wpAny_bind (looks_clsIn (at'.kin p) hc _ _ _ _ (fun _ _ e => e) ?_))))))
  rw [hd]
  refine wpAny_pure (a := some dx) ?_
  show wpAny _ _ (Builtin.ObjectAttr.storeInDict dx (.str name s.toks) name v) _ _ _
  unfold Builtin.ObjectAttr.storeInDict Builtin.ObjectAttr.newKeyGuard
  refine wpAny_bind (wpAny_pure (wpAny_bind (wpAny_nsSet1 (s := { s with toks := s.toks + 1 }) hn fun h' hn' hs => ?_)))
  obtain ⟨oD, esD, epD, hoD, hdD, hcD⟩ := hn'.count (PySem.Within.cons name v hw)
  refine wpAny_bind (wpAny_lookBehind hoD (by rw [hdD]; exact pastItsLine_dict (Nat.le_trans hcD (by rw [List.length_cons, sizeLine_eq]; (clear hcD; omega)))) ?_)
  exact wpAny_pure (k h' _ hn' hs)
end
end Mine
end
section
open PySem PySem.W PySem.Calls PyProof.Rows
set_option Elab.async false
set_option maxRecDepth 100000
set_option linter.unusedVariables false
namespace Mine

section
variable {P : Prm} {X X' Y Z Z' X₀ Z₀ W O : ASet} {env : Env} {sc scope : Scope} {ρ ρ' ρc : Rho} {s s' s₀ : Shared} {A : Around} {n m : Nat} {h h' : Heap} {o o' : Own1} {t : Tab} {f : Addr} {fd : FuncData}

theorem SS.backG {s₂ : Shared} {ρ₂ : Rho} {o₂ : Own1} (S : SS P X₀ Z₀ s₀ Z X env sc ρ o s) (S2 : SS P X Z s Z' X' env sc ρ₂ o₂ s₂) (hzz : ∀ b, Z b → Z' b) : SS P X₀ Z₀ s₀ Z' X' env sc ρ₂ o₂ s₂ :=
  ⟨⟨S2.a.e, (S.a.st.weak hzz).trans S2.a.st, S2.a.zl, S2.a.zc, S2.a.zx, S2.a.apart, S2.a.own⟩, S2.o, fun b x => S2.rx b (S.rx b x), fun b z => (S2.rz b z).elim (S.rz b) fun q => .inr (Nat.le_trans S.a.st.heap.size q)⟩

theorem sx_newopO {x : Str} {c : Addr} {ns₀ : List Int} {l r : Expr} {op : Operator} {bp px pos : Pos} {a b : D} {ns : List Int} {rest : List Stmt} {E : Value → Shared → Prop} {Q : Flow → Shared → Prop} (S : SS P X₀ Z₀ s₀ Z X env sc ρ (some (x, c, ns₀)) s) (rm : Room A n) (h1 : Ev P n sc (see ρ (some (x, c, ns₀))) l a) (h2 : Ev P n sc (see ρ (some (x, c, ns₀))) r b) (h3 : OpNew P n op a b ns) (hx : Stored sc x)
    (k : ∀ c' s', SS P X₀ Z₀ s₀ (Un Z (One c')) (Un X (One c')) env sc ((x, .ptr c') :: ρ) (some (x, c', ns)) s' → wpAny (model P.prog P.w) A (execs rest env) Q E s')
    (hsw : ∀ env, swapsWith (.BinOp l op r bp) (some (.Name x px)) pos.line env = pure false := by intro _; rfl) :
    wpAny (model P.prog P.w) A (execs (.Assign [.Name x px] (.BinOp l op r bp) pos :: rest) env) Q E s := by
  refine wpAny_execs_cons (wpAny_Assign_Name (wpAny_BinOp (ev_of h1 S.seen rm fun u s1 st1 e1 r1 => ev_of h2 e1 rm fun v s2 st2 e2 r2 => wpAny_mono (h3 _ A s2 u v e2.at' rm (r1.step st2) r2) (fun w s3 ⟨c', e, hc, st3, ho⟩ => ?_) fun _ _ x => x.elim)) (hsw env))
  subst e
  have st := (st1.trans st2).trans st3
  have hc0 : s.heap.objs.size ≤ c' := Nat.le_trans (st1.trans st2).heap.size hc
  have a1 := S.a.step st
  have e2' := S.a.e.step (st1.trans st2)
  obtain ⟨vs, ⟨kk, hg⟩, hi⟩ := id ho
  have aX : At P (Un X (One c')) s3.heap := e2'.at'.more (a1.e.at') hc hg (nc_cls rfl)
  have e3 := S.a.e.grow st (Y := One c') (fun b y => by rw [show b = c' from y]; exact hc0) aX
  have a2 : Sta P (Un Z (One c')) s₀ (Un X (One c')) env sc ρ s3 :=
    ⟨e3, a1.st.weak fun b z => .inl z, .inl a1.zl, fun x c h1 h2 => .inl (a1.zc x c h1 h2), fun b z => z.elim (fun z => .inl (a1.zx b z)) .inr, a1.apart, a1.own⟩
  have hc1 : s₀.heap.objs.size ≤ c' := Nat.le_trans S.a.st.heap.size hc0
  refine a2.store hx (d := .ptr c') (by simp only [Rd]) fun s4 st4 a4 => ?_
  exact k c' s4 ⟨a4, fun y c'' ns' e => by cases e; exact ⟨lookup_cons_eq, .inr rfl, ho.seat e3 st4⟩, fun b x => .inl (S.rx b x), fun b z => z.elim (S.rz b) fun q => .inr ((show b = c' from q) ▸ hc1)⟩

/-- a for over a text's signs, the frame's list made anew on the way -/
theorem sx_forS {σ : Type} {tgt iter : Expr} {body rest : List Stmt} {pos : Pos} {x cn : Str} {c : Addr} {E : Value → Shared → Prop} {Q : Flow → Shared → Prop} (ρf : Addr → σ → Rho) (nf : σ → List Int) (I : List D → σ → Prop) (t₀ : σ)
    (S : SS P X₀ Z₀ s₀ Z X env sc (ρf c t₀) (some (cn, c, nf t₀)) s) (rm : Room A n) (hit : wpAny (model P.prog P.w) A (eval iter env) (fun v s1 => (∃ tk, v = .str x tk) ∧ Step P E0 s s1) F0 s) (hx : x.cps.all (· < 128) = true) (ht : nameTgt tgt = true) (init : I (signs x.cps.toList) t₀)
    (turn : ∀ (c : Addr) (Z X : ASet) d ds' t s v, I (d :: ds') t → SS P X Z s Z X env sc (ρf c t) (some (cn, c, nf t)) s → Rd X s.heap d v →
      wpAny (model P.prog P.w) A (assign tgt env v) (fun _ s' => wpAny (model P.prog P.w) A (execs body env) (fun f s'' => (f = .next ∨ f = .cont) ∧ ∃ t' c' Z' X', I ds' t' ∧ (∀ b, Z b → Z' b) ∧ SS P X Z s Z' X' env sc (ρf c' t') (some (cn, c', nf t')) s'') F0 s') F0 s)
    (done : ∀ t c' Z' X' s', I [] t → (∀ b, Z b → Z' b) → SS P X₀ Z₀ s₀ Z' X' env sc (ρf c' t) (some (cn, c', nf t)) s' → wpAny (model P.prog P.w) A (execs rest env) Q E s')
    (hs : ∀ env x, foldedSetIterable iter env x = pure x := by intro _ _; rfl) :
    wpAny (model P.prog P.w) A (execs (.For tgt iter body [] pos :: rest) env) Q E s := by
  refine wpAny_execs_cons (wpAny_For (wpAny_mono hit (fun v s1 ⟨⟨tk, e⟩, st1⟩ => ?_) fun _ _ y => y.elim) (hs env))
  subst e
  have S1 := S.step st1
  refine wpAny_pyIter_ascii hx ?_
  have nz : ∀ b, Z b → b < s1.heap.objs.size := fun b z => S1.a.e.at'.below b (S1.a.zx b z)
  have nse : ∀ b, Seat env b → b < s1.heap.objs.size := fun b q => by
    rcases q with rfl | ⟨m, hm⟩
    · exact S1.a.e.at'.below _ S1.a.e.xl
    · exact S1.a.e.at'.below _ (S1.a.e.xc m b hm).1
  have hI0 : s₀.heap.objs.size ≤ s1.heap.objs.size := S1.a.st.heap.size
  have st2 : Step P E0 s1 { s1 with heap := s1.heap.push { cls := .type "str_ascii_iterator", data := .fields #[.str x tk, .int 0 0] } } := step_push
  have S2 := S1.grow (W := One s1.heap.objs.size) st2 (fun b y => Nat.le_of_eq (show b = _ from y).symm) (S1.a.e.at'.more (S1.a.e.at'.step st2.heap) (Nat.le_refl _) (Heap.get?_push_size _ rfl) (nc_cls rfl))
  generalize hI : s1.heap.objs.size = Ia at *
  have loop : ∀ (ds : List D) (t : σ) (c : Addr) (Z' X' : ASet) (s3 : Shared), I ds t → SS P X₀ Z₀ s₀ Z' X' env sc (ρf c t) (some (cn, c, nf t)) s3 → JStr Ia x tk ds s3 → X' Ia → ¬ Z' Ia → (∀ b, Z b → Z' b) →
      codeAny (model P.prog P.w) A (.forLoop tgt (.ref Ia) body [] env) (fun r s' => match r with | .ok .next => wpAny (model P.prog P.w) A (execs rest env) Q E s' | .ok f => Q f s' | .error e => cameBackBy (model P.prog P.w) A env E e s') s3 := by
    intro ds
    induction ds with
    | nil =>
      intro t c Z' X' s3 hIv S3 j3 hXI nZ hzz
      have It := iter_str (P := P) (X := X') (x := x) (t := tk) ht hXI
      refine codeAny_of_tree ?_
      show wpAny _ A ((forTurn tgt (.ref Ia) body [] env).onRaise (fun x => do noteFrame x env; theTreesLotGoes x)) _ _ s3
      refine wpAny_noted (wp_E0 ?_)
      unfold forTurn
      refine wpAny_bind (wpAny_standAt (wpAny_bind (wpAny_onRaise (wpAny_mono (It.stop A s3 rm.1 S3.a.e.at' j3) (fun r s4 ⟨q, st4⟩ => ?_) fun _ _ x => x.elim))))
      subst q
      refine wpAny_pure ⟨rfl, codeAny_block (wpAny_execs_nil ?_)⟩
      exact done t c Z' X' s4 hIv hzz (S3.resume st4.heap (fun b q => (show b = Ia from q) ▸ hXI) (fun b q z => nZ ((show b = Ia from q) ▸ z)) (fun b q => (show b = Ia from q) ▸ hI0) (fun b q y => Nat.lt_irrefl _ ((show b = Ia from q) ▸ nse b y)) st4.os (fun i x e => st4.gens i x (S3.a.st.gens i x e)) fun e => st4.bare (S3.a.st.bare e))
    | cons d ds ih =>
      intro t c Z' X' s3 hIv S3 j3 hXI nZ hzz
      have It := iter_str (P := P) (X := X') (x := x) (t := tk) ht hXI
      refine codeAny_of_tree ?_
      show wpAny _ A ((forTurn tgt (.ref Ia) body [] env).onRaise (fun x => do noteFrame x env; theTreesLotGoes x)) _ _ s3
      refine wpAny_noted (wp_E0 ?_)
      unfold forTurn
      refine wpAny_bind (wpAny_standAt (wpAny_bind (wpAny_onRaise (wpAny_mono (It.next A s3 d ds rm.1 S3.a.e.at' j3) (fun r s4 ⟨v, q, h4⟩ => ?_) fun _ _ x => x.elim))))
      subst q
      refine wpAny_bind (wpAny_mono h4 (fun _ s5 ⟨st5, r5, j5⟩ => ?_) fun _ _ x => x)
      have S5 := S3.resume st5.heap (fun b q => (show b = Ia from q) ▸ hXI) (fun b q z => nZ ((show b = Ia from q) ▸ z)) (fun b q => (show b = Ia from q) ▸ hI0) (fun b q y => Nat.lt_irrefl _ ((show b = Ia from q) ▸ nse b y)) st5.os (fun i x e => st5.gens i x (S3.a.st.gens i x e)) fun e => st5.bare (S3.a.st.bare e)
      refine wpAny_bind (wpAny_mono (turn c Z' X' d ds t s5 v hIv S5.root r5) (fun _ s6 h6 => wpAny_bind (wpAny_mono h6 (fun f s7 ⟨hf, t', c', Z'', X'', hI7, hzz7, S7⟩ => ?_) fun _ _ x => x)) fun _ _ x => x)
      have nZ7 : ¬ Z'' Ia := fun z => (S7.rz Ia z).elim nZ fun q => Nat.lt_irrefl _ (Nat.lt_of_lt_of_le (S5.a.e.at'.below _ hXI) q)
      have go := ih t' c' Z'' X'' s7 hI7 (S5.backG S7 hzz7) (It.frame Z' s5 s7 ds S5.a.e.at' j5 S7.whole (fun b z y => nZ ((show b = Ia from y) ▸ z)) S5.a.zx) (S7.rx _ hXI) nZ7 (fun b z => hzz7 b (hzz b z))
      rcases hf with rfl | rfl
      · exact wpAny_pure ⟨rfl, go⟩
      · exact wpAny_pure ⟨rfl, go⟩
  refine codeAny_mono (loop (signs x.cps.toList) t₀ c Z (Un X (One Ia)) _ init S2 ⟨0, ⟨_, hI ▸ Heap.get?_push_size _ rfl, rfl, rfl⟩, by simp⟩ (.inr rfl) (fun z => Nat.lt_irrefl _ (nz _ z)) fun _ z => z) fun r s' h => ?_
  rcases r with e | (v | _ | _ | _) <;> exact h
end
end Mine
end
section
open PySem PySem.W PySem.Calls PyProof.Rows
set_option Elab.async false
set_option maxRecDepth 100000
set_option linter.unusedVariables false
namespace Mine

section
variable {P : Prm} {X X' Y Z Z' X₀ Z₀ W O : ASet} {env : Env} {sc scope : Scope} {ρ ρ' ρc : Rho} {s s' s₀ sC : Shared} {A : Around} {n m : Nat} {h h' : Heap} {o o' : Own1} {t : Tab} {f : Addr} {fd : FuncData} {x dx C : Addr} {mA : Str → Option Value} {ns : List Str}

/-- a frame of a method, with the object that it fills -/
structure IS (P : Prm) (sC : Shared) (X0 : ASet) (x dx C : Addr) (mA : Str → Option Value) (ns : List Str) (Z X : ASet) (env : Env) (sc : Scope) (ρ : Rho) (o : Own1) (s : Shared) : Prop where
  S : SS P X Z s Z X env sc ρ o s
  T : Step P E0 sC s
  hx : s.heap.get? x = some (instObj C dx)
  hn : s.heap.Ns1 dx mA
  hw : PySem.Within mA ns
  zf : ∀ b, Z b → sC.heap.objs.size ≤ b
  df : sC.heap.objs.size ≤ dx
  xf : sC.heap.objs.size ≤ x
  xd : X dx
  zd : ¬ Z dx
  zx : ¬ Z x
  ne : dx ≠ x
  x0 : ∀ b, X0 b → X b
theorem IS.lt {X0 : ASet} (I : IS P sC X0 x dx C mA ns Z X env sc ρ o s) : dx < s.heap.objs.size ∧ x < s.heap.objs.size := ⟨I.S.a.e.at'.below _ I.xd, Heap.lt_size I.hx⟩
theorem IS.adv {X0 : ASet} (I : IS P sC X0 x dx C mA ns Z X env sc ρ o s) (S' : SS P X Z s Z' X' env sc ρ' o' s') : IS P sC X0 x dx C mA ns Z' X' env sc ρ' o' s' := by
  have w := S'.whole
  obtain ⟨l1, l2⟩ := I.lt
  obtain ⟨od, es, ep, hod, hdd, _⟩ := id I.hn
  exact ⟨S'.root, I.T.own w I.zf, w.heap.keep _ _ I.zx (nt_ref rfl) I.hx, I.hn.at (fun o e => w.heap.keep _ _ I.zd (by rw [hod] at e; cases e; exact nt_dict hdd) e), I.hw,
    fun b z => (S'.rz b z).elim (I.zf b) fun q => Nat.le_trans I.T.heap.size q, I.df, I.xf, S'.rx _ I.xd, fun z => (S'.rz _ z).elim I.zd fun q => Nat.lt_irrefl _ (Nat.lt_of_lt_of_le l1 q), fun z => (S'.rz _ z).elim I.zx fun q => Nat.lt_irrefl _ (Nat.lt_of_lt_of_le l2 q), I.ne, fun b q => S'.rx b (I.x0 b q)⟩
theorem IS.step {X0 : ASet} (I : IS P sC X0 x dx C mA ns Z X env sc ρ o s) (st : Step P E0 s s') : IS P sC X0 x dx C mA ns Z X env sc ρ o s' := I.adv (I.S.step st)

/-- self.name = e -/
theorem is_set {X0 : ASet} {name self : Str} {e : Expr} {np ap pos : Pos} {d : D} {rest : List Stmt} {E : Value → Shared → Prop} {Q : Flow → Shared → Prop} (p : PrmOK P) (CK : ClsK P.K C) (I : IS P sC X0 x dx C mA ns Z X env sc ρ o s) (rm : Room A n)
    (he : Ev P n sc (see ρ o) e d) (hself : ρ.lookup self = some (.ptr x)) (ht : takerIn P.K C name = some none) (hl : ns.length ≤ 100)
    (k : ∀ v s', Rd (cut X o) s'.heap d v → Step P (One dx) s s' → IS P sC X0 x dx C (fun y => if y = name then some v else mA y) (name :: ns) Z X env sc ρ o s' → wpAny (model P.prog P.w) A (execs rest env) Q E s')
    (hd : (self == ("__debug__" : Str)) = false := by decide) (hcl : (self == ("__classdict__" : Str)) = false := by decide)
    (hs : ∀ env, swapsWith e (some (.Attribute (.Name self np) name ap)) pos.line env = pure false := by intro _; rfl) :
    wpAny (model P.prog P.w) A (execs (.Assign [.Attribute (.Name self np) name ap] e pos :: rest) env) Q E s := by
  refine wpAny_execs_cons (plainObj_wpAny_Assign_Attribute (ev_of he I.S.seen rm fun v s1 st1 e1 r1 => ?_) (hs env))
  have I1 := I.step st1
  refine wpAny_Name (load_env I1.S.a.e hself (fun u hu => ?_) hcl) hd
  simp only [Rd] at hu; subst hu
  refine setattr_own p I1.S.a.e.at' CK I1.hx I1.hn I1.hw hl ht fun h' tk hn' hs' => ?_
  have hne : ∀ c ns', (∃ x0, o = some (x0, c, ns')) → c ≠ dx := fun c ns' ⟨x0, e⟩ q => by
    obtain ⟨_, z, _⟩ := I1.S.o x0 c ns' e
    exact I1.zd (q ▸ z)
  have dcut : cut X o dx := by
    cases o with
    | none => exact I1.xd
    | some y => exact ⟨I1.xd, fun q => hne y.2.1 y.2.2 ⟨y.1, rfl⟩ q.symm⟩
  obtain ⟨od, es, ep, hod, hdd, _⟩ := id I1.hn
  have st2 : HStep P (One dx) s1.heap h' := HStep.update I1.S.a.e.at' I1.xd (notTab_of I1.S.a.e.at' hod (nt_dict hdd)) hs'
  have seat : ∀ b, One dx b → ¬ Seat env b := fun b q y => by
    have q' : b = dx := q
    subst q'
    rcases y with y | ⟨m, hm⟩
    · exact I1.zd (y ▸ I1.S.a.zl)
    · obtain ⟨_, _, v, o', ho', hd'⟩ := I1.S.a.e.xc m _ hm
      rw [hod] at ho'; cases ho'; rw [hdd] at hd'; cases hd'
  have S2 : SS P X Z { s1 with heap := h', toks := tk } Z X env sc ρ o { s1 with heap := h', toks := tk } :=
    ⟨⟨I1.S.a.e.stepH st2 (fun b q => (show b = dx from q) ▸ I1.xd) seat, .refl, I1.S.a.zl, I1.S.a.zc, I1.S.a.zx, I1.S.a.apart, I1.S.a.own⟩, fun y c ns' e => let ⟨h1, h2, vs, h3, h4⟩ := I1.S.o y c ns' e; ⟨h1, h2, vs, isL_agree st2.keep (fun q => hne c ns' ⟨y, e⟩ q) h3, h4⟩, fun _ x => x, fun _ z => .inl z⟩
  refine k v _ (r1.mono (st2.keep.weak fun b q => (show b = dx from q) ▸ dcut) fun _ y => y) (st1.any.trans (step_heap st2)) ⟨S2, I1.T.own (step_heap st2) fun q y => (show q = dx from y) ▸ I1.df, hs'.extBut _ _ (Ne.symm I1.ne) I1.hx, hn', PySem.Within.cons name v I1.hw, I1.zf, I1.df, I1.xf, I1.xd, I1.zd, I1.zx, I1.ne, I1.x0⟩
end
end Mine
end
section
open PySem PySem.W PySem.Calls PyProof.Rows
set_option Elab.async false
set_option maxRecDepth 100000
set_option linter.unusedVariables false
namespace Mine

section
variable {P : Prm} {X X' Y Z Z' X₀ Z₀ W O : ASet} {env : Env} {sc scope : Scope} {ρ ρ' ρc : Rho} {s s' s₀ sC : Shared} {A : Around} {n m : Nat} {h h' : Heap} {o o' : Own1} {t : Tab} {f : Addr} {fd : FuncData} {x dx C : Addr} {mA : Str → Option Value} {ns : List Str}
theorem cmp_eqs {a b : Str} : Cmp2 P n .Eq (.str a) (.str b) (a.cps.toList == b.cps.toList) := fun X A s u v at' rm ra rb => by
  obtain ⟨t, rfl⟩ := str_rd ra; obtain ⟨t', rfl⟩ := str_rd rb
  exact PySem.P.eq_str ⟨.refl, rfl⟩
theorem tcall_weight (rest : List Value) : (Code.builtin "type.__call__" ⟨.ref C :: rest, []⟩).weight = 1 := by kernel_rfl
theorem tcall_units (rest : List Value) : (Code.builtin "type.__call__" ⟨.ref C :: rest, []⟩).cUnits = 1 := by kernel_rfl
theorem room_under {rest : List Value} (rm : Room A (n + 1)) : Room (A.under (.builtin "type.__call__" ⟨.ref C :: rest, []⟩)) n := by
  obtain ⟨h1, h2, h3⟩ := rm
  refine ⟨h1, ?_, ?_⟩
  · show A.depth + (Code.builtin "type.__call__" ⟨.ref C :: rest, []⟩).weight + n < 990
    rw [tcall_weight]; (clear h3; omega)
  · show A.units + (Code.builtin "type.__call__" ⟨.ref C :: rest, []⟩).cUnits + 20 * n < 9700
    rw [tcall_units]; (clear h2; omega)
/-- x = y = z = e -/
theorem sx_three {a b c : Str} {pa pb pc pos : Pos} {e : Expr} {d : D} {rest : List Stmt} {E : Value → Shared → Prop} {Q : Flow → Shared → Prop} (S : SS P X₀ Z₀ s₀ Z X env sc ρ o s) (rm : Room A n) (he : Ev P n sc (see ρ o) e d) (hf : d.flat = true)
    (ha : Stored sc a) (hb : Stored sc b) (hc : Stored sc c) (na : ownName o ≠ some a) (nb : ownName o ≠ some b) (nc : ownName o ≠ some c)
    (k : ∀ s', SS P X₀ Z₀ s₀ Z X env sc ((c, d) :: (b, d) :: (a, d) :: ρ) o s' → wpAny (model P.prog P.w) A (execs rest env) Q E s')
    (hw : swappedStores [.Name a pa, .Name b pb, .Name c pc] e env = pure none := by rfl) :
    wpAny (model P.prog P.w) A (execs (.Assign [.Name a pa, .Name b pb, .Name c pc] e pos :: rest) env) Q E s := by
  refine wpAny_execs_cons (wpAny_Assign_three (ev_of he S.seen rm fun v s1 st1 e1 r1 => ?_) rfl hw)
  have S1 := S.step st1
  refine wpAny_assign_Name (S1.store ha (r1.flat hf) na fun s2 S2 st2 => wpAny_assign_Name (S2.store hb (r1.flat hf) nb fun s3 S3 st3 => wpAny_assign_Name (S3.store hc (r1.flat hf) nc fun s4 S4 st4 => k s4 S4)))
end
end Mine
end
section
open PySem PySem.W PySem.Calls PyProof.Rows
set_option Elab.async false
set_option maxRecDepth 100000
set_option linter.unusedVariables false
namespace Mine
section
variable {α : Type}
theorem runs_take : ∀ (k a : Nat) (l : List α), ((List.range k).map (a + ·)).filterMap (l[·]?) = (l.drop a).take k
  | 0, a, l => by simp
  | k + 1, a, l => by
    rw [List.range_succ_eq_map, List.map_cons, List.map_map, List.filterMap_cons]
    have e : (List.map ((fun x => a + x) ∘ Nat.succ) (List.range k)) = (List.range k).map ((a + 1) + ·) := by
      apply List.map_congr_left; intro x _; simp only [Function.comp]; omega
    rw [e, runs_take k (a + 1) l]
    simp only [Nat.add_zero]
    cases q : l[a]? with
    | none =>
      have : l.length ≤ a := by simpa using q
      rw [List.drop_of_length_le this, List.drop_of_length_le (by omega)]; simp
    | some x =>
      obtain ⟨h, rfl⟩ := List.getElem?_eq_some_iff.mp q
      rw [List.drop_eq_getElem_cons h]; rfl
theorem pick_plain (l : List α) (lo hi : Option Int) : pick l lo hi none = (l.drop (lo.elim 0 (clipAt l.length))).take (hi.elim l.length (clipAt l.length) - lo.elim 0 (clipAt l.length)) := by
  unfold pick
  rw [sliceBounds_plain]
  simp only [sliceRange_one, runs_take]
theorem pick_upto (l : List α) (k : Nat) : pick l none (some (k : Int)) none = l.take k := by
  rw [pick_plain]
  simp only [Option.elim, clipAt_nat, List.drop_zero, Nat.sub_zero]
  rw [List.take_eq_take_iff]; omega
theorem pick_from (l : List α) (k : Nat) : pick l (some (k : Int)) none none = l.drop k := by
  rw [pick_plain]
  simp only [Option.elim, clipAt_nat]
  rcases Nat.le_total k l.length with h | h
  · rw [Nat.min_eq_left h, List.take_of_length_le (by simp)]
  · rw [Nat.min_eq_right h]; simp [h]
theorem pick_but (l : List α) (k : Nat) (hk : 1 ≤ k) : pick l none (some (-(k : Int))) none = l.take (l.length - k) := by
  rw [pick_plain]
  simp only [Option.elim, clipAt_neg _ _ hk, List.drop_zero, Nat.sub_zero]
theorem pick_last (l : List α) (k : Nat) (hk : 1 ≤ k) : pick l (some (-(k : Int))) none none = l.drop (l.length - k) := by
  rw [pick_plain]
  simp only [Option.elim, clipAt_neg _ _ hk]
  rw [List.take_of_length_le (by simp)]
theorem pick_rev (l : List α) : pick l none none (some (-1)) = l.reverse := by
  unfold pick
  rw [krv_bounds]
  show (sliceRange ((l.length : Int) - 1) (-1) (-1)).filterMap (l[·]?) = _
  have h := runs_take l.length 0 l
  rw [show ((0 + ·) : Nat → Nat) = id from funext fun k => Nat.zero_add k, List.map_id, List.drop_zero, List.take_length] at h
  rw [krv_sliceRange, krv_range, List.filterMap_reverse, h]
end
section
variable {P : Prm} {n : Nat} {sc : Scope} {ρ : Rho}
theorem ev_itemN {value slice : PySem.Expr} {pos : Pos} {ds : List D} (k : Nat) {d : D} (hv : Ev P n sc ρ value (.list ds)) (hs : Ev P n sc ρ slice (.int (k : Nat))) (hl : ds.length ≤ 1000000) (hd : ds[k]? = some d)
    (hsub : ∀ o i, subscripted slice false o i = operate [o, i] (getItem o i) := by intro _ _; rfl) :
    Ev P n sc ρ (.Subscript value slice pos) d := by
  have hk : k < ds.length := (List.getElem?_eq_some_iff.mp hd).1
  refine ev_item hv hs (by (clear hl; omega)) (by (clear hk; omega)) ?_ hsub
  have : pidx (k : Int) ds.length = k := by unfold pidx; split <;> (clear hl hk; omega)
  rw [this]; exact hd
theorem ev_itemL {value slice : PySem.Expr} {pos : Pos} {ds : List D} (k : Nat) {d : D} (hv : Ev P n sc ρ value (.list ds)) (hs : Ev P n sc ρ slice (.int (-((k : Nat) : Int)))) (hk1 : 1 ≤ k) (hk : k ≤ ds.length) (hl : ds.length ≤ 1000000) (hd : ds[ds.length - k]? = some d)
    (hsub : ∀ o i, subscripted slice false o i = operate [o, i] (getItem o i) := by intro _ _; rfl) :
    Ev P n sc ρ (.Subscript value slice pos) d := by
  refine ev_item hv hs (by (clear hk1 hl; omega)) (by (clear hk1 hk; omega)) ?_ hsub
  have : pidx (-((k : Nat) : Int)) ds.length = ds.length - k := by unfold pidx; split <;> omega
  rw [this]; exact hd
theorem noPylongB {a b : Int} (hb : b.natAbs < 2 ^ 64) : Builtin.divisionGoesByPylong a b = false := by
  unfold Builtin.divisionGoesByPylong
  have h : (if (b == 0) = true then 0 else b.natAbs.log2 / 30 + 1) ≤ 3 := by
    split
    · (clear hb; omega)
    · rename_i q
      have h0 : b.natAbs ≠ 0 := fun e => q (by have := Int.natAbs_eq_zero.mp e; subst this; rfl)
      have := (Nat.log2_lt h0).mpr hb
      (clear hb q h0; omega)
  simp only [Bool.and_eq_false_iff, decide_eq_false_iff_not]
  left
  (clear hb; omega)
end
end Mine
end
section
open PySem PySem.W PySem.Calls PyProof.Rows
set_option Elab.async false
set_option maxRecDepth 100000
set_option linter.unusedVariables false
namespace Mine
section
variable {P : Prm} {X X' Y Z Z' X₀ Z₀ W O : ASet} {env : Env} {sc scope : Scope} {ρ ρ' ρc : Rho} {s s' s₀ sC : Shared} {A : Around} {n m : Nat} {h h' : Heap} {o o' : Own1} {t : Tab} {f : Addr} {fd : FuncData}
/-- x, y = ([], e) -/
theorem sx_newpair {x y : Str} {px py tp vp lp pos : Pos} {k0 k1 : Nat} {e' : PySem.Expr} {d2 : D} {rest : List Stmt} {E : Value → Shared → Prop} {Q : Flow → Shared → Prop} (S : SS P X₀ Z₀ s₀ Z X env sc ρ none s) (rm : Room A n) (he' : Ev P n sc ρ e' d2) (hf : d2.flat = true)
    (hx : Stored sc x) (hy : Stored sc y) (hxy : x ≠ y)
    (k : ∀ c s', s₀.heap.objs.size ≤ c → SS P X₀ Z₀ s₀ (Un Z (One c)) (Un X (One c)) env sc ((x, .ptr c) :: (y, d2) :: ρ) (some (x, c, [])) s' → wpAny (model P.prog P.w) A (execs rest env) Q E s')
    (hsw : ∀ env : Env, env.scope = sc → swappedStores [.Tuple [.Name x px, .Name y py] k0 tp] (.Tuple [.List [] lp, e'] k1 vp) env = pure (some [x, y]))
    (hnc : ∀ env, swapsWithSole [.Tuple [.Name x px, .Name y py] k0 tp] (.Tuple [.List [] lp, e'] k1 vp) pos.line env = pure false := by intro _; rfl)
    (hs' : isStarred e' = false := by rfl) :
    wpAny (model P.prog P.w) A (execs (.Assign [.Tuple [.Name x px, .Name y py] k0 tp] (.Tuple [.List [] lp, e'] k1 vp) pos :: rest) env) Q E s := by
  refine wpAny_execs_cons ?_
  rw [exec_Assign_arm]
  refine wpAny_bind (wpAny_standAt (wpAny_bind (wpAny_of_eq (hnc env) ?_)))
  rw [if_neg (by decide)]
  refine wpAny_bind (wpAny_Tuple_spliced ?_)
  rw [starEach_plain (e := .List [] lp) rfl, starEach_plain hs']
  show wpAny _ A (spliced ((false, eval (.List [] lp) env) :: (false, eval e' env) :: backTo vp (starEach [] env))) _ E s
  have stp : Step P E0 s { s with heap := s.heap.push { cls := .type "list", data := .seq #[] } } := step_push
  have aX : At P (Un X (One s.heap.objs.size)) (s.heap.push { cls := .type "list", data := .seq #[] }) := S.a.e.at'.more (S.a.e.at'.step stp.heap) (Nat.le_refl _) (Heap.get?_push_size _ rfl) (nc_cls rfl)
  have S1 := S.grow (W := One s.heap.objs.size) stp (fun b y => Nat.le_of_eq (Eq.symm y)) aX
  have hO : OwnZ { s with heap := s.heap.push { cls := .type "list", data := .seq #[] } } s.heap.objs.size [] := ⟨#[], ⟨0, Heap.get?_push_size _ rfl⟩, .nil⟩
  refine spliced_cons (wpAny_List_spliced (spliced_nil ⟨by rw [sizeLine_eq]; simp, ?_⟩))
  refine spliced_cons (ev_of he' S1.a.e rm fun v2 s2 st2 e2 r2 => spliced_nil ⟨by rw [sizeLine_eq]; simp, ?_⟩)
  have st3 : Step P E0 s2 { s2 with heap := s2.heap.push { cls := .type "tuple", data := .seq [.ref s.heap.objs.size, v2].toArray } } := step_push
  have S3 := (S1.step st2).step st3
  have O3 := (hO.step0 st2).step0 st3
  refine wpAny_bind (wpAny_of_eq (hsw env S.a.e.hsc) ?_)
  show wpAny _ A (do
    rule "assign.swapped-stores"
    let items ← unpackItems (.ref s2.heap.objs.size) 2 none
    assignInOrder [bindName env y, bindName env x] items.reverse
    pure Flow.next) _ E _
  refine wpAny_bind (wpAny_rule (wpAny_bind (wp_unpack2 S3.a.e.at' rm.1 ⟨_, Heap.get?_push_size _ rfl, rfl, _, rfl⟩ rfl fun s4 st4 => ?_)))
  have S4 := S3.step st4
  have O4 := O3.step0 st4
  have Z4 : Sta P (Un Z (One s.heap.objs.size)) s₀ (Un X (One s.heap.objs.size)) env sc ρ s4 :=
    ⟨S4.a.e, S4.a.st.weak fun b z => .inl z, .inl S4.a.zl, fun x c h1 h2 => .inl (S4.a.zc x c h1 h2), fun b z => z.elim (fun z => S4.a.zx b z) .inr, S4.a.apart, S4.a.own⟩
  show wpAny _ A (do (do holding [.ref s.heap.objs.size] (bindName env y v2); (do holding [] (bindName env x (.ref s.heap.objs.size)); pure ())); pure Flow.next) _ E s4
  refine wpAny_bind (wpAny_bind (wpAny_holding (wpAny_bindName (Z4.store hy (r2.flat hf) fun s5 st5 a5 => wpAny_bind (wpAny_holding (wpAny_bindName (a5.store hx (d := .ptr s.heap.objs.size) (by simp only [Rd]) fun s6 st6 a6 => wpAny_pure (wpAny_pure ?_))))))))
  have hc : s₀.heap.objs.size ≤ s.heap.objs.size := S.a.st.heap.size
  exact k _ s6 hc ⟨a6, fun y' c' ns' q => by cases q; exact ⟨lookup_cons_eq, .inr rfl, (O4.seat Z4.e st5).seat a5.e st6⟩, fun b x => .inl (S.rx b x), fun b z => z.elim (S.rz b) fun q => .inr ((show b = s.heap.objs.size from q) ▸ hc)⟩
noncomputable def srep (x : Str) (k : Nat) : Str := ⟨(List.replicate k x.cps.toList).flatten.toArray⟩
theorem srep_len (x : Str) (k : Nat) : (srep x k).length = k * x.length := by
  show (List.replicate k x.cps.toList).flatten.toArray.size = _
  simp [Str.length]
theorem srep_list (x : Str) (k : Nat) : (srep x k).cps.toList = (List.replicate k x.cps.toList).flatten := by simp [srep]
theorem foldl_cat : ∀ (l : List (Array Nat)) (acc : Array Nat), (l.foldl (· ++ ·) acc).toList = acc.toList ++ (l.map Array.toList).flatten
  | [], acc => by simp
  | a :: l, acc => by rw [List.foldl_cons, foldl_cat l]; simp
theorem op_muls {x : Str} {k : Nat} (hl : x.length * k ≤ 1000000) (hk6 : k ≤ 1000000) : Op2 P n .Mult (.str x) (.int k) (.str (srep x k)) := fun X A s u v at' rm ra rb => by
  obtain ⟨t, rfl⟩ := str_rd ra; obtain ⟨t', rfl⟩ := int_rd rb
  have hk : ¬ (k : Int) < 1 → 1 ≤ k := fun h => by (clear hl; omega)
  have hbig := hk6
  · refine PySem.P.mul_str (by rw [decide_eq_false (by (clear hl hbig; omega)), decide_eq_false (by (clear hl hbig; omega))]; rfl) (fun h1 _ h => ?_) (fun h1 _ => ?_) ?_
    · have h2 := Int.le_ediv_of_mul_le (a := (x.length : Int)) (b := 2 ^ 63 - 1) (c := (k : Int)) (by (clear hl hbig h; omega)) (by
        have h3 : (x.length : Int) * k ≤ 1000000 := by rw [← Int.natCast_mul]; exact Int.ofNat_le.mpr hl
        exact Int.le_trans h3 (by decide))
      (clear hl hk6 hbig h1; omega)
    · rw [Int.toNat_natCast]
      unfold Builtin.Str.tooLong
      simp only [sizeLine_eq]
      exact decide_eq_false (by (clear hk6 hbig h1; omega))
    · split
      · rename_i h
        have : k = 0 := by (clear hl hbig; omega)
        subst this
        exact ⟨by decide, step_toks, rd_str⟩
      · split
        · rename_i h1 h2
          have e : x = srep x k := by
            obtain ⟨c⟩ := x
            rcases Bool.or_eq_true_iff.mp h2 with q | q
            · have : k = 1 := by have := beq_iff_eq.mp q; (clear hk6 hbig h1 hl; omega)
              subst this; simp [srep]
            · have q' : c.size = 0 := by simpa [Str.length] using beq_iff_eq.mp q
              have : c = #[] := Array.eq_empty_of_size_eq_zero q'
              subst this
              simp [srep]
          exact ⟨.refl, by rw [← e]; exact rd_str⟩
        · have e : (⟨(List.replicate (k : Int).toNat x.cps).foldl (· ++ ·) #[]⟩ : Str) = srep x k := by
            unfold srep
            congr 1
            apply Array.ext'
            rw [foldl_cat]; simp
          rw [e]
          refine ⟨?_, step_toks, rd_str⟩
          rw [srep_len, sizeLine_eq, Nat.mul_comm]; (clear hk6 hbig; omega)
end
end Mine
end
section
open PySem PySem.W PySem.Calls PyProof.Rows
set_option Elab.async false
set_option maxRecDepth 100000
set_option linter.unusedVariables false
namespace Mine
section
variable {P : Prm} {X X' Y Z Z' X₀ Z₀ W O : ASet} {env : Env} {sc scope : Scope} {ρ ρ' ρc : Rho} {s s' s₀ sC : Shared} {A : Around} {n m : Nat} {h h' : Heap} {o o' : Own1} {t : Tab} {f : Addr} {fd : FuncData}
theorem rdL_bools : ∀ {bs : List Bool} {vs : List Value}, RdL X h (bs.map .bool) vs → vs = bs.map .bool
  | [], vs, r => by simp only [List.map_nil, RdL] at r; exact r
  | b :: bs, vs, r => by
    simp only [List.map_cons, RdL, Rd] at r
    obtain ⟨v, vr, rfl, rfl, r2⟩ := r
    rw [rdL_bools r2]; rfl
noncomputable abbrev isB (b : Bool) (v : Value) : Bool := match v with | .bool x => x == b | _ => false
theorem any_isB (b : Bool) (bs : List Bool) : (bs.map Value.bool).any (isB b) = bs.any (· == b) := by
  induction bs with
  | nil => rfl
  | cons a r ih => rw [List.map_cons, List.any_cons, ih, List.any_cons]
theorem cmp_inb {b : Bool} {bs : List Bool} : Cmp2 P n .In (.bool b) (.list (bs.map .bool)) (bs.any (· == b)) := fun X A s u v at' rm ra rb => by
  have e1 := bool_rd ra; subst e1
  obtain ⟨l, vs, rfl, _, hl, hr⟩ := list_rd rb
  have e2 := rdL_bools hr
  refine PySem.SeqAt.in_listAt (isB b) hl (fun y hy => ?_) ⟨.refl, ?_⟩
  · have : y ∈ bs.map Value.bool := e2 ▸ Array.mem_toList_iff.mpr hy
    obtain ⟨x, _, rfl⟩ := List.mem_map.mp this
    exact PySem.SeqAt.EqAt.bool_bool x b
  · rw [← Array.any_toList, e2, any_isB]
theorem cmp_notinb {b : Bool} {bs : List Bool} : Cmp2 P n .NotIn (.bool b) (.list (bs.map .bool)) (!bs.any (· == b)) := fun X A s u v at' rm ra rb => by
  have e1 := bool_rd ra; subst e1
  obtain ⟨l, vs, rfl, _, hl, hr⟩ := list_rd rb
  have e2 := rdL_bools hr
  refine PySem.SeqAt.notIn_listAt (isB b) hl (fun y hy => ?_) ⟨.refl, ?_⟩
  · have : y ∈ bs.map Value.bool := e2 ▸ Array.mem_toList_iff.mpr hy
    obtain ⟨x, _, rfl⟩ := List.mem_map.mp this
    exact PySem.SeqAt.EqAt.bool_bool x b
  · rw [← Array.any_toList, e2, any_isB]
theorem filt_false {α β : Type} (l : List α) (f : α → β) : (l.filter (fun _ => false)).map f = [] := by
  induction l with
  | nil => rfl
  | cons x r ih => exact ih
theorem filt_true {α β : Type} (l : List α) (f : α → β) : (l.filter (fun _ => true)).map f = l.map f := by
  induction l with
  | nil => rfl
  | cons x r ih => show f x :: _ = f x :: _; rw [ih]
/-- x = [..], in the bundle -/
theorem sx_comp {x : Str} {px spos : Pos} {elt tgt iter : PySem.Expr} {ifs : List PySem.Expr} {pos : Pos} {ds : List D} {p : D → Bool} {f : D → D} {β : D → Rho} {rest : List Stmt} {E : Value → Shared → Prop} {Q : Flow → Shared → Prop} (S : SS P X₀ Z₀ s₀ Z X env sc ρ none s) (rm : Room A n)
    (hit : EvIt P n sc ρ tgt iter ds) (cp : Caps scope sc ρ ρc) (hb : ∀ d ∈ ds, BindT P (compSc scope sc) tgt d (β d)) (ht : ∀ d ∈ ds, TrL P n (compSc scope sc) (β d ++ ρc) .And ifs (p d))
    (he : ∀ d ∈ ds, p d = true → Ev P n (compSc scope sc) (β d ++ ρc) elt (f d)) (hρ : ∀ d ∈ ds, ∀ q ∈ ρc, (β d ++ ρc).lookup q.1 = some q.2) (hsz : ds.length ≤ 1000000)
    (hx : sc.names.lookup x = some .local)
    (k : ∀ s', SS P X₀ Z₀ s₀ Z X env sc ((x, .list ((ds.filter p).map f)) :: ρ) none s' → wpAny (model P.prog P.w) A (execs rest env) Q E s')
    (hsw : ∀ env : Env, env.scope = sc → swapsWith (.ListComp elt [⟨tgt, iter, ifs, 0⟩] scope pos) (some (.Name x px)) spos.line env = pure true)
    (hfold : ∀ env x, foldedSetIterable iter env x = pure x := by intro _ _; rfl) :
    wpAny (model P.prog P.w) A (execs (.Assign [.Name x px] (.ListComp elt [⟨tgt, iter, ifs, 0⟩] scope pos) spos :: rest) env) Q E s :=
  wpAny_execs_cons (st_assign_comp S.a rm hit cp hb ht he hρ hsz hx (fun s' a' => k s' ⟨a', fun _ _ _ e => (nomatch e), S.rx, S.rz⟩) (hsw env S.a.e.hsc) hfold)
end
end Mine
end
section
open PySem PySem.W PySem.Calls PyProof.Rows
set_option Elab.async false
set_option maxRecDepth 100000
set_option linter.unusedVariables false
namespace Mine
theorem envE {sc : Scope} {env : Env} {p : Env → Prop} (h : env.scope = sc) (f : ∀ env : Env, env.scope = sc → p env) : p env := f env h
theorem foldl_glue : ∀ (l : List Str) (acc : Array Nat), (l.foldl (fun acc p => acc ++ (Str.ofString "").cps ++ p.cps) acc).toList = acc.toList ++ (l.map (·.cps.toList)).flatten
  | [], acc => by simp
  | a :: l, acc => by
    rw [List.foldl_cons, foldl_glue l]
    have : (Str.ofString "").cps = #[] := rfl
    simp [this]
theorem join_list (l : List Str) : (Txt.join "" l).cps.toList = (l.map (·.cps.toList)).flatten := by
  show (Builtin.Str.glued "" l).cps.toList = _
  unfold Builtin.Str.glued
  rw [foldl_glue]
  cases l with
  | nil => rfl
  | cons a r => simp
theorem str_ext {a b : Str} (h : a.cps.toList = b.cps.toList) : a = b := by
  obtain ⟨x⟩ := a; obtain ⟨y⟩ := b
  congr 1; exact Array.ext' h
theorem join_signs (l : List Nat) : Txt.join "" (l.map fun c => (⟨#[c]⟩ : Str)) = (⟨l.toArray⟩ : Str) := by
  apply str_ext
  rw [join_list, List.map_map]
  show _ = l
  induction l with
  | nil => rfl
  | cons a r ih => rw [List.map_cons, List.flatten_cons]; show [a] ++ _ = _; rw [ih]; rfl
section
variable {P : Prm} {n : Nat} {sc : Scope} {ρ : Rho}
theorem ev_and {a b : PySem.Expr} {pos : Pos} {d : D} (h1 : Ev P n sc ρ a (.bool true)) (h2 : Ev P n sc ρ b d) : Ev P n sc ρ (.BoolOp .And [a, b] pos) d := fun X env A s e rm => by
  refine BoolOp_and (ev_of h1 e rm fun v s1 st1 e1 r1 => ?_)
  have e2 := bool_rd r1; subst e2
  refine wpAny_truthy_bool ?_
  rw [if_pos rfl]
  exact BoolOp_one (ev_of h2 e1 rm fun v s2 st2 e2 r2 => ⟨st1.trans st2, r2⟩)
end
end Mine
end
section
open PySem PySem.W PySem.Calls PyProof.Rows
set_option Elab.async false
set_option maxRecDepth 100000
set_option linter.unusedVariables false
namespace Mine
noncomputable abbrev tabsOf (tabs : List Tab) : List (Addr × Addr) := tabs.map fun t => (t.c, t.P)
noncomputable abbrev prmOf (prog : Program) (w : World) (K : Frag) (mg mb : Str → Option Value) (tabs : List Tab) (h : Heap) : Prm := ⟨prog, w, ghostOf h (tabsOf tabs), K, mg, mb, tabs⟩
noncomputable abbrev tabX (tabs : List Tab) : ASet := fun b => b ∈ (tabsOf tabs).map (·.2)
section
variable {prog p0 : Program} {w : World} {K : Frag} {mg mb : Str → Option Value} {tabs : List Tab} {h : Heap} {loose : List Str} {mean : ExcName → Option Value}
theorem codeAll_get {ts : List (Addr × Addr)} {h : Heap} : CodeAll ts h → ∀ q ∈ ts, CodeHd h q.1 q.2 := by
  induction ts with
  | nil => exact fun _ _ hq => (nomatch hq)
  | cons a r ih => exact fun x => List.forall_mem_cons.mpr ⟨x.1, ih x.2⟩
theorem tab_mem {t : Tab} (ht : t ∈ tabs) : (t.c, t.P) ∈ tabsOf tabs := List.mem_map.mpr ⟨t, ht, rfl⟩
theorem tab_place {t : Tab} (ht : t ∈ tabs) : tabX tabs t.P := List.mem_map.mpr ⟨_, tab_mem ht, rfl⟩
theorem prm_ok (hT : TabsAt (tabsOf tabs) h) (KX : K.In h) (hK : noTabs K = true) (T : Top p0 loose mean mg mb h) : PrmOK (prmOf prog w K mg mb tabs h) := by
  have T' := ghost_top hT T
  refine ⟨ghost_K hT KX hK, T'.g, T'.b, T'.nolimit, T'.builtins, fun t ht => codeAll_get (ghost_code hT) _ (tab_mem ht), fun t ht => ?_, fun t ht => hideAll_none _ (tab_place ht)⟩
  obtain ⟨bm, ob, h1, h2, h3, h4, h5, h6⟩ := T'.bmain
  refine ⟨bm, ob, h1, h2, fun e => ?_, fun e => ?_, h3, h4, h5, h6⟩
  · obtain ⟨o, es, ep, ho, hd, _⟩ := T'.g
    rw [← e, h3] at ho; cases ho; rw [h6] at hd; cases hd
  · have := hideAll_none ((tabsOf tabs).map (·.2)) (h := h) (tab_place ht)
    rw [← e] at this
    have h3' : (hideAll h ((tabsOf tabs).map (·.2))).get? bm = some ob := h3
    rw [this] at h3'; cases h3'
theorem at_head (hT : TabsAt (tabsOf tabs) h) : At (prmOf prog w K mg mb tabs h) (tabX tabs) h :=
  ⟨fun b o e => of_hideAll _ e, fun b x => hideAll_none _ x, fun t ht => ⟨tab_place ht, .inl (hT _ (tab_mem ht)).2⟩, fun b x => by
    obtain ⟨q, hq, rfl⟩ := List.mem_map.mp x
    exact Heap.lt_size (hT q hq).2⟩
theorem good_head {c : ClaimW} {cl : Str → Option Addr} {mean' : ExcName → Option Value} {args : List WData} {s₁ s' : Shared} (hT : TabsAt (tabsOf tabs) s₁.heap) (hg : s₁.gens = #[]) (hn : ∀ cls, c.raises args cls = false) (hp : c.post args (.bool true) args = true)
    (st : Step (prmOf prog w K mg mb tabs s₁.heap) E0 s₁ s') : GoodWG c cl mean' args s₁ (.ok (.ret (.bool true))) s' := by
  have at' := (at_head (prog := prog) (w := w) (K := K) (mg := mg) (mb := mb) hT).step st.heap
  have keep : ∀ b o, b ∉ (tabsOf tabs).map (·.2) → s₁.heap.get? b = some o → s'.heap.get? b = some o := fun b o hb e => st.heap.low b o (ghost_ne e hb) e
  have grown : ∀ b o, b ∈ (tabsOf tabs).map (·.2) → s₁.heap.get? b = some o → isCodeTable s₁.heap b ∧ o = tabObj #[] ∧ ∃ ps, s'.heap.get? b = some (tabObj ps) := fun b o hb e => by
    obtain ⟨q, hq, rfl⟩ := List.mem_map.mp hb
    obtain ⟨t, ht, rfl⟩ := List.mem_map.mp hq
    have e2 := (hT _ hq).2
    rw [e] at e2
    refine ⟨((hT _ hq).1.tab (hT _ hq).2).isCodeTable, Option.some.inj e2, ?_⟩
    rcases (at'.tab t ht).2 with y | ⟨c', _, y, _⟩
    · exact ⟨_, y⟩
    · exact ⟨_, y⟩
  refine ⟨.inl ⟨.bool true, .bool true, [], rfl, hn, .bool true, hp, fun _ => ⟨.nil, fun _ ha => nomatch ha⟩⟩, ⟨fun b o e => ?_, fun b o e => ?_⟩, st.os, st.bare (.of_eq hg)⟩
  · by_cases hb : b ∈ (tabsOf tabs).map (·.2)
    · obtain ⟨ht, rfl, ps, hP⟩ := grown b o hb e
      exact .inr (.inl ⟨ht, rfl, #[], ps, rfl, by rw [Array.empty_append]; exact hP⟩)
    · exact .inl (keep b o hb e)
  · by_cases hb : b ∈ (tabsOf tabs).map (·.2)
    · obtain ⟨_, _, ps, hP⟩ := grown b o hb e
      exact ⟨_, hP⟩
    · exact ⟨o, keep b o hb e⟩
theorem law_head {c : ClaimW} {cl : Str → Option Addr} {mean' : ExcName → Option Value} {args : List WData} {s₁ : Shared} {d : Stmt} {fa la : Addr} {fd : FuncData} {vs : List Value} {script : List Int} (hT : TabsAt (tabsOf tabs) s₁.heap) (KX : K.In s₁.heap) (hK : noTabs K = true) (T : Top p0 loose mean mg mb s₁.heap) (hg : s₁.gens = #[])
    (hn : ∀ cls, c.raises args cls = false) (hp : c.post args (.bool true) args = true) (F : FnObj (prmOf prog w K mg mb tabs s₁.heap) fa d fd) (O : DefOK d ["script"]) (hpp : Binds d ["script"]) (hL : s₁.heap.IsList la vs.toArray) (hI : IntsAre vs script)
    (hb : PrmOK (prmOf prog w K mg mb tabs s₁.heap) → BodyOK (prmOf prog w K mg mb tabs s₁.heap) 220 fd d [("script", Zs script)] (.bool true)) :
    wpAny (model prog w) callerA (call (.ref fa) [.ref la]) (fun v s' => GoodWG c cl mean' args s₁ (.ok (.ret v)) s') (fun e s' => GoodWG c cl mean' args s₁ (.error e) s') s₁ := by
  have p := prm_ok (prog := prog) (w := w) hT KX hK T
  have at' := at_head (prog := prog) (w := w) (K := K) (mg := mg) (mb := mb) hT
  have nla : ¬ tabX tabs la := fun x => by
    obtain ⟨q, hq, e⟩ := List.mem_map.mp x
    obtain ⟨o, ho, hc, _⟩ := hL
    rw [← e, (hT q hq).2] at ho
    cases ho; cases hc
  refine wpAny_call (code_own (P := prmOf prog w K mg mb tabs s₁.heap) (n := 220) (xs := ["script"]) (ds := [Zs script]) (r := .bool true) p F (hb p) at' ⟨rfl, by decide, by decide⟩ ?_ O.par rfl O.nd (hpp fd F.params F.dv F.kd _ rfl) O.kinds O.fn O.cells fun v s' st r => ?_)
  · simp only [RdL, Rd]
    exact ⟨_, _, rfl, ⟨la, vs.toArray, rfl, nla, hL, of_intsAre hI⟩, rfl⟩
  · have e := bool_rd r; subst e
    exact good_head hT hg hn hp st
end
end Mine
end
section
open PySem PySem.W PySem.Calls PyProof.Rows
set_option Elab.async false
set_option maxRecDepth 100000
set_option linter.unusedVariables false
namespace Mine
noncomputable abbrev B0 (i : Nat) : Stmt := (PySem.Challenge.pw_wn0111_02.main.body).getD i default
section
variable {P : Prm} {n : Nat}
theorem binds_div2 : Binds (B0 5) ["a", "b", "n"] := by
  intro fd h1 h2 h3 vs hl
  obtain ⟨x, q, pr, b, sc, g, c, d, k, _⟩ := fd
  simp only at h1 h2 h3
  subst h1 h2 h3
  obtain ⟨u, v, w, rfl⟩ := len3 hl
  rfl
theorem div2_ok (p : PrmOK P) (D' : Def P "_div2n1n" (B0 5)) {t : Tok} (gl : P.mg "_DIV_LIMIT" = some (.int 4000 t)) (bd : Boot P "divmod") {a b k : Int} (hk : 0 ≤ k) (ha : a.natAbs < 2 ^ 64) (hb : b ≠ 0) :
    Ok P "_div2n1n" (n + 1) [.int a, .int b, .int k] (.tup [.int (a.fdiv b), .int (a.fmod b)]) :=
  D'.ok p ⟨rfl, by decide, by rfl, ⟨rfl, rfl, rfl⟩, by decide⟩ binds_div2 rfl fun fd X Z env A s S0 rm _ _ => by
    refine sx_if (b := true) (SS.start S0) rm ((tr_cmp (ev_binop (ev_meth p (ev_name rfl) evl_nil mBits call_bits) (ev_name rfl) op_sub) (ev_gint p gl) cmp_le).congr ?_) (fun _ s' S => ?_) (fun h => (nomatch h))
    · have := intBits_le_iff.mpr ha
      exact decide_eq_true (by (clear ha hb; omega))
    · refine sx_return S rm (ev_boot p bd rfl (evl_cons (ev_name rfl) (evl_cons (ev_name rfl) evl_nil)) (call_divmod hb (noPylong ha))) ?_
      exact fun v s' st r => ⟨v, rfl, st, r⟩
end
end Mine
end
section
open PySem PySem.W PySem.Calls PyProof.Rows
set_option Elab.async false
set_option maxRecDepth 100000
set_option linter.unusedVariables false
namespace Mine
section
variable {P : Prm} {X X' Y Z X₀ Z₀ W : ASet} {env : Env} {sc scope : Scope} {ρ ρ' ρc : Rho} {s s' s₀ : Shared} {A : Around} {n m : Nat} {h h' : Heap} {t : Tab} {f : Addr} {fd : FuncData}
/-- the def inside -/
noncomputable abbrev inI : Stmt := (defBody (B0 7)).getD 1 default
noncomputable abbrev ρI (m : Nat) (c f : Addr) : Rho := [("a_digits", .ptr c), ("n", .int m), ("inner", .ptr f)]
theorem xyz_ints {a b c : Int} {vs : List Value} (r : RdL X h [.int a, .int b, .int c] vs) : RdL X' h' [.int a, .int b, .int c] vs := rdL_ints (ns := [a, b, c]) r
theorem binds_inI (h1 : fd.params = defParams inI) (h2 : fd.defaults = .none) (h3 : fd.kwdefaults = .none) : ∀ vs, vs.length = ["x", "L", "R"].length → bindArgs fd ⟨vs, []⟩ = pure ((["x", "L", "R"] : List Str).zip vs) := by
  intro vs hl
  obtain ⟨x, q, pr, b, sc, g, c, d, k, _⟩ := fd
  simp only at h1 h2 h3
  subst h1 h2 h3
  obtain ⟨u, v, w, rfl⟩ := len3 hl
  rfl
theorem inI_ok (p : PrmOK P) (hf : fd.params = defParams inI ∧ fd.body = .stmts (defBody inI) ∧ fd.scope = defScope inI ∧ fd.defaults = .none ∧ fd.kwdefaults = .none) {c : Addr} (hm : 0 < m) (hm64 : m ≤ 64) :
    ∀ (k : Nat) (x L : Nat) (ns : List Nat) (X : ASet) (A : Around) (s : Shared) (vs : List Value), 0 < k → x < 2 ^ (m * k) → x < 2 ^ 60 → L + k ≤ ns.length → ns.length ≤ 1000 →
      At P X s.heap → X c → Fn P X s.heap f fd (ρI m c f) → Room A (k + 20) → OwnZ s c (iz ns) → RdL X s.heap [.int x, .int L, .int (L + k : Nat)] vs →
      wpAny (model P.prog P.w) A (call (.ref f) vs) (fun w s' => w = .none ∧ Step P (One c) s s' ∧ OwnZ s' c (iz (put ns L (digs m k x)))) F0 s := by
  intro k
  induction k using Nat.strongRecOn with
  | _ k ih =>
  intro x L ns X A s vs hk hx hx60 hL hns at' hc F rm own hr
  refine call_made (W := One c) (xs := ["x", "L", "R"]) (d := inI) (n := k + 19) p at' F rm hr ⟨hf.1, hf.2.1, hf.2.2.1⟩ ⟨rfl, by decide, by rfl, ⟨rfl, rfl, rfl⟩, by decide⟩ rfl (fun b q => (show b = c from q) ▸ hc)
    (binds_inI hf.1 hf.2.2.2.1 hf.2.2.2.2) (by decide) (by rfl) (fun y d hy => ?_) ?_
  · rcases mem_lookup hy with _ | ⟨_, _ | ⟨_, _ | ⟨_, q⟩⟩⟩
    · rfl
    · rfl
    · rfl
    · cases q
  · intro env A s1 st1 F1 S1 hge rm1
    have S0 : SS P (Un X (One env.locals)) (Un (One env.locals) (One c)) s1 (Un (One env.locals) (One c)) (Un X (One env.locals)) env (defScope inI) _ (some ("a_digits", c, iz ns)) s1 :=
      ⟨S1, fun y c' ns' e => by cases e; exact ⟨rfl, .inr rfl, own.step0 st1⟩, fun _ x => x, fun _ z => .inl z⟩
    have lt64 : ∀ y : Nat, y < 2 ^ 60 → ((y : Int)).natAbs < 2 ^ 64 := fun y h => by (clear hf hm hm64 hk hx hx60 hL hns hge; omega)
    refine sx_if (b := decide (k = 1)) S0 rm1 ((tr_cmp (ev_binop (ev_name rfl) ev_int op_add) (ev_name rfl) cmp_eq).congr ?_) (fun hb s2 S2 => ?_) (fun hb s2 S2 => ?_)
    · by_cases h1 : k = 1
      · subst h1; simp
      · rw [decide_eq_false h1]
        exact beq_eq_false_iff_ne.mpr (by (clear hf hm hm64 hk hx hx60 hL hns hge; omega))
    · have hk1 : k = 1 := of_decide_eq_true hb
      subst hk1
      refine sx_setitem S2 rm1 (ev_name rfl) (ev_name rfl) (Int.natCast_nonneg L) (by simp; (clear hf hm hm64 hx60 hns hge hk hx; omega)) (by simp; (clear hf hm hm64 hx60 hge hk hx hL; omega)) fun s3 S3 => ?_
      refine sx_return0 S3 fun st => ?_
      refine ⟨st, fun st' => ⟨rfl, st', ?_⟩⟩
      have o3 := (S3.o _ _ _ rfl).2.2
      rw [Nat.mul_one] at hx
      have e : put ns L (digs m 1 x) = ns.set L x := by simp only [digs, Nat.mod_eq_of_lt hx]; exact put_one (by (clear hf hm hm64 hx60 hns hge hk hx; omega))
      rw [e]
      simpa [List.map_set] using o3
    · have hk1 : k ≠ 1 := of_decide_eq_false hb
      refine wpAny_execs_nil ?_
      have hkm : 1 ≤ k / 2 ∧ k / 2 < k := by (clear hf hm hm64 hx hx60 hL hns hge; omega)
      have hmul : m * (k / 2) ≤ 64000 := by
        calc m * (k / 2) ≤ 64 * 1000 := Nat.mul_le_mul hm64 (by (clear hf hm hm64 hk hx hx60 hge hk1; omega))
          _ = 64000 := rfl
      have hp : 2 ^ (m * (k / 2)) * 2 ^ (m * (k - k / 2)) = 2 ^ (m * k) := by rw [← Nat.pow_add, ← Nat.mul_add]; congr 2; (clear hf hm hm64 hk hx hx60 hL hns hge hk1 hmul; omega)
      refine sx_assign (d := .int (L + k / 2 : Nat)) S2 rm1 ((ev_binop (ev_binop (ev_name rfl) (ev_name rfl) op_add) ev_int (op_shr (by decide))).congr ?_) (.inl rfl) (fun s3 S3 => ?_) (hn := ownNe (by decide))
      · congr 1
        rw [show ((L : Int) + (L + k : Nat)) = ((L + (L + k) : Nat) : Int) from by (clear hf hm hm64 hk hx hx60 hL hns hge hk1 hkm hmul hp; omega), shr_half]
        congr 1; (clear hf hm hm64 hk hx hx60 hL hns hge hk1 hkm hmul hp; omega)
      refine sx_assign (d := .int (m * (k / 2) : Nat)) S3 rm1 ((ev_binop (ev_binop (ev_name rfl) (ev_name rfl) op_sub) (ev_name rfl) (op_mul (mulOk (by (clear hf hm hm64 hk hx hx60 hge hk1 hmul hp; omega)) (by (clear hf hk hx hx60 hL hns hge hk1 hkm hmul hp; omega))))).congr ?_) (.inl rfl) (fun s4 S4 => ?_) (hn := ownNe (by decide))
      · congr 1
        rw [show (((L + k / 2 : Nat) : Int) - L) = ((k / 2 : Nat) : Int) from by (clear hf hm hm64 hk hx hx60 hL hns hge hk1 hkm hmul hp; omega), Int.mul_comm]; push_cast; rfl
      refine sx_assign (d := .int (x / 2 ^ (m * (k / 2)) : Nat)) S4 rm1 ((ev_binop (ev_name rfl) (ev_name rfl) (op_shr (Int.natCast_nonneg _))).congr ?_) (.inl rfl) (fun s5 S5 => ?_) (hn := ownNe (by decide))
      · congr 1; exact shr_nat x rfl
      have hup : x / 2 ^ (m * (k / 2)) ≤ x := Nat.div_le_self _ _
      refine sx_assign (d := .int (x % 2 ^ (m * (k / 2)) : Nat)) S5 rm1 ((ev_binop (ev_name rfl) (ev_binop (ev_name rfl) (ev_name rfl) (op_shl (Int.natCast_nonneg _) (by (clear hf hm hm64 hk hx hx60 hL hns hge hk1 hkm hp hup; omega)) (lt64 _ (by (clear hf hm hm64 hk hx hL hns hge hk1 hkm hmul hp; omega))))) op_xor).congr ?_) (.inl rfl) (fun s6 S6 => ?_) (hn := ownNe (by decide))
      · congr 1
        rw [← xor_floor]
        have := shr_nat x (k := ((m * (k / 2) : Nat) : Int)) (j := m * (k / 2)) rfl
        rw [Int.toNat_natCast] at this ⊢
        rw [this]
      have hlow : x % 2 ^ (m * (k / 2)) ≤ x := Nat.mod_le _ _
      refine sx_callptr (ns' := iz (put ns L (digs m (k / 2) (x % 2 ^ (m * (k / 2)))))) S6 rm1 (evl_cons (ev_name rfl) (evl_cons (ev_name rfl) (evl_cons (ev_name rfl) evl_nil))) rfl (F1.later S0 S6.a.st (fun b z => z)).is (fun vs s7 st7 S7 r7 => ?_) (fun s8 st8 S8 => ?_)
      · exact ih (k / 2) hkm.2 _ L ns _ A s7 vs hkm.1 (Nat.mod_lt _ (Nat.two_pow_pos _)) (by (clear hf hm hm64 hk hx hL hns hge hk1 hkm hmul hp hup; omega)) (by (clear hf hm hm64 hk hx hx60 hns hge hk1 hmul hp hup hlow; omega)) hns S7.a.e.at' (.inl hc) (F1.later S0 S7.a.st (fun b z => z)) (room_le rm1 (by (clear hf hm hm64 hk hx hx60 hL hns hge hk1 hmul hp hup hlow; omega))) (S7.o _ _ _ rfl).2.2 (xyz_ints r7)
      refine sx_callptr (ns' := iz (put (put ns L (digs m (k / 2) (x % 2 ^ (m * (k / 2))))) (L + k / 2) (digs m (k - k / 2) (x / 2 ^ (m * (k / 2)))))) S8 rm1 (evl_cons (ev_name rfl) (evl_cons (ev_name rfl) (evl_cons (ev_name rfl) evl_nil))) rfl (F1.later S0 S8.a.st (fun b z => z)).is (fun vs s9 st9 S9 r9 => ?_) (fun s10 st10 S10 => ?_)
      · refine ih (k - k / 2) (by (clear hf hm hm64 hx hx60 hge hk1 hmul hp hup hlow; omega)) _ (L + k / 2) _ _ A s9 vs (by (clear hf hm hm64 hx hx60 hL hns hge hk1 hmul hp hup hlow; omega)) (Nat.div_lt_of_lt_mul (hp ▸ hx)) (by (clear hf hm hm64 hk hx hL hns hge hk1 hkm hmul hp hlow; omega)) ?_ ?_ S9.a.e.at' (.inl hc) (F1.later S0 S9.a.st (fun b z => z)) (room_le rm1 (by (clear hf hm hm64 hx hx60 hge hk1 hmul hp hup hlow; omega))) (S9.o _ _ _ rfl).2.2 ?_
        · rw [put_length (by rw [digs_length]; (clear hf hm hm64 hk hx hx60 hns hge hk1 hmul hp hup hlow; omega))]; (clear hf hm hm64 hk hx hx60 hns hge hk1 hmul hp hup hlow; omega)
        · rw [put_length (by rw [digs_length]; (clear hf hm hm64 hk hx hx60 hns hge hk1 hmul hp hup hlow; omega))]; exact hns
        · rw [show L + k / 2 + (k - k / 2) = L + k from by (clear hf hm hm64 hk hx hx60 hL hns hge hk1 hmul hp hup hlow; omega)]; exact xyz_ints r9
      refine wpAny_execs_nil ?_
      refine ⟨S10.whole, fun st' => ⟨rfl, st', ?_⟩⟩
      have o3 := (S10.o _ _ _ rfl).2.2
      have e : digs m k x = digs m (k / 2) (x % 2 ^ (m * (k / 2))) ++ digs m (k - k / 2) (x / 2 ^ (m * (k / 2))) := by rw [← digs_append]; congr 1; (clear hf hm hm64 hk hx hx60 hL hns hge hk1 hmul hp hup hlow; omega)
      have e2 := put_put (ns := ns) (L := L) (a := digs m (k / 2) (x % 2 ^ (m * (k / 2)))) (b := digs m (k - k / 2) (x / 2 ^ (m * (k / 2)))) (by rw [digs_length, digs_length]; (clear hf hm hm64 hk hx hx60 hns hge hk1 hmul hp hup hlow; omega))
      rw [digs_length] at e2
      rw [e, ← e2]
      exact o3
end
end Mine
end
section
open PySem PySem.W PySem.Calls PyProof.Rows
set_option Elab.async false
set_option maxRecDepth 100000
set_option linter.unusedVariables false
namespace Mine
section
variable {P : Prm} {X X' Y Z X₀ Z₀ W : ASet} {env : Env} {sc scope : Scope} {ρ ρ' ρc : Rho} {s s' s₀ : Shared} {A : Around} {n m : Nat} {h h' : Heap} {t : Tab} {f : Addr} {fd : FuncData}
noncomputable abbrev nd (a m : Nat) : Nat := (Builtin.Int.intBits (a : Int) + m - 1) / m
theorem nd_spec {a m : Nat} (hm : 0 < m) (ha : a < 2 ^ 60) : a < 2 ^ (m * nd a m) ∧ nd a m ≤ 60 ∧ (a ≠ 0 → 0 < nd a m) := by
  have hb : Builtin.Int.intBits (a : Int) ≤ 60 := intBits_le_iff.mpr (by simpa using ha)
  refine ⟨?_, Nat.div_le_of_le_mul (by (clear ha; omega)), fun h0 => ?_⟩
  · have := (intBits_le_iff (x := (a : Int)) (m := m * nd a m)).mp (by
      have h1 := Nat.div_add_mod (Builtin.Int.intBits (a : Int) + m - 1) m
      have h2 := Nat.mod_lt (Builtin.Int.intBits (a : Int) + m - 1) hm
      show _ ≤ m * ((Builtin.Int.intBits (a : Int) + m - 1) / m)
      (clear ha; omega))
    simpa using this
  · refine Nat.div_pos ?_ hm
    have : 1 ≤ Builtin.Int.intBits (a : Int) := by
      rcases Nat.eq_zero_or_pos (Builtin.Int.intBits (a : Int)) with h | h
      · have := (intBits_le_iff (x := (a : Int)) (m := 0)).mp (by (clear hm ha hb h0; omega))
        simp at this; exact absurd this h0
      · exact h
    (clear ha h0; omega)
noncomputable def defPos : Stmt → Pos
  | .FunctionDef _ _ _ _ _ _ _ _ _ p => p
  | _ => default
theorem free_cells {scope sc : Scope} (h : (scope.names.all fun p => p.2 != .free || sc.names.lookup p.1 == some .cell) = true) : ∀ x, (x, NameKind.free) ∈ scope.names → sc.names.lookup x = some .cell := fun x hx => by
  have := List.all_eq_true.mp h _ hx
  simpa using this
structure InTab (P : Prm) (t : Tab) (d : Stmt) (q : Str) : Prop where
  mem : t ∈ P.tabs
  u : ∀ t' ∈ P.tabs, t'.P = t.P → t' = t
  line : t.line = (defPos d).line
  col : t.col = 4
  qual : t.qual = q
theorem binds_i2d : Binds (B0 7) ["a", "n"] := by
  intro fd h1 h2 h3 vs hl
  obtain ⟨x, q, pr, b, sc, g, c, d, k, _⟩ := fd
  simp only at h1 h2 h3
  subst h1 h2 h3
  obtain ⟨u, v, rfl⟩ := len2 hl
  rfl
theorem i2d_ok (p : PrmOK P) (D' : DefC P "_int2digits" (B0 7) t.c "_int2digits") (T : InTab P t inI "_int2digits.<locals>.inner") (bl : Boot P "len") {a m : Nat} (hm : 0 < m) (hm64 : m ≤ 64) (ha : a < 2 ^ 60) :
    Ok P "_int2digits" 100 [.int a, .int m] (Zs (iz (digs m (nd a m) a))) :=
  D'.ok p ⟨rfl, by decide, by rfl, ⟨rfl, rfl, rfl⟩, by decide⟩ binds_i2d rfl fun fd hcode hqual X Z env A s S0 rm ec eq => by
    obtain ⟨h1, h2, h3⟩ := nd_spec hm ha
    have hbits : Builtin.Int.intBits (a : Int) ≤ 60 := intBits_le_iff.mpr (by simpa using ha)
    refine sx_newop (a := Zs [0]) (b := .int (nd a m : Nat)) (ns := iz (List.replicate (nd a m) 0)) (SS.start S0) rm (ev_list (evl_cons ev_int evl_nil)) ((ev_binop (ev_binop (ev_binop (ev_meth p (ev_name rfl) evl_nil mBits call_bits) (ev_name rfl) op_add) ev_int op_sub) (ev_name rfl) (op_div (by (clear ha h1 h2 hbits; omega)) (noPylong (by (clear ha h1 h2; omega))))).congr ?_)
      ((opnew_mull (by (clear hm hm64 ha h1 hbits; omega)) (by (clear hm hm64 ha h1 hbits; omega)) (by rw [Int.toNat_natCast, List.length_singleton]; (clear hm hm64 ha h1 hbits; omega))).congr ?_) (.inr rfl) (fun c s1 hc S1 => ?_)
    · congr 1
      rw [Int.fdiv_eq_ediv_of_nonneg _ (Int.natCast_nonneg m), show ((Builtin.Int.intBits (a : Int) : Int) + m - 1) = ((Builtin.Int.intBits (a : Int) + m - 1 : Nat) : Int) from by (clear ha h1 h2; omega)]
      rfl
    · rw [Int.toNat_natCast]; simp
    refine sx_def (t := t) (fun f => ρI m c f) p S1 T.mem T.u ?_ ?_ ?_ ?_ (.inr rfl) rfl rfl ?_ (ownNe (by decide)) (by decide) ?_ ?_ (fun f fd' s2 S2 hfd hf F => ?_)
    · rw [ec, hcode]
    · exact T.line.symm
    · exact T.col.symm
    · rw [T.qual, qualnameIn, eq, hqual, kindOf_eq S1.a.e]; rfl
    · rfl
    · exact free_cells (by rfl)
    · exact fun f => ⟨by decide, rfl, by decide, rfl, by decide, rfl, trivial⟩
    refine sx_ifS (b := decide (a ≠ 0)) S2 rm ((tr_val (ev_name rfl) truth_int).congr ?_) (fun hb s3 st3 S3 => ?_) (fun hb s3 st3 S3 => wpAny_execs_nil ?_)
    · by_cases h0 : a = 0 <;> simp [h0]
    · have h0 : a ≠ 0 := of_decide_eq_true hb
      have F3 : Fn P (Un X (One c)) s3.heap f fd' (ρI m c f) := F.step0 st3
      refine sx_callptr (ns' := iz (put (List.replicate (nd a m) 0) 0 (digs m (nd a m) a))) S3 rm (evl_cons (ev_name rfl) (evl_cons ev_int (evl_cons (ev_boot p bl rfl (evl_cons (ev_name rfl) evl_nil) (call_lenL (by simp; (clear hm hm64 ha h1 hbits hc hf h0; omega)))) evl_nil))) rfl F3.is (fun vs s4 st4 S4 r4 => ?_) (fun s5 st5 S5 => ?_)
      · refine inI_ok p ⟨hfd.params, hfd.body, hfd.scope, hfd.dv, hfd.kd⟩ hm hm64 (nd a m) a 0 _ _ A s4 vs (h3 h0) h1 ha (by simp) (by simp; (clear hm hm64 ha h1 hbits hc hf h0; omega)) S4.a.e.at' (.inr rfl) (F3.step0 st4) (room_le rm (by (clear hm hm64 ha h1 hbits hc hf h0; omega))) (S4.o _ _ _ rfl).2.2 ?_
        have e : (((iz (List.replicate (nd a m) 0)).map D.int).length : Int) = ((0 + nd a m : Nat) : Int) := by simp
        rw [e] at r4
        exact xyz_ints r4
      · refine wpAny_execs_nil ?_
        rw [put_all (by rw [digs_length]; simp)] at S5
        refine sx_returnO S5 rm (ev_name rfl) (fun x => Nat.lt_irrefl _ (Nat.lt_of_lt_of_le (S0.e.at'.below _ x) hc)) fun v s' st r => ⟨v, rfl, st, r⟩
    · have h0 : a = 0 := by simpa using hb
      have e : List.replicate (nd a m) 0 = digs m (nd a m) a := by
        have : nd a m = 0 := by subst h0; exact Nat.div_eq_of_lt (by show 0 + m - 1 < m; (clear hc hf ha h1 h2 hbits; omega))
        rw [this]; rfl
      rw [e] at S3
      refine sx_returnO S3 rm (ev_name rfl) (fun x => Nat.lt_irrefl _ (Nat.lt_of_lt_of_le (S0.e.at'.below _ x) hc)) fun v s' st r => ⟨v, rfl, st, r⟩
end
end Mine
end
section
open PySem PySem.W PySem.Calls PyProof.Rows
set_option Elab.async false
set_option maxRecDepth 100000
set_option linter.unusedVariables false
namespace Mine
section
variable {P : Prm} {X X' Y Z X₀ Z₀ W : ASet} {env : Env} {sc scope : Scope} {ρ ρ' ρc : Rho} {s s' s₀ : Shared} {A : Around} {n m : Nat} {h h' : Heap} {t : Tab} {f : Addr} {fd : FuncData}
noncomputable abbrev inD : Stmt := (defBody (B0 8)).getD 0 default
noncomputable abbrev ρD (m : Nat) (l : List Nat) (f : Addr) : Rho := [("digits", Zs (iz l)), ("n", .int m), ("inner", .ptr f)]
theorem xy_ints {a b : Int} {vs : List Value} (r : RdL X h [.int a, .int b] vs) : RdL X' h' [.int a, .int b] vs := rdL_ints (ns := [a, b]) r
theorem binds_inD (h1 : fd.params = defParams inD) (h2 : fd.defaults = .none) (h3 : fd.kwdefaults = .none) : ∀ vs, vs.length = ["L", "R"].length → bindArgs fd ⟨vs, []⟩ = pure ((["L", "R"] : List Str).zip vs) := by
  intro vs hl
  obtain ⟨x, q, pr, b, sc, g, c, d, k, _⟩ := fd
  simp only at h1 h2 h3
  subst h1 h2 h3
  obtain ⟨u, v, rfl⟩ := len2 hl
  rfl
theorem inD_ok (p : PrmOK P) (hf : fd.params = defParams inD ∧ fd.body = .stmts (defBody inD) ∧ fd.scope = defScope inD ∧ fd.defaults = .none ∧ fd.kwdefaults = .none) (hm : 0 < m) (hm64 : m ≤ 64) {l : List Nat} (hl : l.length ≤ 1000) (hv : valL m l < 2 ^ 60) :
    ∀ (k : Nat) (L : Nat) (X : ASet) (A : Around) (s : Shared) (vs : List Value), 0 < k → L + k ≤ l.length →
      At P X s.heap → Fn P X s.heap f fd (ρD m l f) → Room A (k + 20) → RdL X s.heap [.int L, .int (L + k : Nat)] vs →
      wpAny (model P.prog P.w) A (call (.ref f) vs) (fun w s' => Step P E0 s s' ∧ ∃ t, w = .int (valL m ((l.drop L).take k) : Nat) t) F0 s := by
  intro k
  induction k using Nat.strongRecOn with
  | _ k ih =>
  intro L X A s vs hk hL at' F rm hr
  refine call_made (W := E0) (xs := ["L", "R"]) (d := inD) (n := k + 19) p at' F rm hr ⟨hf.1, hf.2.1, hf.2.2.1⟩ ⟨rfl, by decide, by rfl, ⟨rfl, rfl, rfl⟩, by decide⟩ rfl (fun b q => q.elim)
    (binds_inD hf.1 hf.2.2.2.1 hf.2.2.2.2) (by decide) (by rfl) (fun y d hy => ?_) ?_
  · rcases mem_lookup hy with _ | ⟨_, _ | ⟨_, _ | ⟨_, q⟩⟩⟩
    · rfl
    · rfl
    · rfl
    · cases q
  · intro env A s1 st1 F1 S1 hge rm1
    have S0 := SS.start S1
    have hz : ∀ b, Un (One env.locals) E0 b → b = env.locals := fun b z => z.elim id fun q => q.elim
    have lt64 : ∀ y : Nat, y < 2 ^ 60 → ((y : Int)).natAbs < 2 ^ 64 := fun y h => by (clear hf hm hm64 hl hv hk hL hge; omega)
    refine sx_if (b := decide (k = 1)) S0 rm1 ((tr_cmp (ev_binop (ev_name rfl) ev_int op_add) (ev_name rfl) cmp_eq).congr ?_) (fun hb s2 S2 => ?_) (fun hb s2 S2 => wpAny_execs_nil ?_)
    · by_cases h1 : k = 1
      · subst h1; simp
      · rw [decide_eq_false h1]
        exact beq_eq_false_iff_ne.mpr (by (clear hf hm hm64 hl hv hk hL hge; omega))
    · have hk1 : k = 1 := of_decide_eq_true hb
      subst hk1
      have hLl : L < l.length := by (clear hf hm hm64 hl hv hge hk; omega)
      refine sx_return (d := .int (l[L]'hLl : Nat)) S2 rm1 (ev_item (ev_name rfl) (ev_name rfl) (by (clear hf hm hm64 hv hge hk hLl; omega)) (by simp; (clear hf hm hm64 hv hge hk hL hLl; omega)) ?_) ?_
      · have : pidx (L : Int) ((iz l).map D.int).length = L := by unfold pidx; split <;> (clear hf hm hm64 hl hv hge hk hL hLl; omega)
        rw [this]; simp [hLl]
      · intro v s' st r
        refine ⟨st, fun st' => ⟨st', ?_⟩⟩
        obtain ⟨t, rfl⟩ := int_rd r
        refine ⟨t, ?_⟩
        have : (l.drop L).take 1 = [l[L]] := by rw [List.drop_eq_getElem_cons hLl]; rfl
        rw [this]; simp [valL]
    · have hk1 : k ≠ 1 := of_decide_eq_false hb
      have hkm : 1 ≤ k / 2 ∧ k / 2 < k := by (clear hf hm hm64 hv hge; omega)
      have hmul : m * (k / 2) ≤ 64000 := by
        calc m * (k / 2) ≤ 64 * 1000 := Nat.mul_le_mul hm64 (by (clear hf hm hm64 hv hk hge hk1; omega))
          _ = 64000 := rfl
      refine sx_assign (d := .int (L + k / 2 : Nat)) S2 rm1 ((ev_binop (ev_binop (ev_name rfl) (ev_name rfl) op_add) ev_int (op_shr (by decide))).congr ?_) (.inl rfl) (fun s3 S3 => ?_)
      · congr 1
        rw [show ((L : Int) + (L + k : Nat)) = ((L + (L + k) : Nat) : Int) from by (clear hf hm hm64 hl hv hk hL hge hk1 hkm hmul; omega), shr_half]
        congr 1; (clear hf hm hm64 hl hv hk hL hge hk1 hkm hmul; omega)
      refine sx_assign (d := .int (m * (k / 2) : Nat)) S3 rm1 ((ev_binop (ev_binop (ev_name rfl) (ev_name rfl) op_sub) (ev_name rfl) (op_mul (mulOk (by (clear hf hm hm64 hv hk hge hk1 hmul; omega)) (by (clear hf hl hv hk hL hge hk1 hkm hmul; omega))))).congr ?_) (.inl rfl) (fun s4 S4 => ?_)
      · congr 1
        rw [show (((L + k / 2 : Nat) : Int) - L) = ((k / 2 : Nat) : Int) from by (clear hf hm hm64 hl hv hk hL hge hk1 hkm hmul; omega), Int.mul_comm]; push_cast; rfl
      have F4 := F1.later0 S0 S4.a.st hz
      have seg : (l.drop L).take k = (l.drop L).take (k / 2) ++ (l.drop (L + k / 2)).take (k - k / 2) := by
        rw [← List.take_append_drop (k / 2) ((l.drop L).take k), List.take_take, List.drop_take, List.drop_drop]
        congr 2; (clear hf hm hm64 hl hv hk hL hge hk1 hmul; omega)
      have hlen : ((l.drop L).take (k / 2)).length = k / 2 := by simp; (clear hf hm hm64 hl hv hk hge hk1 hmul; omega)
      refine wpAny_execs_cons (wpAny_Return_some (wpAny_BinOp (wpAny_BinOp (ptr_eval (evl_cons (ev_name rfl) (evl_cons (ev_name rfl) evl_nil)) S4.a.e rm1 rfl F4.is fun vs s5 st5 r5 => ?_))))
      have S5 := S4.step st5
      refine wpAny_mono (ih (k - k / 2) (by (clear hf hm hm64 hv hge hk1 hmul; omega)) (L + k / 2) _ A s5 vs (by (clear hf hm hm64 hl hv hL hge hk1 hmul; omega)) (by (clear hf hm hm64 hl hv hk hge hk1 hmul; omega)) S5.a.e.at' (F4.step0 st5) (room_le rm1 (by (clear hf hm hm64 hv hge hk1 hmul; omega))) (by rw [show L + k / 2 + (k - k / 2) = L + k from by (clear hf hm hm64 hl hv hk hL hge hk1 hmul; omega)]; exact xy_ints r5)) (fun w s6 ⟨st6, t6, e6⟩ => ?_) fun _ _ y => y.elim
      subst e6
      have S6 := S5.step st6
      refine ev_of (ev_name rfl) S6.a.e rm1 fun u s7 st7 e7 r7 => ?_
      have S7 := S6.step st7
      refine wpAny_mono (op_shl (P := P) (a := (valL m ((l.drop (L + k / 2)).take (k - k / 2)) : Nat)) (b := ((m * (k / 2) : Nat) : Int)) (Int.natCast_nonneg _) (by (clear hf hm hm64 hl hv hk hL hge hk1 hkm hlen; omega)) (lt64 _ (Nat.lt_of_le_of_lt (valL_part m l _ _) hv)) _ A s7 _ _ S7.a.e.at' rm1 rd_int r7) (fun w s8 ⟨st8, r8⟩ => ?_) fun _ _ y => y.elim
      have S8 := S7.step st8
      refine ptr_eval (evl_cons (ev_name rfl) (evl_cons (ev_name rfl) evl_nil)) S8.a.e rm1 rfl (F1.later0 S0 S8.a.st hz).is fun vs s9 st9 r9 => ?_
      have S9 := S8.step st9
      refine wpAny_mono (ih (k / 2) hkm.2 L _ A s9 vs hkm.1 (by (clear hf hm hm64 hl hv hk hge hk1 hmul; omega)) S9.a.e.at' (F1.later0 S0 S9.a.st hz) (room_le rm1 (by (clear hf hm hm64 hl hv hk hL hge hk1 hmul; omega))) (xy_ints r9)) (fun w' s10 ⟨st10, t10, e10⟩ => ?_) fun _ _ y => y.elim
      subst e10
      have S10 := S9.step st10
      refine wpAny_mono (op_add (P := P) _ A s10 _ _ S10.a.e.at' rm1 (r8.mono (((st9.trans st10).heap.keep).weak fun _ y => y.elim) fun _ y => y) rd_int) (fun w s11 ⟨st11, r11⟩ => ?_) fun _ _ y => y.elim
      refine ⟨(S10.step st11).whole, fun st' => ⟨st', ?_⟩⟩
      obtain ⟨t, rfl⟩ := int_rd r11
      refine ⟨t, ?_⟩
      congr 1
      rw [seg, valL_append, hlen, Int.toNat_natCast]
      push_cast
      rw [Int.add_comm]
      exact congrArg (fun z => Value.int (_ + z) t) (Int.mul_comm _ _)
theorem binds_d2i : Binds (B0 8) ["digits", "n"] := by
  intro fd h1 h2 h3 vs hl
  obtain ⟨x, q, pr, b, sc, g, c, d, k, _⟩ := fd
  simp only at h1 h2 h3
  subst h1 h2 h3
  obtain ⟨u, v, rfl⟩ := len2 hl
  rfl
theorem d2i_ok (p : PrmOK P) (D' : DefC P "_digits2int" (B0 8) t.c "_digits2int") (T : InTab P t inD "_digits2int.<locals>.inner") (bl : Boot P "len") {l : List Nat} {m : Nat} (hm : 0 < m) (hm64 : m ≤ 64) (hl : l.length ≤ 60) (hv : valL m l < 2 ^ 60) :
    Ok P "_digits2int" 100 [Zs (iz l), .int m] (.int (valL m l : Nat)) :=
  D'.ok p ⟨rfl, by decide, by rfl, ⟨rfl, rfl, rfl⟩, by decide⟩ binds_d2i rfl fun fd hcode hqual X Z env A s S0 rm ec eq => by
    have S1 := SS.start S0
    refine sx_def (t := t) (fun f => ρD m l f) p S1 T.mem T.u ?_ ?_ ?_ ?_ (.inr rfl) rfl rfl ?_ (by decide) (by decide) ?_ ?_ (fun f fd' s2 S2 hfd hf F => ?_)
    · rw [ec, hcode]
    · exact T.line.symm
    · exact T.col.symm
    · rw [T.qual, qualnameIn, eq, hqual, kindOf_eq S1.a.e]; rfl
    · rfl
    · exact free_cells (by rfl)
    · exact fun f => ⟨by decide, rfl, by decide, rfl, by decide, rfl, trivial⟩
    refine wpAny_execs_cons (wpAny_Return_some ?_)
    show wpAny _ A (do if ← isTrue _ env (eval _ env) then eval _ env else eval _ env) _ _ s2
    refine wpAny_bind (tr_of (b := decide (l ≠ [])) ((tr_val (ev_name rfl) (truth_list (by simp; (clear hm hm64 hv hf; omega)))).congr ?_) S2.a.e rm fun s3 st3 e3 => ?_)
    · cases l <;> simp
    have S3 := S2.step st3
    by_cases h0 : l = []
    · subst h0
      refine ev_of ev_int S3.a.e rm fun v s4 st4 e4 r4 => ?_
      exact ⟨v, rfl, (S3.step st4).whole, r4⟩
    · rw [decide_eq_true h0]
      simp only [if_true]
      have F3 := F.step0 st3
      refine ptr_eval (evl_cons ev_int (evl_cons (ev_boot p bl rfl (evl_cons (ev_name rfl) evl_nil) (call_lenL (by simp; (clear hm hm64 hv hf h0; omega)))) evl_nil)) S3.a.e rm rfl F3.is (fun vs s4 st4 r4 => ?_)
      have S4 := S3.step st4
      have hlp : 0 < l.length := List.length_pos_iff.mpr h0
      refine wpAny_mono (inD_ok p ⟨hfd.params, hfd.body, hfd.scope, hfd.dv, hfd.kd⟩ hm hm64 (by (clear hm hm64 hv hf h0; omega)) hv l.length 0 _ A s4 vs hlp (by (clear hm hm64 hl hv hf h0 hlp; omega)) S4.a.e.at' (F3.step0 st4) (room_le rm (by (clear hm hm64 hv hf h0; omega))) ?_) (fun w s5 ⟨st5, t5, e5⟩ => ?_) fun _ _ y => y.elim
      · have e : (((iz l).map D.int).length : Int) = ((0 + l.length : Nat) : Int) := by simp
        rw [e] at r4
        exact xy_ints r4
      · subst e5
        refine ⟨_, rfl, (S4.step st5).whole, ?_⟩
        rw [List.drop_zero, List.take_length]
        exact rd_int
end
end Mine
end
section
open PySem PySem.W PySem.Calls PyProof.Rows
set_option Elab.async false
set_option maxRecDepth 100000
set_option linter.unusedVariables false
namespace Mine
section
variable {P : Prm} {X X' Y Z X₀ Z₀ W : ASet} {env : Env} {sc scope : Scope} {ρ ρ' ρc : Rho} {s s' s₀ : Shared} {A : Around} {n m : Nat} {h h' : Heap} {t : Tab} {f : Addr} {fd : FuncData}
/-- what the division's defs ask of the frame of the module -/
structure DivP (P : Prm) : Prop where
  div2 : Def P "_div2n1n" (B0 5)
  lim : ∃ t, P.mg "_DIV_LIMIT" = some (.int 4000 t)
  i2d : ∃ t, DefC P "_int2digits" (B0 7) t.c "_int2digits" ∧ InTab P t inI "_int2digits.<locals>.inner"
  d2i : ∃ t, DefC P "_digits2int" (B0 8) t.c "_digits2int" ∧ InTab P t inD "_digits2int.<locals>.inner"
  dpos : Def P "_divmod_pos" (B0 9)
  idm : Def P "int_divmod" (B0 10)
  bdivmod : Boot P "divmod"
  blen : Boot P "len"
  brev : Boot P "reversed"
theorem binds_dpos : Binds (B0 9) ["a", "b"] := by
  intro fd h1 h2 h3 vs hl
  obtain ⟨x, q, pr, b, sc, g, c, d, k, _⟩ := fd
  simp only at h1 h2 h3
  subst h1 h2 h3
  obtain ⟨u, v, rfl⟩ := len2 hl
  rfl
theorem dpos_ok (p : PrmOK P) (V : DivP P) {a b : Nat} (ha : a < 2 ^ 24) (hb : 0 < b) (hb2 : b < 2 ^ 24) : Ok P "_divmod_pos" 120 [.int a, .int b] (.tup [.int (a / b : Nat), .int (a % b : Nat)]) :=
  V.dpos.ok p ⟨rfl, by decide, by rfl, ⟨rfl, rfl, rfl⟩, by decide⟩ binds_dpos rfl fun fd X Z env A s S0 rm _ _ => by
    obtain ⟨t1, hi1, hi2⟩ := V.i2d
    obtain ⟨t2, hd1, hd2⟩ := V.d2i
    obtain ⟨tl, lim⟩ := V.lim
    have hbl : Builtin.Int.intBits (b : Int) ≤ 24 := intBits_le_iff.mpr (by simpa using hb2)
    have hbu : b < 2 ^ Builtin.Int.intBits (b : Int) := by simpa using (intBits_le_iff (x := (b : Int))).mp (Nat.le_refl _)
    generalize hm : Builtin.Int.intBits (b : Int) = m at *
    have hm0 : 0 < m := by
      rcases Nat.eq_zero_or_pos m with h | h
      · subst h; simp at hbu; (clear ha hm hbl; omega)
      · exact h
    obtain ⟨hd, hk, _⟩ := nd_spec (a := a) hm0 (by (clear hb hb2 hm hbl hbu hm0; omega))
    refine sx_assign (d := .int (m : Nat)) (SS.start S0) rm ((ev_meth p (ev_name rfl) evl_nil mBits call_bits).congr (by rw [hm])) (.inl rfl) (fun s1 S1 => ?_)
    refine sx_assign (d := Zs (iz (digs m (nd a m) a))) S1 rm (ev_fn p (i2d_ok p hi1 hi2 V.blen hm0 (by (clear ha hb hb2 hbu hd hk; omega)) (by (clear hb hb2 hm hbl hbu hm0 hd hk; omega))) (evl_cons (ev_name rfl) (evl_cons (ev_name rfl) evl_nil))) (.inl rfl) (fun s2 S2 => ?_)
    refine sx_assign (d := .int 0) S2 rm ev_int (.inl rfl) (fun s3 S3 => ?_)
    refine sx_new (ns := []) S3 rm evl_nil (.inl rfl) (fun c s4 hc S4 => ?_)
    have hpm : 2 ^ m ≤ 2 ^ 24 := Nat.pow_le_pow_right (by decide) hbl
    refine sx_for (σ := List Nat × Nat) (fun u => [("q_digits", .ptr c), ("r", .int (u.2 : Nat)), ("n", .int (m : Nat)), ("b", .int (b : Nat)), ("a_digits", Zs (iz (digs m (nd a m) a)))]) (fun u => iz u.1) (some ("q_digits", c))
      (fun ds u => ∃ r : List Nat, ds = r.map (fun x : Nat => D.int x) ∧ u.1 ++ (qs m b u.2 r).1 = (qs m b 0 (digs m (nd a m) a).reverse).1 ∧ (qs m b u.2 r).2 = (qs m b 0 (digs m (nd a m) a).reverse).2 ∧ u.2 < b ∧ (∀ d ∈ r, d < 2 ^ m) ∧ u.1.length + r.length = nd a m)
      (fun _ => False) (fun _ => False) ([], 0) (S4.sub ?_ ?_) rm (evit_rev p (.inr ⟨V.brev, by decide, rfl⟩) (ev_name rfl)) ?_ ?_ ?_ ?_
    · exact subs_cons rfl (subs_cons rfl (subs_cons rfl (subs_cons rfl (subs_cons rfl (subs_nil)))))
    · exact own_some rfl
    · refine ⟨(digs m (nd a m) a).reverse, by simp [List.map_reverse], rfl, rfl, hb, fun d hd => ?_, by simp [digs_length]⟩
      exact digs_lt m _ _ d (List.mem_reverse.mp hd)
    · rintro X' d ds' ⟨u, r0⟩ s5 v ⟨r, e, h1, h2, h3, h4, h5⟩ S5 rv
      cases r with
      | nil => cases e
      | cons y r =>
        simp only [List.map_cons, List.cons.injEq] at e
        obtain ⟨rfl, rfl⟩ := e
        dsimp only at h1 h2 h3 h5 S5
        have hy := h4 y (.head _)
        have hT : r0 * 2 ^ m + y < 2 ^ 60 := by
          have := Nat.mul_le_mul (Nat.le_of_lt (Nat.lt_trans h3 hb2)) hpm
          (clear ha hb hb2 hm hbl hbu hm0 hd hk hc h3 h2 h5; omega)
        refine sx_tgt S5 rv (.inl rfl) (fun s6 S6 => ?_) (ownNe (x := "q_digits") (by decide))
        refine sx_pair (d1 := .int ((r0 * 2 ^ m + y) / b : Nat)) (d2 := .int ((r0 * 2 ^ m + y) % b : Nat)) S6 rm ((ev_fn (n := 119) p (div2_ok (n := 10) (a := ((r0 * 2 ^ m + y : Nat) : Int)) (b := b) (k := m) p V.div2 lim V.bdivmod (by (clear ha hb hb2 hbu hd hk hc hpm h3 h2 h5 hy hT; omega)) (by (clear ha hb hb2 hm hbl hbu hm0 hd hk hc h3 h2 h5; omega)) (by (clear ha hm hbl hbu hm0 hd hk hc hpm h3 h2 h5 hy hT; omega))) (evl_cons ((ev_binop (ev_binop (ev_name rfl) (ev_name rfl) (op_shl (by (clear ha hb hb2 hbu hd hk hc hpm h3 h2 h5 hy hT; omega)) (by (clear ha hb hb2 hbu hd hk hc hpm h3 h2 h5 hy hT; omega)) (by (clear ha hm hbl hbu hm0 hd hk hc hpm h2 h5 hy hT; omega)))) (ev_name rfl) op_add).congr ?_) (evl_cons (ev_name rfl) (evl_cons (ev_name rfl) evl_nil)))).congr ?_) (.inl rfl) (.inl rfl) (fun s7 S7 => ?_) (ownNe (x := "q_digits") (by decide)) (ownNe (x := "q_digits") (by decide))
        · rw [Int.toNat_natCast]; push_cast; rfl
        · rw [fdiv_nat, fmod_nat]
        refine sx_append (i := ((r0 * 2 ^ m + y) / b : Nat)) S7 rm (by simp; (clear ha hb hb2 hm hbl hbu hm0 hd hc hpm h3 h2 hy hT; omega)) (ev_name rfl) (fun s8 S8 => ?_)
        refine wpAny_execs_nil ?_
        refine ⟨(u ++ [(r0 * 2 ^ m + y) / b], (r0 * 2 ^ m + y) % b), ⟨r, rfl, ?_, ?_, Nat.mod_lt _ hb, fun d hd => h4 d (.tail _ hd), by simp at h5 ⊢; (clear ha hb hb2 hm hbl hbu hm0 hd hk hc hpm h3 h2 hy hT; omega)⟩, ?_⟩
        · simpa [qs] using h1
        · simpa [qs] using h2
        · have e : iz (u ++ [(r0 * 2 ^ m + y) / b]) = iz u ++ [(((r0 * 2 ^ m + y) / b : Nat) : Int)] := by simp
          show SS P X' (Un Z (One c)) s5 (Un Z (One c)) X' env _ _ (mk (some ("q_digits", c)) (iz (u ++ [(r0 * 2 ^ m + y) / b]))) s8
          rw [e]
          refine S8.sub ?_ ?_
          · exact subs_cons rfl (subs_cons rfl (subs_cons rfl (subs_cons rfl (subs_cons rfl (subs_nil)))))
          · exact own_some rfl
    · rintro ⟨u, r0⟩ s5 (⟨r, e, h1, h2, h3, h4, h5⟩ | q) S5
      · cases r with
        | cons y r => cases e
        | nil =>
          simp only [qs, List.append_nil] at h1 h2
          have hq := qs_final (n := m) (b := b) (a := a) (k := nd a m) hb hd
          rw [← h1, ← h2] at hq
          obtain ⟨hq1, hq2⟩ := hq
          dsimp only at S5
          have hul : u.length ≤ 60 := by simp at h5; (clear ha hb hb2 hm hbl hbu hm0 hd hc hpm h3 h2 hq1 hq2; omega)
          refine sx_reverse S5 rm (by simp; (clear ha hb hb2 hm hbl hbu hm0 hd hk hc hpm h3 h2 h5 hq1 hq2; omega)) (fun s6 S6 => ?_)
          refine sx_assign (d := .int (a / b : Nat)) S6 rm ((ev_fn p (d2i_ok p hd1 hd2 V.blen (l := u.reverse) (m := m) hm0 (by (clear ha hb hb2 hbu hd hk hc hpm h3 h2 h5 hq1 hq2 hul; omega)) ?_ ?_) (evl_cons ((ev_name rfl).congr ?_) (evl_cons (ev_name rfl) evl_nil))).congr ?_) (.inl rfl) (fun s7 S7 => ?_) (hn := ownNe (x := "q_digits") (by decide))
          · rw [List.length_reverse]; exact hul
          · rw [hq1]; exact Nat.lt_of_le_of_lt (Nat.div_le_self a b) (by (clear hb hb2 hm hbl hbu hm0 hd hk hc hpm h3 h2 h5 hq1 hq2 hul; omega))
          · rw [← List.map_reverse]
          · rw [hq1]
          refine sx_return (d := .tup [.int (a / b : Nat), .int (a % b : Nat)]) S7 rm ((ev_tup (evl_cons (ev_name rfl) (evl_cons (ev_name rfl) evl_nil))).congr ?_) fun v s' st r => ⟨v, rfl, st, r⟩
          rw [hq2]
      · exact q.elim
    · exact fun r v s' q => q.elim
theorem binds_idm : Binds (B0 10) ["a", "b"] := by
  intro fd h1 h2 h3 vs hl
  obtain ⟨x, q, pr, b, sc, g, c, d, k, _⟩ := fd
  simp only at h1 h2 h3
  subst h1 h2 h3
  obtain ⟨u, v, rfl⟩ := len2 hl
  rfl
theorem idm_ok (p : PrmOK P) (V : DivP P) {a b : Nat} (ha : a < 2 ^ 24) (hb : 0 < b) (hb2 : b < 2 ^ 24) : Ok P "int_divmod" 140 [.int a, .int b] (.tup [.int (a / b : Nat), .int (a % b : Nat)]) :=
  V.idm.ok p ⟨rfl, by decide, by rfl, ⟨rfl, rfl, rfl⟩, by decide⟩ binds_idm rfl fun fd X Z env A s S0 rm _ _ => by
    refine sx_if (b := false) (SS.start S0) rm ((tr_cmp (ev_name rfl) ev_int cmp_eq).congr (beq_eq_false_iff_ne.mpr (by (clear ha; omega)))) (fun h => (nomatch h)) (fun _ s1 S1 => ?_)
    refine sx_if (b := false) S1 rm ((tr_cmp (ev_name rfl) ev_int cmp_lt).congr (decide_eq_false (by (clear ha; omega)))) (fun h => (nomatch h)) (fun _ s2 S2 => ?_)
    refine sx_if (b := false) S2 rm ((tr_cmp (ev_name rfl) ev_int cmp_lt).congr (decide_eq_false (by (clear hb hb2; omega)))) (fun h => (nomatch h)) (fun _ s3 S3 => ?_)
    exact sx_return S3 rm (ev_fn p (dpos_ok p V ha hb hb2) (evl_cons (ev_name rfl) (evl_cons (ev_name rfl) evl_nil))) fun v s' st r => ⟨v, rfl, st, r⟩
end
end Mine
end
section
open PySem PySem.W PySem.Calls PyProof.Rows
set_option Elab.async false
set_option maxRecDepth 100000
set_option linter.unusedVariables false
namespace Mine
section
variable {P : Prm} {X X' Y Z X₀ Z₀ W : ASet} {env : Env} {sc scope : Scope} {ρ ρ' ρc : Rho} {s s' s₀ : Shared} {A : Around} {n m : Nat} {h h' : Heap} {t : Tab} {f : Addr} {fd : FuncData}
noncomputable abbrev gB : Stmt := B0 14
noncomputable abbrev gFor : Stmt := (defBody gB).getD 1 default
noncomputable def forBody : Stmt → List Stmt
  | .For _ _ b _ _ => b
  | _ => []
/-- what the generator hands out, n at most -/
noncomputable def told : Nat → Option Int → List Int → List Int
  | 0, _, _ => []
  | _ + 1, _, [] => []
  | n + 1, last, x :: r => if x = 127 then [] else if x = 0 then (match last with | some l => List.replicate (n + 1) l | none => []) else x :: told n (some x) r
noncomputable def tOK : Option Int → List Int → Bool
  | _, [] => true
  | last, x :: r => if x = 127 then true else if x = 0 then last.isSome else tOK (some x) r
noncomputable def Iters (N₀ : Addr) (h : Heap) : ASet := fun b => N₀ ≤ b ∧ ∃ ax i, h.IsListIter b ax i
noncomputable def GOwn (L N₀ : Addr) (h : Heap) : ASet := fun b => b = L ∨ Iters N₀ h b
noncomputable def GY (P : Prm) (Z : ASet) (L N₀ : Addr) (rem : Nat → List Int) : Protocol := fun k s₀ v s₁ kap =>
  ∃ x t, v = .int x t ∧ rem (k + 1) = x :: rem k ∧ Step P (GOwn L N₀ s₀.heap) s₀ s₁ ∧ (0 < k → ∀ s'', HStep P Z s₁.heap s''.heap → kap (.send .none) s'')
noncomputable def GT (P : Prm) (L N₀ : Addr) (rem : Nat → List Int) (n : Nat) (s₀ s₁ : Shared) : Prop := rem n = [] ∧ Step P (GOwn L N₀ s₀.heap) s₀ s₁
noncomputable abbrev GR (P : Prm) (L N₀ : Addr) (rem : Nat → List Int) : GenEnd := fun n s₀ r s₁ => r = .ok (.ret .none) ∧ GT P L N₀ rem n s₀ s₁
noncomputable abbrev Zg (L I : Addr) : ASet := fun b => b = L ∨ b = I

structure GenSt (P : Prm) (Z Xg : ASet) (L I N₀ ax : Addr) (items : Array Value) (env : Env) (ρ : Rho) (ds : List D) (s₀ s : Shared) : Prop where
  a : Sta P (Zg L I) s₀ Xg env (defScope gB) ρ s
  j : JList Xg I ax items ds s
  hO : ∀ s₁, Step P (Zg L I) s₀ s₁ → Step P (GOwn L N₀ s₀.heap) s₀ s₁
  zx : ∀ b, Z b → Xg b
  zn : ∀ b, Z b → b ≠ L ∧ b ≠ I
  n0 : N₀ ≤ I
  el : env.locals = L
  ec : env.cells = []
  il : I ≠ L

theorem hstep_iter {I ax : Addr} {i : Nat} (hi : h.IsListIter I ax i) (st : HStep P Z h h') (hz : ¬ Z I) : h'.IsListIter I ax i := by
  obtain ⟨o, ho, hc, hd⟩ := hi
  exact ⟨o, st.keep _ _ hz (nt_cls hc) ho, hc, hd⟩
theorem GenSt.again {Xg : ASet} {L I N₀ ax : Addr} {items : Array Value} {ds : List D} {s'' : Shared} (g : GenSt P Z Xg L I N₀ ax items env ρ ds s₀ s) (st : HStep P Z s.heap s''.heap) : GenSt P Z Xg L I N₀ ax items env ρ ds s'' s'' := by
  have hl : ¬ Z L := fun z => (g.zn _ z).1 rfl
  have hi : ¬ Z I := fun z => (g.zn _ z).2 rfl
  obtain ⟨i, hit, hls, hx, hne, hr⟩ := g.j
  have ag : Agree Xg s.heap s''.heap := st.keep.weak g.zx
  refine ⟨⟨g.a.e.stepH st g.zx fun b z q => ?_, .refl, g.a.zl, g.a.zc, g.a.zx, g.a.apart, g.a.own⟩, ⟨i, hstep_iter hit st hi, isList_agree ag hx hls, hx, hne, hr.mono ag fun _ y => y⟩, fun s₁ st1 => st1.weak fun b q => ?_, g.zx, g.zn, g.n0, g.el, g.ec, g.il⟩
  · rcases q with q | ⟨m, hm⟩
    · rw [g.el] at q; exact (g.zn b z).1 q
    · rw [g.ec] at hm; cases hm
  · rcases q with q | q
    · exact .inl q
    · subst q; exact .inr ⟨g.n0, ax, i, hstep_iter hit st hi⟩
theorem GenSt.step {Xg : ASet} {L I N₀ ax : Addr} {items : Array Value} {ds : List D} (g : GenSt P Z Xg L I N₀ ax items env ρ ds s₀ s) (st : Step P E0 s s') : GenSt P Z Xg L I N₀ ax items env ρ ds s₀ s' := by
  obtain ⟨i, hit, hls, hx, hne, hr⟩ := g.j
  have ag : Agree Xg s.heap s'.heap := st.heap.keep.weak fun b y => y.elim
  exact ⟨g.a.step st, ⟨i, hstep_iter hit st.heap fun y => y, isList_agree ag hx hls, hx, hne, hr.mono ag fun _ y => y⟩, g.hO, g.zx, g.zn, g.n0, g.el, g.ec, g.il⟩
theorem GenSt.own {Xg : ASet} {L I N₀ ax : Addr} {items : Array Value} {ds : List D} (g : GenSt P Z Xg L I N₀ ax items env ρ ds s₀ s) : Step P (GOwn L N₀ s₀.heap) s₀ s := g.hO s g.a.st

theorem cmp_is_none {a : Int} : Cmp2 P n .Is (.int a) .none false := fun X A s u v at' rm ra rb => by
  obtain ⟨t, rfl⟩ := int_rd ra
  simp only [Rd] at rb
  subst rb
  exact wpAny_pure (M := model P.prog P.w) ⟨.refl, rfl⟩
noncomputable def ifBody : Stmt → List Stmt
  | .If _ b _ _ => b
  | _ => []
noncomputable def whTest : Stmt → Expr
  | .While t _ _ _ => t
  | _ => default
noncomputable def whBody : Stmt → List Stmt
  | .While _ b _ _ => b
  | _ => []
noncomputable def forTgt : Stmt → Expr
  | .For t _ _ _ _ => t
  | _ => default
noncomputable abbrev gWhile : Stmt := (ifBody ((forBody gFor).getD 1 default)).getD 1 default
noncomputable abbrev cW (env : Env) : Code := .whileLoop (whTest gWhile) (whBody gWhile) [] env
noncomputable abbrev cL (env : Env) (I : Addr) : Code := .forLoop (forTgt gFor) (.ref I) (forBody gFor) [] env
noncomputable abbrev dl : Option Int → D
  | none => .none
  | some l => .int l

theorem gen_forever {Xg : ASet} {L I N₀ ax : Addr} {items : Array Value} {rem : Nat → List Int} {l : Int} {b : List Stmt} {k k' : Result → Sem Fin} {p p' : Pos} {ll ll' : List Value} {ds : List D} (rm : Room A (n + 4))
    (hgen : env.scope.isCoroutine = false) (hint : interactive env = false) :
    ∀ (m : Nat) (s₀ s : Shared), (∀ j ≤ m + 1, rem j = List.replicate j l) → GenSt P Z Xg L I N₀ ax items env [("last_interval", .int l)] ds s₀ s →
      Seg (model P.prog P.w) A.in1 (GR P L N₀ rem) (GY P Z L N₀ rem) (m + 1) s₀ (cW env) ((model P.prog P.w).den (cW env)) [.ret k' none false ll' (cL env I) p' [], .ret k none false ll (.func b env) p []] s := by
  intro m
  induction m with
  | zero =>
    intro s₀ s hr g
    refine sg_whileLoop (tr_of (b := true) ((tr_val ev_bool truth_bool)) g.a.e (room_ov2 rm) fun s1 st1 e1 => ⟨rfl, fun H => ?_⟩)
    have g1 := g.step st1
    refine seg_execs_cons (seg_Expr_Yield rfl rfl rfl (ev_of (ev_name rfl) g1.a.e (room_ov2 rm) fun v s2 st2 e2 r2 kap hk => ?_) hgen hint)
    obtain ⟨t, rfl⟩ := int_rd r2
    exact ⟨l, t, rfl, by rw [hr 1 (by omega), hr 0 (by omega)]; rfl, (g1.step st2).own, fun h => absurd h (by omega)⟩
  | succ m ih =>
    intro s₀ s hr g
    refine sg_whileLoop (tr_of (b := true) ((tr_val ev_bool truth_bool)) g.a.e (room_ov2 rm) fun s1 st1 e1 => ⟨rfl, fun H => ?_⟩)
    have g1 := g.step st1
    refine seg_execs_cons (seg_Expr_Yield rfl rfl rfl (ev_of (ev_name rfl) g1.a.e (room_ov2 rm) fun v s2 st2 e2 r2 kap hk => ?_) hgen hint)
    obtain ⟨t, rfl⟩ := int_rd r2
    have g2 := g1.step st2
    refine ⟨l, t, rfl, by rw [hr (m + 1 + 1) (by omega), hr (m + 1) (by omega)]; rfl, g2.own, fun _ s'' st => hk .none s'' ?_⟩
    exact seg_again rfl (ih s'' s'' (fun j hj => hr j (by omega)) (g2.again st))
theorem GenSt.put {Xg : ASet} {L I N₀ ax : Addr} {items : Array Value} {ds : List D} (g : GenSt P Z Xg L I N₀ ax items env ρ ds s₀ s) (st : Step P (Seat env) s s') (a : Sta P (Zg L I) s₀ Xg env (defScope gB) ρ' s') : GenSt P Z Xg L I N₀ ax items env ρ' ds s₀ s' := by
  obtain ⟨i, hit, hls, hx, hne, hr⟩ := g.j
  have sx : ∀ b, Seat env b → b = L := fun b q => by
    rcases q with q | ⟨m, hm⟩
    · rw [g.el] at q; exact q
    · rw [g.ec] at hm; cases hm
  have ag : Agree Xg s.heap s'.heap := st.heap.keep.weak fun b q => by
    rw [sx b q, ← g.el]; exact g.a.e.xl
  exact ⟨a, ⟨i, hstep_iter hit st.heap fun q => g.il (sx _ q), isList_agree ag hx hls, hx, hne, hr.mono ag fun _ y => y⟩, g.hO, g.zx, g.zn, g.n0, g.el, g.ec, g.il⟩
theorem GenSt.sub {Xg : ASet} {L I N₀ ax : Addr} {items : Array Value} {ds : List D} (g : GenSt P Z Xg L I N₀ ax items env ρ ds s₀ s) (hs : ∀ p ∈ ρ', ρ.lookup p.1 = some p.2) : GenSt P Z Xg L I N₀ ax items env ρ' ds s₀ s :=
  ⟨g.a.sub hs, g.j, g.hO, g.zx, g.zn, g.n0, g.el, g.ec, g.il⟩
/-- the walked list's place moves on -/
theorem GenSt.next {Xg : ASet} {L I N₀ ax : Addr} {items : Array Value} {ds ds' : List D} (g : GenSt P Z Xg L I N₀ ax items env ρ ds s₀ s) (st : Step P (fun b => b = I) s s') (j : JList Xg I ax items ds' s') : GenSt P Z Xg L I N₀ ax items env ρ ds' s₀ s' :=
  ⟨⟨g.a.e.stepY st (fun b q => g.a.zx b (.inr q)) (fun b q y => by
      rcases y with y | ⟨m, hm⟩
      · rw [g.el] at y; exact g.il ((show b = I from q) ▸ y)
      · rw [g.ec] at hm; cases hm), g.a.st.trans (st.weak fun b q => .inr q), g.a.zl, g.a.zc, g.a.zx, g.a.apart, g.a.own⟩, j, g.hO, g.zx, g.zn, g.n0, g.el, g.ec, g.il⟩

theorem gen_loop {Xg : ASet} {L I N₀ ax : Addr} {items : Array Value} {rem : Nat → List Int} {b : List Stmt} {k : Result → Sem Fin} {p : Pos} {ll : List Value} {tm : Tok} (pk : PrmOK P) (gm : P.mg "CHAR_MAX" = some (.int 127 tm)) (rm : Room A (n + 4))
    (hgen : env.scope.isCoroutine = false) (hint : interactive env = false) (hk1 : k (.ok .next) = .pure (.done (.ret .none))) (hk2 : k (.ok (.ret .none)) = .pure (.done (.ret .none))) :
    ∀ (r : List Int) (last : Option Int) (m : Nat) (s₀ s : Shared), tOK last r = true → (∀ j ≤ m + 1, rem j = (told (m + 1) last r).drop (m + 1 - j)) → GenSt P Z Xg L I N₀ ax items env [("last_interval", dl last)] (r.map .int) s₀ s →
      Seg (model P.prog P.w) A.in1 (GR P L N₀ rem) (GY P Z L N₀ rem) (m + 1) s₀ (cL env I) ((model P.prog P.w).den (cL env I)) [.ret k none false ll (.func b env) p []] s := by
  intro r
  induction r with
  | nil =>
    intro last m s₀ s _ hr g
    have It := iter_list (P := P) (tgt := forTgt gFor) (X := Xg) (I := I) (ax := ax) (items := items) rfl (g.a.zx I (.inr rfl))
    refine sg_forLoop (wpAny_mono (It.stop _ s rm.1 g.a.e.at' g.j) (fun r s1 ⟨e, st1⟩ => ?_) fun _ _ x => x)
    subst e
    refine sg_forEnd ?_
    rw [hk1]
    exact seg_end (.ok (.ret .none)) ⟨rfl, by rw [hr (m + 1) (Nat.le_refl _)]; simp [told], g.hO s1 (g.a.st.trans (st1.weak fun b q => .inr q))⟩
  | cons x r ih =>
    intro last m s₀ s hok hr g
    have It := iter_list (P := P) (tgt := forTgt gFor) (X := Xg) (I := I) (ax := ax) (items := items) rfl (g.a.zx I (.inr rfl))
    refine sg_forLoop (wpAny_mono (It.next _ s (.int x) (r.map .int) rm.1 g.a.e.at' g.j) (fun r' s1 ⟨v, e, h1⟩ => ?_) fun _ _ x => x)
    subst e
    refine wpAny_mono h1 (fun _ s2 ⟨st2, r2, j2⟩ => ?_) fun _ _ x => x
    have g2 := g.next st2 j2
    refine wpAny_assign_Name (g2.a.store (.inl rfl) r2 fun s3 st3 a3 H => ?_)
    have g3 := g2.put st3 a3
    have rm' := room_ov1 (env := env) (b := b) (tgt := forTgt gFor) (it := .ref I) (body := forBody gFor) (orelse := []) (k := k) (g := false) (l := ll) (p := p) rm
    refine seg_execs_cons (sg_if (tr_of (b := decide (x = 127)) ((tr_cmp (ev_name rfl) (ev_gint pk gm) cmp_eq).congr rfl) g3.a.e rm' fun s4 st4 e4 => ?_))
    have g4 := g3.step st4
    by_cases hx : x = 127
    · subst hx
      rw [if_pos (by rfl)]
      refine seg_execs_cons (sg_stmt (wpAny_Return_none ?_))
      refine sg_forRet ?_
      rw [hk2]
      exact seg_end (.ok (.ret .none)) ⟨rfl, by rw [hr (m + 1) (Nat.le_refl _)]; simp [told], g4.own⟩
    · rw [decide_eq_false hx, if_neg (by decide)]
      refine seg_execs_nil ?_
      refine seg_execs_cons (sg_if (tr_of (b := decide (x = 0)) ((tr_cmp (ev_name rfl) ev_int cmp_eq).congr rfl) g4.a.e rm' fun s5 st5 e5 => ?_))
      have g5 := g4.step st5
      by_cases h0 : x = 0
      · subst h0
        rw [if_pos (by rfl)]
        cases last with
        | none => simp [tOK] at hok
        | some l =>
          refine seg_execs_cons (sg_if (tr_of (b := false) (tr_cmp (ev_name rfl) ev_none cmp_is_none) g5.a.e rm' fun s6 st6 e6 => ?_))
          have g6 := (g5.step st6).sub (ρ' := [("last_interval", .int l)]) (subs_cons rfl (subs_nil))
          rw [if_neg (by decide)]
          refine seg_execs_nil ?_
          refine seg_execs_cons (sg_while fun kW p' hkW => ?_)
          refine gen_forever rm hgen hint m s₀ s6 (fun j hj => ?_) g6
          rw [hr j hj]
          simp only [told, if_neg hx, if_true, List.drop_replicate]
          congr 1; (clear hx; omega)
      · rw [decide_eq_false h0, if_neg (by decide)]
        refine seg_execs_nil ?_
        have e1 : told (m + 1) last (x :: r) = x :: told m (some x) r := by simp only [told, if_neg hx, if_neg h0]
        have hok' : tOK (some x) r = true := by simpa only [tOK, if_neg hx, if_neg h0] using hok
        refine seg_execs_cons (seg_Expr_Yield rfl rfl rfl (ev_of (ev_name rfl) g5.a.e rm' fun v s6 st6 e6 r6 kap hk => ?_) hgen hint)
        obtain ⟨t, rfl⟩ := int_rd r6
        have g6 := g5.step st6
        refine ⟨x, t, rfl, ?_, g6.own, fun hm s'' st => hk .none s'' ?_⟩
        · rw [hr (m + 1) (Nat.le_refl _), hr m (by (clear hx h0; omega)), e1]
          simp [show m + 1 - m = 1 from by (clear hx h0; omega)]
        · obtain ⟨m', rfl⟩ : ∃ m', m = m' + 1 := ⟨m - 1, by (clear hx h0; omega)⟩
          have g7 := g6.again st
          refine seg_execs_cons (sg_stmt (st_assign g7.a rm' (ev_name rfl) (.inl rfl) (fun s8 st8 a8 => ?_)))
          have g8 := (g7.put st8 a8).sub (ρ' := [("last_interval", dl (some x))]) (subs_cons rfl (subs_nil))
          refine seg_again rfl (ih (some x) m' s'' s8 hok' (fun j hj => ?_) g8)
          rw [hr j (by (clear hx h0 hm; omega)), e1, show m' + 1 + 1 - j = (m' + 1 - j) + 1 from by (clear hx h0 hm; omega), List.drop_succ_cons]
theorem gen_start {X₁ : ASet} {L N₀ : Addr} {rem : Nat → List Int} {tm : Tok} (pk : PrmOK P) (gm : P.mg "CHAR_MAX" = some (.int 127 tm)) (rm : Room A (n + 4)) (hco : env.scope.isCoroutine = false) (hint : interactive env = false)
    {r : List Int} {m : Nat} (hok : tOK none r = true) (hr : ∀ j ≤ m + 1, rem j = (told (m + 1) none r).drop (m + 1 - j))
    (a : Sta P (One L) s X₁ env (defScope gB) [("grouping", Zs r)] s) (hN : N₀ ≤ s.heap.objs.size) (hz : ∀ b, Z b → X₁ b) (hzL : ∀ b, Z b → b ≠ L) (hL : env.locals = L) (hC : env.cells = []) :
    Seg (model P.prog P.w) A.in1 (GR P L N₀ rem) (GY P Z L N₀ rem) (m + 1) s (.func (defBody gB) env) ((model P.prog P.w).den (.func (defBody gB) env)) [] s := by
  refine sg_func fun H => seg_execs_cons (sg_stmt (st_assign a (room_ov0 (n := n) rm) ev_none (.inl rfl) (fun s1 st1 a1 => ?_)))
  refine seg_execs_cons (sg_for (fun _ => rfl) (ev_of (ev_name rfl) a1.e (room_ov0 (n := n) rm) fun v s2 st2 e2 r2 => ?_))
  obtain ⟨ax, vs, rfl, hx, hl, hr2⟩ := list_rd r2
  have hlt := lt_of_isList hl
  have a2 := a1.step st2
  refine wpAny_pyIter_list hl fun k p hk => ?_
  have hI : s.heap.objs.size ≤ s2.heap.objs.size := (a2.st.heap.size)
  have st3 : Step P E0 s2 { s2 with heap := s2.heap.push { cls := .type "list_iterator", data := .fields #[.ref ax, rawInt 0] } } := step_push
  have e3 := a2.e.grow (Y := One s2.heap.objs.size) st3 (fun b y => Nat.le_of_eq (show b = _ from y).symm) (a2.e.at'.more (a2.e.at'.step (HStep.push (Y := E0) _)) (Nat.le_refl _) (Heap.get?_push_size _ rfl) (nc_cls rfl))
  refine gen_loop (Xg := Un X₁ (One s2.heap.objs.size)) (I := s2.heap.objs.size) (ax := ax) (items := vs) pk gm rm hco hint ?_ ?_ r none m s _ hok hr ?_
  · rw [hk]; rfl
  · rw [hk]
  · refine ⟨⟨e3.sub ?_, (a2.st.trans st3.any).weak fun b q => .inl q, .inl hL, fun x c h1 h2 => (by rw [hC] at h2; cases h2), fun b q => q.elim (fun q => .inl (a.zx b q)) .inr, a.apart, a.own⟩, ⟨0, ⟨_, Heap.get?_push_size _ rfl, rfl, rfl⟩, isList_agree new_agree hx hl, fun y => y.elim hx fun y => Nat.ne_of_lt hlt y, Nat.ne_of_gt hlt, ?_⟩,
      fun s₁ st => ⟨⟨fun q o' z hn e => st.heap.keep q o' (fun y => y.elim (fun y => z (.inl y)) fun y => Nat.lt_irrefl _ (Nat.lt_of_lt_of_le (Heap.lt_size e) (by rw [show q = s2.heap.objs.size from y]; exact hI))) hn e, st.heap.low, st.heap.tab, st.heap.size⟩, st.os, st.gens, st.bare⟩,
      fun b z => .inl (hz b z), fun b z => ⟨hzL b z, fun q => Nat.lt_irrefl _ (Nat.lt_of_lt_of_le (a.e.at'.below b (hz b z)) (q ▸ hI))⟩, Nat.le_trans hN hI, hL, hC, fun q => ?_⟩
    · exact subs_cons rfl (subs_nil)
    · simp only [List.drop_zero]
      exact (hr2.fresh (Y := One s2.heap.objs.size) fun b y => Nat.le_of_eq (show b = _ from y).symm).mono new_agree fun _ y => y
    · have := a2.e.at'.below _ a2.e.xl
      rw [hL, ← q] at this
      exact Nat.lt_irrefl _ this
end
end Mine
end
section
open PySem PySem.W PySem.Calls PyProof.Rows
set_option Elab.async false
set_option maxRecDepth 100000
set_option linter.unusedVariables false
namespace Mine
section
variable {P : Prm} {X X' Y Z X₀ Z₀ W : ASet} {env : Env} {sc scope : Scope} {ρ ρ' ρc : Rho} {s s' s₀ : Shared} {A : Around} {n m : Nat} {h h' : Heap} {t : Tab} {f : Addr} {fd : FuncData}
noncomputable abbrev tB : Stmt := B0 16
noncomputable abbrev tFor : Stmt := (defBody tB).getD 1 default
noncomputable abbrev cT (env : Env) (a : Addr) : Code := .forLoop (forTgt tFor) (.ref a) (forBody tFor) [] env

theorem told_loop {a L N₀ c : Addr} {g most : Nat} {rem : Nat → List Int} {res : List Int} {E : Value → Shared → Prop} {Q : Flow → Shared → Prop} (p : PrmOK P) (bl : Boot P "len") (rm : Room A (n + 4)) (hrem0 : rem 0 = [])
    (hZ : ∀ b, Z b → b < L) (hS : ∀ b, Seat env b → b < L) (hLN : L < N₀) (h0L : s₀.heap.objs.size ≤ L) (hG : ∀ b, N₀ ≤ b → P.G.get? b = none) (hg0 : s₀.gens.size ≤ g) (hL : L < a) (hmost : most ≤ 1000)
    (cont : ∀ X' ρ' s', SS P X₀ Z₀ s₀ Z X' env (defScope tB) (("row", .ptr c) :: ρ') (some ("row", c, res)) s' → Q .next s') :
    ∀ (k : Nat) (ns : List Int) (X : ASet) (s : Shared) (gs : GenState), 1 ≤ k → ns.length + k = most → ns ++ rem k = res → SS P X₀ Z₀ s₀ Z X env (defScope tB) [("row", .ptr c), ("most", .int (most : Nat))] (some ("row", c, ns)) s →
      X L → s.heap.IsGen a g → s.gens[g]? = some gs → (∀ s'', s''.heap = s.heap → gs.Goes (model P.prog P.w) A.in1 (GR P L N₀ rem) (GY P Z L N₀ rem) k (.send .none) s'') →
      codeAny (model P.prog P.w) A (cT env a) (fun r s' => match r with | .ok f => Q f s' | .error e => cameBackBy (model P.prog P.w) A env E e s') s := by
  intro k
  induction k with
  | zero => intro _ _ _ _ h; (clear hLN h0L hg0 hL hmost; omega)
  | succ k ih =>
    intro ns X s gs _ hlen hres S hXL hgen hgs hgo
    have rm0 : Room A n := room_le rm (by (clear hLN h0L hg0 hL hmost hlen; omega))
    have hgo' := fun b (q : GOwn L N₀ s.heap b) => (show L ≤ b from q.elim (fun q => Nat.le_of_eq q.symm) fun q => Nat.le_trans (Nat.le_of_lt hLN) q.1)
    have W1 : IterAll s.heap (Iters N₀ s.heap) := fun b ⟨_, ax, i, o, ho, hc, hd⟩ => ⟨o, ho, hc, _, hd⟩
    have Sw := S.widen W1 fun b q => hG b q.1
    have hO : ∀ b, GOwn L N₀ s.heap b → Un X (Iters N₀ s.heap) b := fun b q => q.elim (fun q => .inl (q ▸ hXL)) .inr
    have nO : ∀ b, Z b → ¬ GOwn L N₀ s.heap b := fun b z q => Nat.lt_irrefl _ (Nat.lt_of_lt_of_le (hZ b z) (hgo' b q))
    have na : ¬ GOwn L N₀ s.heap a := fun q => by
      obtain ⟨o, nm, qn, ho, hc, hd, hsl⟩ := hgen
      rcases q with q | ⟨_, ax, i, o', ho', hc', _⟩
      · exact Nat.ne_of_gt hL q
      · rw [ho] at ho'; cases ho'; rw [hc] at hc'; simp at hc'
    have gk : ∀ (s₁ : Shared) (y : GenState), Step P (GOwn L N₀ s.heap) (s.setGen g .running) s₁ → y.bare = true → (∀ (i : Nat) (x : GenState), s₀.gens[i]? = some x → (s₁.setGen g y).gens[i]? = some x) ∧ (AllBare s₀.gens → AllBare (s₁.setGen g y).gens) := fun s₁ y st hy => by
      have h1 : s₁.gens[g]? = some .running := st.gens g .running (setGen_self hgs)
      refine ⟨fun i x e => ?_, fun e => ?_⟩
      · have hi : i < s₀.gens.size := (Array.getElem?_eq_some_iff.mp e).1
        have hne : i ≠ g := by (clear hLN h0L hL hmost hlen na; omega)
        exact setGen_get hne (st.gens i x (setGen_get hne (S.a.st.gens i x e)))
      · exact setGen_bare h1 hy (st.bare (setGen_bare hgs rfl (S.a.st.bare e)))
    refine codeAny_of_tree ?_
    show wpAny _ A ((forTurn (forTgt tFor) (.ref a) (forBody tFor) [] env).onRaise (fun x => do noteFrame x env; theTreesLotGoes x)) _ _ s
    refine wpAny_noted (wp_E0 ?_)
    unfold forTurn
    refine wpAny_bind (wpAny_standAt (wpAny_bind (wpAny_onRaise (next_gen rm.1 (S.a.e.at'.nolimit p) (room_depth rm) hgen hgs (hgo _ rfl) (fun v s₁ gs' hb hy => ?_) (fun s₁ hp h' hsz hk => ?_)))))
    · obtain ⟨x, t, rfl, hrem, st1, hkap⟩ := hy
      rw [Nat.add_sub_cancel] at hrem hkap
      obtain ⟨g1, g2⟩ := gk s₁ gs' st1 hb
      have S5 := Sw.resume (s' := s₁.setGen g gs') st1.heap hO (fun b q z => nO b z q) (fun b q => Nat.le_trans h0L (hgo' b q)) (fun b q y => Nat.lt_irrefl _ (Nat.lt_of_lt_of_le (hS b y) (hgo' b q))) st1.os g1 g2
      have hgs5 : (s₁.setGen g gs').gens[g]? = some gs' := setGen_self (st1.gens g .running (setGen_self hgs))
      show wpAny _ A (letOwnedTupleGo _ _ _ >>= _) _ _ _
      rw [letGo_name rfl]
      refine wpAny_bind (wpAny_pure (wpAny_bind ?_))
      refine sx_tgt S5.root rd_int (.inl rfl) (fun s6 S6 => ?_) (ownNe (x := "row") (by decide))
      refine wpAny_bind (wpAny_mono (Q := fun (f : Flow) s7 => ((f = .brk ∧ k = 0) ∨ (f = .next ∧ k ≠ 0)) ∧ ∃ ρ', SS P (Un X (Iters N₀ s.heap)) Z (s₁.setGen g gs') Z (Un X (Iters N₀ s.heap)) env (defScope tB) (("row", .ptr c) :: ("most", .int (most : Nat)) :: ρ') (some ("row", c, ns ++ [x])) s7) (E := F0) ?_ (fun f s7 ⟨hf, ρ', S7⟩ => ?_) fun _ _ y => y)
      · refine sx_append S6 rm0 (by (clear hLN h0L hg0 hL na; omega)) (ev_name rfl) (fun s7 S7 => ?_)
        refine sx_if (b := decide (k = 0)) S7 rm0 ((tr_cmp (ev_boot p bl rfl (evl_cons (ev_name rfl) evl_nil) (call_lenL (by simp; (clear hLN h0L hg0 hL na; omega)))) (ev_name rfl) cmp_eq).congr ?_) (fun hb s8 S8 => ?_) (fun hb s8 S8 => ?_)
        · simp only [List.length_map, List.length_append, List.length_singleton]
          by_cases hk : k = 0
          · rw [decide_eq_true hk]; exact beq_iff_eq.mpr (by (clear hLN h0L hg0 hL hmost na; omega))
          · rw [decide_eq_false hk]; exact beq_eq_false_iff_ne.mpr (by (clear hLN h0L hg0 hL hmost na; omega))
        · refine sx_break ⟨.inl ⟨rfl, of_decide_eq_true hb⟩, [], S8.sub ?_ ?_⟩
          · exact subs_cons rfl (subs_cons rfl (subs_nil))
          · exact own_some rfl
        · refine wpAny_execs_nil (wpAny_execs_nil ⟨.inr ⟨rfl, of_decide_eq_false hb⟩, [], S8.sub ?_ ?_⟩)
          · exact subs_cons rfl (subs_cons rfl (subs_nil))
          · exact own_some rfl
      · have S7' := S5.back S7
        rcases hf with ⟨rfl, hk0⟩ | ⟨rfl, hk0⟩
        · subst hk0
          have e : ns ++ [x] = res := by rw [← hres, hrem, hrem0]
          rw [e] at S7'
          exact wpAny_pure (cont _ _ s7 S7')
        · obtain ⟨k', rfl⟩ : ∃ k', k = k' + 1 := ⟨k - 1, by (clear hLN h0L hg0 hL hmost hlen na; omega)⟩
          have st57 := S7.a.st
          refine wpAny_pure ⟨rfl, ih (ns ++ [x]) _ s7 gs' (by (clear hLN h0L hg0 hL hmost na hlen hk0; omega)) (by simp; (clear hLN h0L hg0 hL hmost na hk0; omega)) ?_ (S7'.sub ?_ ?_) (.inl hXL) ?_ (st57.gens g gs' hgs5) (fun s'' e => hkap (by (clear hLN h0L hg0 hL hmost na hlen hk0; omega)) s'' ?_)⟩
          · rw [← hres, hrem]; simp
          · exact subs_cons rfl (subs_cons rfl (subs_nil))
          · exact own_some rfl
          · obtain ⟨o, nm, qn, ho, hc, hd⟩ := hgen
            exact ⟨o, nm, qn, st57.heap.keep _ _ (fun z => Nat.lt_irrefl _ (Nat.lt_trans (hZ _ z) hL)) (nt_cls hc) (st1.heap.keep _ _ na (nt_cls hc) ho), hc, hd⟩
          · rw [e]; exact st57.heap
    · obtain ⟨hr0, st1⟩ := hp
      obtain ⟨g1, g2⟩ := gk s₁ .finished st1 rfl
      refine wpAny_pure ⟨rfl, codeAny_block (wpAny_execs_nil (cont (Un X (Iters N₀ s.heap)) [("most", .int (most : Nat))] _ ?_))⟩
      rw [hr0, List.append_nil] at hres
      subst hres
      exact Sw.resume (s' := { s₁.setGen g .finished with heap := h' }) (st1.heap.trans (.of_keeps hk hsz)) hO (fun b q z => nO b z q) (fun b q => Nat.le_trans h0L (hgo' b q)) (fun b q y => Nat.lt_irrefl _ (Nat.lt_of_lt_of_le (hS b y) (hgo' b q))) st1.os g1 g2
theorem binds_told : Binds (B0 16) ["ruler", "most"] := by
  intro fd h1 h2 h3 vs hl
  obtain ⟨x, q, pr, b, sc, g, c, d, k, _⟩ := fd
  simp only at h1 h2 h3
  subst h1 h2 h3
  obtain ⟨u, v, rfl⟩ := len2 hl
  rfl
theorem binds_group (h1 : fd.params = defParams gB) (h2 : fd.defaults = .none) (h3 : fd.kwdefaults = .none) (v : Value) : bindArgs fd ⟨[v], []⟩ = pure ([("grouping", v)] : List (Str × Value)) := by
  obtain ⟨x, q, pr, b, sc, g, c, d, k, _⟩ := fd
  simp only at h1 h2 h3
  subst h1 h2 h3
  rfl
structure ToldP (P : Prm) : Prop where
  group : Def P "_grouping_intervals" (B0 14)
  told : Def P "_law_told" (B0 16)
  cmax : ∃ t, P.mg "CHAR_MAX" = some (.int 127 t)
  len : Boot P "len"
theorem told_length : ∀ (n : Nat) (l : Option Int) (r : List Int), (told n l r).length ≤ n
  | 0, _, _ => by simp [told]
  | n + 1, l, [] => by simp [told]
  | n + 1, l, x :: r => by
    simp only [told]
    split
    · simp
    · split
      · split <;> simp
      · simp; exact told_length n _ r
theorem gens_le (st : Step P Y s s') : s.gens.size ≤ s'.gens.size := by
  rcases Nat.lt_or_ge s'.gens.size s.gens.size with h | h
  · have := st.gens s'.gens.size _ (Array.getElem?_eq_getElem h)
    simp at this
  · exact h
theorem no_cell {sc : Scope} (h : (sc.names.all fun p => p.2 != .cell) = true) {x : Str} : sc.names.lookup x ≠ some .cell := fun e => by
  have := List.all_eq_true.mp h _ (mem_lookup e)
  simp at this
theorem told_go {env' : Env} {L a c : Addr} {s2 s3 : Shared} {v : Value} {r : List Int} {E : Value → Shared → Prop} {Q : Flow → Shared → Prop} (p : PrmOK P) (V : ToldP P) (rm : Room A 49)
    (S2 : SS P X₀ Z₀ s₀ Z X env (defScope tB) [("row", .ptr c), ("ruler", Zs r), ("most", .int ((m + 1 : Nat)))] (some ("row", c, [])) s2) (st : Step P E0 s2 s3) (hL : L = s2.heap.objs.size) (hLa : L < a) (ha : a < s3.heap.objs.size)
    (hok : tOK none r = true) (hm2 : m + 1 ≤ 1000) (hr : Rd X s2.heap (Zs r) v) (hns : s3.heap.Ns L (fun x => ([("grouping", v)] : List (Str × Value)).reverse.lookup x)) (hgen : s3.heap.IsGen a s2.gens.size) (hgs : s3.gens[s2.gens.size]? = some (.fresh (.func (defBody gB) env')))
    (e1 : env'.scope = defScope gB) (e2 : env'.locals = L) (e3 : env'.globals = mainGlobals) (e4 : env'.builtins = builtinsNs) (e5 : env'.cells = [])
    (cont : ∀ X' ρ' s', SS P X₀ Z₀ s₀ Z X' env (defScope tB) (("row", .ptr c) :: ρ') (some ("row", c, told (m + 1) none r)) s' → Q .next s') :
    codeAny (model P.prog P.w) A (cT env a) (fun r s' => match r with | .ok f => Q f s' | .error e => cameBackBy (model P.prog P.w) A env E e s') s3 := by
  obtain ⟨tm, gm⟩ := V.cmax
  obtain ⟨o, es, ep, ho, hd, hrest⟩ := id hns
  have aX : At P (Un X (One L)) s3.heap := S2.a.e.at'.more (S2.a.e.at'.step st.heap) (Nat.le_of_eq hL.symm) ho (nc_dict hd)
  have hfr : ∀ b, One L b → s2.heap.objs.size ≤ b := fun b q => by rw [show b = L from q, hL]; exact Nat.le_refl _
  have S3 := S2.grow (W := One L) st hfr aX
  have below : ∀ b, X b → b < L := fun b x => by rw [hL]; exact S2.a.e.at'.below b x
  have hr3 : Rd (Un X (One L)) s3.heap (Zs r) v := (hr.fresh hfr).mono (st.heap.keep.weak fun _ y => y.elim) fun _ y => y
  have hint : interactive env' = false := by unfold interactive; rw [e1]; rfl
  have hco : env'.scope.isCoroutine = false := by rw [e1]; rfl
  have envg : EnvAt P (Un X (One L)) env' (defScope gB) [("grouping", Zs r)] s3 := by
    refine ⟨aX, e1, rfl, e3, e4, .inr e2, ⟨_, (by rw [e2]; exact hns), fun x d hx hk => ?_⟩, fun x d hx hk => ?_, fun x d hx => ?_, fun n c hm => by rw [e5] at hm; cases hm⟩
    · rcases mem_lookup hx with _ | ⟨_, q⟩
      · exact ⟨v, rfl, hr3⟩
      · cases q
    · rcases mem_lookup hx with _ | ⟨_, q⟩
      · rcases hk with hk | hk <;> cases hk
      · cases q
    · rcases mem_lookup hx with _ | ⟨_, q⟩
      · exact .inl rfl
      · cases q
  refine told_loop (L := L) (N₀ := s3.heap.objs.size) (c := c) (g := s2.gens.size) (most := m + 1) (rem := fun j => (told (m + 1) none r).drop (m + 1 - j)) (res := told (m + 1) none r) (n := 45) p V.len rm ?_ (fun b z => below b (S2.a.zx b z)) (fun b q => ?_) (Nat.lt_trans hLa ha) (by rw [hL]; exact S2.a.st.heap.size)
    (fun b hb => ?_) (gens_le S2.a.st) hLa hm2 cont (m + 1) [] (Un X (One L)) s3 _ (by (clear hL hLa ha e2 e3 e4 hrest; omega)) (by simp) (by simp) (S3.sub ?_ ?_) (.inr rfl) hgen hgs (fun s'' e => ⟨rfl, ?_⟩)
  · simp only [Nat.sub_zero]
    exact List.drop_of_length_le (told_length _ _ _)
  · rcases q with rfl | ⟨n, hm⟩
    · exact below _ S2.a.e.xl
    · exact below _ (S2.a.e.xc n b hm).1
  · cases q : P.G.get? b with
    | none => rfl
    | some o' => exact absurd (Heap.lt_size (aX.low _ _ q)) (Nat.not_lt.mpr hb)
  · exact subs_cons rfl (subs_cons rfl (subs_nil))
  · exact own_some rfl
  · have a1 : Sta P (One L) s'' (Un X (One L)) env' (defScope gB) [("grouping", Zs r)] s'' :=
      ⟨envg.heapEq e, .refl, e2, fun x c h1 _ => absurd h1 (no_cell (by rfl)), fun b q => .inr q, by rw [e5]; exact .nil, fun x h1 => absurd h1 (no_cell (by rfl))⟩
    exact gen_start (n := 45) p gm rm hco hint hok (fun j hj => rfl) a1 (by rw [e]; exact Nat.le_refl _) (fun b z => .inl (S2.a.zx b z)) (fun b z => Nat.ne_of_lt (below b (S2.a.zx b z))) e2 e5
theorem told_ok (p : PrmOK P) (V : ToldP P) {r : List Int} {most : Nat} (hok : tOK none r = true) (hm : 1 ≤ most) (hm2 : most ≤ 1000) : Ok P "_law_told" 50 [Zs r, .int (most : Nat)] (Zs (told most none r)) :=
  V.told.ok p ⟨rfl, by decide, by rfl, ⟨rfl, rfl, rfl⟩, by decide⟩ binds_told rfl fun fd X Z env A s S0 rm _ _ => by
    obtain ⟨m, rfl⟩ : ∃ m, most = m + 1 := ⟨most - 1, by omega⟩
    obtain ⟨tm, gm⟩ := V.cmax
    obtain ⟨ga, gfd, hg1, hg2, F⟩ := V.group.at'
    refine sx_new (ns := []) (SS.start S0) rm evl_nil (.inl rfl) (fun c s1 hc S1 => ?_)
    refine wpAny_execs_cons (wpAny_For ?_ fun _ => rfl)
    show wpAny _ A (do callWith _ (← eval (.Name "_grouping_intervals" _) env) [] (backTo _ (starEach _ env)) []) _ _ s1
    refine wpAny_bind (eval_glo p S1.a.e (.inl hg1) (by rfl) ?_)
    refine callWith_of (P := fun h => ∃ X, At P X h) (by rfl) (fun h a => callee_looks (f := .ref ga) p hg2 h a) (evalArgs_evl (evl_cons (ev_name (d := Zs r) rfl) evl_nil) S1.a.e rm fun vs s2 st2 e2 r2 => ⟨⟨_, e2.at'⟩, ?_⟩)
    obtain ⟨v, rfl, r3⟩ := rdL_one r2
    have S2 := S1.step st2
    obtain ⟨oc, od, osl, hl⟩ := F.look
    have ho := S2.a.e.at'.kin p _ _ hl
    refine wpAny_call (codeAny_call_generator (room_depth rm) ho rfl (by rw [F.scope]; rfl) (by rw [F.scope]; rfl) F.body (codeRec_of (S2.a.e.at'.kin p) F.code) ?_)
    rw [show ({ pos := [] ++ [v] } : Args) = ⟨[v], []⟩ from rfl, binds_group F.params F.dv F.kd]
    refine wpAny_pure ?_
    refine wpAny_newFunctionEnv (by rw [F.scope]; decide) (by rw [F.scope]; intro x hx; rcases List.mem_singleton.mp hx with rfl; rfl) (fun h₀ hns hsb => ?_) (by rw [F.scope]; rfl)
    have keep0 : ∀ b o, s2.heap.get? b = some o → h₀.get? b = some o := fun b o e => hsb.extBut b o (Nat.ne_of_lt (Heap.lt_size e)) (Heap.get?_push_of_some _ e)
    refine ⟨(S2.a.e.at'.nolimit p).keeps keep0, wpAny_pyIter_gen (g := s2.gens.size) ⟨_, _, _, Heap.get?_push_size _ rfl, rfl, rfl, rfl⟩ ?_⟩
    have sz : (h₀.push { cls := .type "generator", data := .fields #[.int s2.gens.size 0, .str gfd.name (s2.toks + 1), .str gfd.qualname (s2.toks + 1 + 1)] }).objs.size = h₀.objs.size + 1 := Heap.size_push ..
    refine told_go p V rm S2 ⟨.of_keeps (fun b o e => Heap.get?_push_of_some _ (keep0 b o e)) (by show s2.heap.objs.size ≤ (h₀.push _).objs.size; rw [Heap.size_push]; exact Nat.le_of_lt (Nat.lt_succ_of_lt hns.lt)), rfl, fun i x e => ?_, fun b => b.push rfl⟩ rfl hns.lt (by show h₀.objs.size < (h₀.push _).objs.size; rw [Heap.size_push]; (clear hm hm2 hc sz; omega)) hok hm2 (v := v) r3 (hns.push _) ⟨_, _, _, Heap.get?_push_size _ rfl, rfl, rfl, rfl⟩ (Array.getElem?_push_size ..)
      F.scope rfl F.globals F.builtins F.clo (fun X' ρ' s' S => ?_)
    · show (s2.gens.push _)[i]? = some x
      obtain ⟨h1, h2⟩ := Array.getElem?_eq_some_iff.mp e
      rw [Array.getElem?_push_lt h1, h2]
    · refine sx_returnO S rm (ev_name rfl) (fun x => Nat.lt_irrefl _ (Nat.lt_of_lt_of_le (S0.e.at'.below _ x) hc)) fun v s' st r => ⟨v, rfl, st, r⟩
end
end Mine
end
section
open PySem PySem.W PySem.Calls PyProof.Rows
set_option Elab.async false
set_option maxRecDepth 100000
set_option linter.unusedVariables false
namespace Mine
noncomputable def clsBody : Stmt → List Stmt
  | .ClassDef _ _ _ b _ _ _ _ _ _ _ => b
  | _ => []
noncomputable abbrev wInit : Stmt := (clsBody (B0 2)).getD 1 default
noncomputable def ifOr : Stmt → List Stmt
  | .If _ _ o _ => o
  | _ => []
/-- what __init__ counts: runs, blanks behind, signs, tabs -/
noncomputable abbrev WsT := List Int × Nat × Nat × Nat
noncomputable def bump (c : List Int) (b : Nat) : List Int :=
  let c' := if c.length ≤ b then c ++ List.replicate (b - c.length + 1) 0 else c
  c'.set b (c'.getD b 0 + 1)
noncomputable def wsStep (t : WsT) (c : Nat) : WsT := if c = 32 then (t.1, t.2.1 + 1, t.2.2.1 + 1, t.2.2.2) else (bump t.1 t.2.1, 0, t.2.2.1 + 1, t.2.2.2 + 1)
noncomputable def wsRun (cs : List Nat) : WsT := cs.foldl wsStep ([], 0, 0, 0)
structure WsP (P : Prm) (C : Addr) : Prop where
  ck : ClsK P.K C
  at' : P.mg "Whitespace" = some (.ref C)
  keep : keepIn P.K (.ref C) = true
  makes : makesIn P.K C = true
  init : ∃ f fd, findIn P.K (.ref C) "__init__" = some (some (.ref f)) ∧ typeIn P.K (.ref f) = some (.type "function") ∧ FnObj P f wInit fd
  free : ∀ x ∈ (["raw", "n", "nt", "norm", "is_simple"] : List Str), findIn P.K (.ref C) x = some none ∧ takerIn P.K C x = some none
  reads : readsIn P.K C (.type "type") = true
  S : ∃ v t, findCls P.K (.ref C) (.type "type") "S" = some (.val v) ∧ v = .str " " t
  T : ∃ v t, findCls P.K (.ref C) (.type "type") "T" = some (.val v) ∧ v = .str "\t" t
  len : Boot P "len"
  tuple : Boot P "tuple"
section
variable {P : Prm} {X X' Y Z X₀ Z₀ W : ASet} {env : Env} {sc scope : Scope} {ρ ρ' ρc : Rho} {s s' s₀ sC : Shared} {A : Around} {n m : Nat} {h h' : Heap} {t : Tab} {f : Addr} {fd : FuncData} {C : Addr}
theorem ev_cattr {name : Str} {np pos : Pos} {y : Str} (p : PrmOK P) (V : WsP P C) (hn : ∃ v t, findCls P.K (.ref C) (.type "type") name = some (.val v) ∧ v = .str y t) (hx : sc.names.lookup (Str.ofString "Whitespace") = some .globalImplicit)
    (he : ∀ env, eval (.Attribute (.Name "Whitespace" np) name pos) env = (do
      let o ← eval (.Name "Whitespace" np) env
      standAt pos.atName
      let r ← holding [o] (getAttr o name true)
      letTemporaryGo (.Name "Whitespace" np) o r
      pure r) := by intro _; with_unfolding_all rfl) : Ev P n sc ρ (.Attribute (.Name "Whitespace" np) name pos) (.str y) := fun X env A s e rm => by
  obtain ⟨v, t, h1, rfl⟩ := hn
  refine Attribute_any_ (eval_glo p e (.inl V.at') hx ?_) (he env)
  exact cls_value (e.at'.kin p) V.reads h1 rfl ⟨step_toks, rd_str⟩
theorem bump_length {c : List Int} {b N : Nat} (hc : c.length ≤ N + 1) (hb : b ≤ N) : (bump c b).length ≤ N + 1 ∧ b < (bump c b).length := by
  unfold bump
  split <;> simp <;> omega
theorem binds_init (h1 : fd.params = defParams wInit) (h2 : fd.defaults = .none) (h3 : fd.kwdefaults = .none) : ∀ vs, vs.length = ["self", "ws"].length → bindArgs fd ⟨vs, []⟩ = pure ((["self", "ws"] : List Str).zip vs) := by
  intro vs hl
  obtain ⟨x, q, pr, b, sc, g, c, d, k, _⟩ := fd
  simp only at h1 h2 h3
  subst h1 h2 h3
  obtain ⟨u, v, rfl⟩ := len2 hl
  rfl
theorem ints_match : ∀ {vs : List Value} {ns : List Int}, IntsAre vs ns → vs.map (fun v => match v with | .int i _ => some i | _ => Option.none) = ns.map some
  | _, _, .nil => rfl
  | _, _, .cons i t r => by simp only [List.map_cons, ints_match r]
/-- the body of __init__ -/
theorem init_body {X0 : ASet} {x dx : Addr} {w : Str} (p : PrmOK P) (V : WsP P C) (hw : ∀ c ∈ w.cps.toList, c = 32 ∨ c = 9) (hlen : w.cps.toList.length ≤ 400) (rm : Room A n) (hX0 : ∀ b, X0 b → b < sC.heap.objs.size)
    (I0 : IS P sC X0 x dx C (fun _ => none) [] Z X env (defScope wInit) [("self", .ptr x), ("ws", .str w)] none s) :
    wpAny (model P.prog P.w) A (execs (defBody wInit) env) (fun fl s' => (match fl with | .ret v => v | _ => .none) = .none ∧ Step P E0 sC s' ∧ IsWs X0 s'.heap C (wsRun w.cps.toList).2.2.1 (wsRun w.cps.toList).2.2.2 (wsRun w.cps.toList).1 (wsRun w.cps.toList).2.1 x) F0 s := by
  refine is_set p V.ck I0 rm (ev_name rfl) rfl (V.free "raw" (by decide)).2 (by decide) (fun v0 s1 r0 st1 I1 => ?_)
  obtain ⟨t0, rfl⟩ := str_rd r0
  refine sx_swap I1.S rm (ev_cattr p V V.S rfl) (ev_cattr p V V.T rfl) (.inl rfl) (.inl rfl) (fun s2 S2 => ?_) ?_
  · refine sx_new (ns := []) S2 rm evl_nil (.inl rfl) (fun c s3 hc S3 => ?_)
    refine sx_three S3 rm (d := .int 0) ev_int rfl (.inl rfl) (.inl rfl) (.inl rfl) (ownNe (x := "count") (by decide)) (ownNe (x := "count") (by decide)) (ownNe (x := "count") (by decide)) (fun s4 S4 => ?_)
    have I4 := I1.adv S4
    refine sx_forS (σ := WsT) (cn := "count") (x := w) (fun c u => [("count", .ptr c), ("b", .int (u.2.1 : Nat)), ("n", .int (u.2.2.1 : Nat)), ("nt", .int (u.2.2.2 : Nat)), ("S", .str " "), ("T", .str "\t"), ("self", .ptr x)]) (fun u => u.1)
      (fun ds u => ∃ r, ds = signs r ∧ (∀ c ∈ r, c = 32 ∨ c = 9) ∧ r.foldl wsStep u = wsRun w.cps.toList ∧ u.2.1 + r.length ≤ 400 ∧ u.1.length ≤ 401) ([], 0, 0, 0)
      (I4.S.sub ?_ ?_) rm ?_ ?_ rfl ⟨_, rfl, hw, rfl, by simpa using hlen, by simp⟩ ?_ ?_
    · exact subs_cons rfl (subs_cons rfl (subs_cons rfl (subs_cons rfl (subs_cons rfl (subs_cons rfl (subs_cons rfl (subs_nil)))))))
    · exact own_some rfl
    · refine Attribute_any_ (wpAny_Name (load_env I4.S.a.e (d := .ptr x) rfl (fun u hu => ?_))) (by with_unfolding_all rfl)
      simp only [Rd] at hu; subst hu
      exact getattr_own (v := .str w t0) p I4.S.a.e.at' V.ck I4.hx I4.hn.ns rfl (V.free "raw" (by decide)).1 rfl ⟨⟨_, rfl⟩, step_toks⟩
    · rw [← Array.all_toList, List.all_eq_true]
      intro c hc
      rcases hw c hc with rfl | rfl <;> rfl
    · rintro c Z X d ds' ⟨cn, b, nn, nt⟩ s5 v ⟨r, e, hr, hfold, hb, hcl⟩ S5 rv
      cases r with
      | nil => cases e
      | cons y r =>
        obtain ⟨rfl, rfl⟩ := List.cons.inj e
        dsimp only at hb hcl S5
        simp only [List.length_cons] at hb
        refine sx_tgt S5 rv (.inl rfl) (fun s6 S6 => ?_) (ownNe (x := "count") (by decide))
        refine sx_if (b := decide (y = 32)) S6 rm ((tr_cmp (ev_name rfl) (ev_name rfl) cmp_eqs).congr ?_) (fun hy s7 S7 => ?_) (fun hy s7 S7 => ?_)
        · show ([y] == [32]) = _
          by_cases h : y = 32 <;> simp [h]
        · have hy : y = 32 := of_decide_eq_true hy
          subst hy
          refine sx_assign S7 rm (ev_binop (ev_name rfl) ev_int op_add) (.inl rfl) (fun s8 S8 => ?_) (hn := ownNe (x := "count") (by decide))
          refine sx_assign S8 rm (ev_binop (ev_name rfl) ev_int op_add) (.inl rfl) (fun s9 S9 => ?_) (hn := ownNe (x := "count") (by decide))
          refine wpAny_execs_nil (wpAny_execs_nil ⟨.inl rfl, (cn, b + 1, nn + 1, nt), c, Z, X, ⟨r, rfl, fun c hc => hr c (.tail _ hc), hfold, by dsimp only; (clear hlen hc hcl; omega), hcl⟩, fun _ z => z, S9.sub ?_ ?_⟩)
          · exact subs_cons rfl (subs_cons rfl (subs_cons rfl (subs_cons rfl (subs_cons rfl (subs_cons rfl (subs_cons rfl (subs_nil)))))))
          · exact own_some rfl
        · have hy9 : y = 9 := (hr y (.head _)).resolve_left (of_decide_eq_false hy)
          subst hy9
          refine sx_if (b := true) S7 rm ((tr_cmp (ev_name rfl) (ev_name rfl) cmp_eqs).congr (by rfl)) (fun _ s8 S8 => ?_) (fun h => (nomatch h))
          refine sx_assign S8 rm (ev_binop (ev_name rfl) ev_int op_add) (.inl rfl) (fun s9 S9 => ?_) (hn := ownNe (x := "count") (by decide))
          refine sx_assign S9 rm (ev_binop (ev_name rfl) ev_int op_add) (.inl rfl) (fun s10 S10 => ?_) (hn := ownNe (x := "count") (by decide))
          have tail : ∀ (c' : Addr) (Z' X' : ASet) (cl : List Int) (s11 : Shared), (∀ b, Z b → Z' b) → cl = (if cn.length ≤ b then cn ++ List.replicate (b - cn.length + 1) 0 else cn) →
              SS P X Z s5 Z' X' env (defScope wInit) [("count", .ptr c'), ("b", .int (b : Nat)), ("n", .int (nn + 1 : Nat)), ("nt", .int (nt + 1 : Nat)), ("S", .str " "), ("T", .str "\t"), ("self", .ptr x)] (some ("count", c', cl)) s11 →
              wpAny (model P.prog P.w) A (execs ((ifBody ((ifOr ((forBody ((defBody wInit).getD 4 default)).getD 0 default)).getD 0 default)).drop 3) env) (fun f s'' => f = .next ∧ ∃ t' c' Z' X', (∃ r_1, signs r = signs r_1 ∧ (∀ c ∈ r_1, c = 32 ∨ c = 9) ∧ r_1.foldl wsStep t' = wsRun w.cps.toList ∧ t'.2.1 + r_1.length ≤ 400 ∧ t'.1.length ≤ 401) ∧ (∀ b, Z b → Z' b) ∧ SS P X Z s5 Z' X' env (defScope wInit) [("count", .ptr c'), ("b", .int (t'.2.1 : Nat)), ("n", .int (t'.2.2.1 : Nat)), ("nt", .int (t'.2.2.2 : Nat)), ("S", .str " "), ("T", .str "\t"), ("self", .ptr x)] (some ("count", c', t'.1)) s'') F0 s11 := by
            intro c' Z' X' cl s11 hzz hcl' S11
            have hbl : b < cl.length ∧ cl.length ≤ 402 := by
              rw [hcl']
              by_cases q : cn.length ≤ b
              · rw [if_pos q, List.length_append, List.length_replicate]; (clear hlen hc hcl; omega)
              · rw [if_neg q]; (clear hlen hc hb; omega)
            have hidx : pidx (b : Int) (cl.map D.int).length = b := by unfold pidx; split <;> (clear hlen hc hcl hb hbl; omega)
            refine sx_setitem (v := cl.getD b 0 + 1) (k := (b : Nat)) S11 rm (ev_binop (ev_item (ev_name rfl) (ev_name rfl) (by (clear hlen hc hcl hbl; omega)) (by rw [List.length_map]; (clear hlen hc hcl hb hidx; omega)) (by rw [hidx]; simp [hbl.1])) ev_int op_add) (ev_name rfl) (by (clear hlen hc hcl hb hbl; omega)) (by (clear hlen hc hcl hb; omega)) (by (clear hlen hc hcl hb hidx; omega)) (fun s12 S12 => ?_)
            refine sx_assign S12 rm ev_int (.inl rfl) (fun s13 S13 => ?_) (hn := ownNe (x := "count") (by decide))
            have e : bump cn b = cl.set b (cl.getD b 0 + 1) := by unfold bump; rw [← hcl']
            refine wpAny_execs_nil ⟨rfl, (bump cn b, 0, nn + 1, nt + 1), c', Z', X', ⟨r, rfl, fun c hc => hr c (.tail _ hc), hfold, by dsimp only; (clear hlen hc hcl hbl; omega), (bump_length (N := 400) hcl (by (clear hlen hc hcl hbl; omega))).1⟩, hzz, ?_⟩
            dsimp only
            rw [e]
            refine S13.sub ?_ ?_
            · exact subs_cons rfl (subs_cons rfl (subs_cons rfl (subs_cons rfl (subs_cons rfl (subs_cons rfl (subs_cons rfl (subs_nil)))))))
            · exact own_some rfl
          have hlen0 : (((cn.map D.int).length : Nat) : Int) = (cn.length : Nat) := by simp
          refine sx_if (b := decide (cn.length ≤ b)) S10 rm ((tr_cmp (ev_name rfl) (ev_boot p V.len rfl (evl_cons (ev_name rfl) evl_nil) (call_lenL (by simp; (clear hlen hc hb; omega)))) cmp_ge).congr ?_) (fun hg s11 S11 => ?_) (fun hg s11 S11 => ?_)
          · rw [hlen0]; by_cases h : cn.length ≤ b
            · rw [decide_eq_true h]; exact decide_eq_true (by (clear hlen hc hcl hb; omega))
            · rw [decide_eq_false h]; exact decide_eq_false (by (clear hlen hc hcl hb; omega))
          · have hg : cn.length ≤ b := of_decide_eq_true hg
            refine sx_newopO (a := Zs cn) (b := Zs (List.replicate (b - cn.length + 1) 0)) (ns := cn ++ List.replicate (b - cn.length + 1) 0) S11 rm (ev_name rfl) ((ev_binop (ev_list (evl_cons ev_int evl_nil)) (ev_binop (ev_binop (ev_name rfl) (ev_boot p V.len rfl (evl_cons (ev_name rfl) evl_nil) (call_lenL (by simp; (clear hlen hc hb hg; omega)))) op_sub) ev_int op_add) (op_mull (by rw [hlen0]; (clear hlen hc hg; omega)) (by rw [hlen0]; (clear hlen hc hcl hb; omega)) (by rw [hlen0]; simp; (clear hlen hc hg; omega)))).congr ?_) (opnew_addl (by simp; (clear hlen hc hcl; omega))) (.inl rfl) (fun c' s12 S12 => ?_)
            · rw [hlen0, show ((b : Int) - (cn.length : Nat) + 1).toNat = b - cn.length + 1 from by (clear hlen hc hcl hb; omega)]; simp
            · refine wpAny_execs_nil (wpAny_mono (tail c' (Un Z (One c')) (Un X (One c')) _ s12 (fun _ z => .inl z) (by rw [if_pos hg]) (S12.sub ?_ ?_)) (fun f s' ⟨hf, hh⟩ => by subst hf; exact wpAny_execs_nil (wpAny_execs_nil ⟨.inl rfl, hh⟩)) fun _ _ y => y)
              · exact subs_cons rfl (subs_cons rfl (subs_cons rfl (subs_cons rfl (subs_cons rfl (subs_cons rfl (subs_cons rfl (subs_nil)))))))
              · exact own_some rfl
          · have hg : ¬ cn.length ≤ b := of_decide_eq_false hg
            refine wpAny_execs_nil (wpAny_mono (tail c Z X cn s11 (fun _ z => z) (by rw [if_neg hg]) (S11.sub ?_ ?_)) (fun f s' ⟨hf, hh⟩ => by subst hf; exact wpAny_execs_nil (wpAny_execs_nil ⟨.inl rfl, hh⟩)) fun _ _ y => y)
            · exact subs_cons rfl (subs_cons rfl (subs_cons rfl (subs_cons rfl (subs_cons rfl (subs_cons rfl (subs_cons rfl (subs_nil)))))))
            · exact own_some rfl
    · rintro ⟨cn, b, nn, nt⟩ c' Z' X' s5 ⟨r, e, hr, hfold, hb, hcl⟩ hzz S5
      cases r with
      | cons y r => cases e
      | nil =>
        simp only [List.foldl_nil] at hfold
        dsimp only at S5 hcl
        have I5 := I4.adv S5
        refine is_set p V.ck I5 rm (ev_name rfl) rfl (V.free "n" (by decide)).2 (by decide) (fun v6 s6 r6 st6 I6 => ?_)
        refine is_set p V.ck I6 rm (ev_name rfl) rfl (V.free "nt" (by decide)).2 (by decide) (fun v7 s7 r7 st7 I7 => ?_)
        refine is_set p V.ck I7 rm (ev_tup (evl_cons (ev_boot p V.tuple rfl (evl_cons (ev_name rfl) evl_nil) (call_tupleL (by simp; (clear hlen hc hb; omega)))) (evl_cons (ev_name rfl) evl_nil))) rfl (V.free "norm" (by decide)).2 (by decide) (fun v8 s8 r8 st8 I8 => ?_)
        refine is_set p V.ck I8 rm (ev_cmp (ev_boot p V.len rfl (evl_cons (ev_name rfl) evl_nil) (call_lenL (by simp; (clear hlen hc hb; omega)))) ev_int cmp_le) rfl (V.free "is_simple" (by decide)).2 (by decide) (fun v9 s9 r9 st9 I9 => ?_)
        obtain ⟨t6, rfl⟩ := int_rd r6
        obtain ⟨t7, rfl⟩ := int_rd r7
        obtain ⟨_, zc, _⟩ := I8.S.o _ _ _ rfl
        have hdx : cut X' (some (("count" : Str), c', cn)) dx := ⟨I8.xd, fun q => I8.zd (q ▸ zc)⟩
        have r8' := r8.mono (X' := cut X' (some (("count" : Str), c', cn))) (st9.heap.keep.weak fun b q => (show b = dx from q) ▸ hdx) fun _ y => y
        have hx0 : ∀ b, X0 b → cut X' (some (("count" : Str), c', cn)) b := fun b q => ⟨I8.x0 b q, fun e => Nat.lt_irrefl _ (Nat.lt_of_lt_of_le (hX0 b q) (e ▸ I8.zf _ zc))⟩
        obtain ⟨pa, vs, rfl, hpa, htp, hrl⟩ := tup_rd r8'
        simp only [RdL] at hrl
        obtain ⟨vq, _, e1, rq, vb, _, e2, rb, e3⟩ := hrl
        subst e3
        obtain ⟨qa, us, rfl, hqa, htq, hrq⟩ := tup_rd rq
        obtain ⟨tb, rfl⟩ := int_rd rb
        refine wpAny_execs_nil ⟨rfl, I9.T, dx, _, fun q => Nat.lt_irrefl _ (Nat.lt_of_lt_of_le (hX0 _ q) I9.xf), fun q => Nat.lt_irrefl _ (Nat.lt_of_lt_of_le (hX0 _ q) I9.df), I9.hx, I9.hn.ns, ⟨t6, ?_⟩, ⟨t7, ?_⟩, ?_, ?_, pa, qa, us, tb, ?_, fun q => hpa (hx0 _ q), fun q => hqa (hx0 _ q), ?_, htq, ?_⟩
        · rw [← hfold]; rfl
        · rw [← hfold]; rfl
        · rfl
        · rfl
        · rfl
        · have : vs = #[.ref qa, .int (b : Nat) tb] := by
            apply Array.ext'; rw [e1, e2]
          rw [← hfold, ← this]; exact htp
        · rw [← hfold]
          exact ints_match (intsAre_of hrq)
  · intro env h
    obtain ⟨⟩ := env
    simp only at h
    subst h
    rfl
theorem ws_ok {w : Str} (p : PrmOK P) (V : WsP P C) (hw : ∀ c ∈ w.cps.toList, c = 32 ∨ c = 9) (hlen : w.cps.toList.length ≤ 400) :
    Ok P "Whitespace" 20 [.str w] (.ws C (wsRun w.cps.toList).2.2.1 (wsRun w.cps.toList).2.2.2 (wsRun w.cps.toList).1 (wsRun w.cps.toList).2.1) := by
  refine ⟨.ref C, .inl V.at', V.keep, fun X A s vs at' rm hr => ?_⟩
  obtain ⟨v, rfl, r⟩ := rdL_one hr
  obtain ⟨fI, fd, hi, hf, F⟩ := V.init
  obtain ⟨hh, g, d, tk, os⟩ := s
  refine wpAny_call (make_core (makes_of (at'.kin p) V.makes) (looks_findIn (at'.kin p) hi) (fun self => bind_fn (at'.kin p) self hf) (.inl rfl) ?_)
  have k1 : ∀ b o, hh.get? b = some o → ((hh.push emptyDict).push (instObj C hh.objs.size)).get? b = some o := fun b o e => Heap.get?_push_of_some _ (Heap.get?_push_of_some _ e)
  have sz : ((hh.push emptyDict).push (instObj C hh.objs.size)).objs.size = hh.objs.size + 2 := by rw [Heap.size_push, Heap.size_push]
  have st : Step P E0 (⟨hh, g, d, tk, os⟩ : Shared) ⟨(hh.push emptyDict).push (instObj C hh.objs.size), g, d, tk, os⟩ := step_heap (.of_keeps k1 (by rw [sz]; show hh.objs.size ≤ _; (clear hlen sz; omega)))
  have hd : ((hh.push emptyDict).push (instObj C hh.objs.size)).get? hh.objs.size = some emptyDict := Heap.get?_push_of_some _ (Heap.get?_push_size _ rfl)
  have hx : ((hh.push emptyDict).push (instObj C hh.objs.size)).get? (hh.objs.size + 1) = some (instObj C hh.objs.size) := by
    have : ((hh.push emptyDict).push (instObj C hh.objs.size)).get? (hh.push emptyDict).objs.size = some (instObj C hh.objs.size) := Heap.get?_push_size _ rfl
    rwa [Heap.size_push] at this
  have a1 : At P (Un X (One hh.objs.size)) ((hh.push emptyDict).push (instObj C hh.objs.size)) := at'.more (at'.step st.heap) (Nat.le_refl _) hd (nc_dict rfl)
  refine code_top (X := Un X (One hh.objs.size)) (ds := [.ptr (hh.objs.size + 1), .str w]) (xs := ["self", "ws"]) (d := wInit) (n := 10) p F a1 (room_under (n := 11) (room_le rm (by (clear hlen sz; omega)))) ?_ ⟨rfl, by decide, by rfl, ⟨rfl, rfl, rfl⟩, by decide⟩ rfl (binds_init F.params F.dv F.kd _ rfl) (by decide) (by rfl) (fun env A' s1 st1 S1 hle rm1 => ?_)
  · simp only [RdL]
    exact ⟨_, _, rfl, by simp only [Rd], _, _, rfl, r.flat rfl, rfl⟩
  · have ns0 : s1.heap.Ns1 hh.objs.size (fun _ => none) := Heap.Ns1.of_empty ⟨_, #[], _, st1.heap.keep _ _ (fun y => y) (nt_dict rfl) hd, rfl, fun e he => absurd he (by simp), fun _ => rfl⟩
    have hle' : hh.objs.size + 2 ≤ env.locals := by rw [← sz]; exact hle
    have I0 : IS P (⟨hh, g, d, tk, os⟩ : Shared) X (hh.objs.size + 1) hh.objs.size C (fun _ => none) [] (One env.locals) (Un (Un X (One hh.objs.size)) (One env.locals)) env (defScope wInit) [("self", .ptr (hh.objs.size + 1)), ("ws", .str w)] none s1 :=
      ⟨SS.start S1, st.trans st1, st1.heap.keep _ _ (fun y => y) (nt_ref rfl) hx, ns0, PySem.Within.nil, fun b q => (by rw [show b = env.locals from q]; exact Nat.le_trans (Nat.le_add_right _ 2) hle'), Nat.le_refl _, Nat.le_succ _, .inl (.inr rfl), fun q => (by have : hh.objs.size = env.locals := q; (clear hlen sz hle q; omega)), fun q => (by have : hh.objs.size + 1 = env.locals := q; (clear hlen sz hle q; omega)), Nat.ne_of_lt (Nat.lt_succ_self _), fun b q => .inl (.inl q)⟩
    refine wpAny_mono (init_body p V hw hlen rm1 (fun b q => at'.below b q) I0) (fun fl s' ⟨e, st', hws⟩ => ?_) fun _ _ y => y
    refine ⟨e, st', ?_⟩
    simp only [Rd]
    exact ⟨_, rfl, hws⟩
end
end Mine
end
section
open PySem PySem.W PySem.Calls PyProof.Rows
set_option Elab.async false
set_option maxRecDepth 100000
set_option linter.unusedVariables false
namespace Mine
section
variable {P : Prm} {X X' Y Z X₀ Z₀ W : ASet} {env : Env} {sc scope : Scope} {ρ ρ' ρc : Rho} {s s' s₀ sC : Shared} {A : Around} {n m : Nat} {h h' : Heap} {t : Tab} {f : Addr} {fd : FuncData} {C : Addr}
theorem ints_back {X : ASet} {h : Heap} : ∀ {vs : List Value} {ns : List Int}, vs.map (fun v => match v with | .int i _ => some i | _ => Option.none) = ns.map some → RdL X h (ns.map .int) vs
  | [], [], _ => by simp only [List.map_nil, RdL]
  | [], _ :: _, e => by simp at e
  | _ :: _, [], e => by simp at e
  | v :: vs, i :: ns, e => by
    simp only [List.map_cons, List.cons.injEq] at e
    simp only [List.map_cons, RdL]
    refine ⟨v, vs, rfl, ?_, ints_back e.2⟩
    cases v with
    | int j t =>
      have := e.1
      simp only [Option.some.injEq] at this
      subst this; exact rd_int
    | _ => have := e.1; simp at this
theorem ws_rd {k nt b : Int} {cs : List Int} {v : Value} (r : Rd X h (.ws C k nt cs b) v) : ∃ x, v = .ref x ∧ IsWs X h C k nt cs b x := by simpa only [Rd] using r
theorem ev_ws_n {e : Expr} {pos : Pos} {k nt b : Int} {cs : List Int} (p : PrmOK P) (V : WsP P C) (h : Ev P n sc ρ e (.ws C k nt cs b))
    (he : ∀ env, eval (.Attribute e "n" pos) env = (do
      let o ← eval e env
      standAt pos.atName
      let r ← holding [o] (getAttr o "n" true)
      letTemporaryGo e o r
      pure r) := by intro _; with_unfolding_all rfl) : Ev P n sc ρ (.Attribute e "n" pos) (.int k) := fun X env A s e0 rm => by
  refine Attribute_any_ (ev_of h e0 rm fun v s1 st1 e1 r1 => ?_) (he env)
  obtain ⟨x, rfl, dx, m, h1, h2, h3, h4, ⟨t, h5⟩, h6, h7, h8, p1, q, vs, t', h9, h10, h11, h12, h13, h14⟩ := ws_rd r1
  exact getattr_own p e1.at' V.ck h3 h4 h5 (V.free "n" (by decide)).1 rfl ⟨st1.trans step_toks, rd_int⟩
theorem ev_ws_nt {e : Expr} {pos : Pos} {k nt b : Int} {cs : List Int} (p : PrmOK P) (V : WsP P C) (h : Ev P n sc ρ e (.ws C k nt cs b))
    (he : ∀ env, eval (.Attribute e "nt" pos) env = (do
      let o ← eval e env
      standAt pos.atName
      let r ← holding [o] (getAttr o "nt" true)
      letTemporaryGo e o r
      pure r) := by intro _; with_unfolding_all rfl) : Ev P n sc ρ (.Attribute e "nt" pos) (.int nt) := fun X env A s e0 rm => by
  refine Attribute_any_ (ev_of h e0 rm fun v s1 st1 e1 r1 => ?_) (he env)
  obtain ⟨x, rfl, dx, m, h1, h2, h3, h4, h5, ⟨t, h6⟩, h7, h8, p1, q, vs, t', h9, h10, h11, h12, h13, h14⟩ := ws_rd r1
  exact getattr_own p e1.at' V.ck h3 h4 h6 (V.free "nt" (by decide)).1 rfl ⟨st1.trans step_toks, rd_int⟩
theorem ev_ws_norm {e : Expr} {pos : Pos} {k nt b : Int} {cs : List Int} (p : PrmOK P) (V : WsP P C) (h : Ev P n sc ρ e (.ws C k nt cs b))
    (he : ∀ env, eval (.Attribute e "norm" pos) env = (do
      let o ← eval e env
      standAt pos.atName
      let r ← holding [o] (getAttr o "norm" true)
      letTemporaryGo e o r
      pure r) := by intro _; with_unfolding_all rfl) : Ev P n sc ρ (.Attribute e "norm" pos) (.tup [.tup (cs.map .int), .int b]) := fun X env A s e0 rm => by
  refine Attribute_any_ (ev_of h e0 rm fun v s1 st1 e1 r1 => ?_) (he env)
  obtain ⟨x, rfl, dx, m, h1, h2, h3, h4, h5, h6, h7, h8, p1, q, vs, t', h9, h10, h11, h12, h13, h14⟩ := ws_rd r1
  refine getattr_own p e1.at' V.ck h3 h4 h9 (V.free "norm" (by decide)).1 rfl ⟨st1.trans step_toks, ?_⟩
  simp only [Rd]
  refine ⟨p1, _, rfl, h10, h12, ?_⟩
  simp only [RdL, Rd]
  exact ⟨_, _, rfl, ⟨q, vs, rfl, h11, h13, ints_back h14⟩, _, _, rfl, ⟨_, rfl⟩, rfl⟩
/-- a method of the class -/
structure MethP (P : Prm) (C : Addr) (name : Str) (d : Stmt) : Prop where
  m : ∃ f fd, findIn P.K (.ref C) name = some (some (.ref f)) ∧ typeIn P.K (.ref f) = some (.type "function") ∧ keepIn P.K (.ref f) = true ∧ FnObj P f d fd
theorem ev_ws_meth {o : Expr} {name : Str} {apos pos : Pos} {args : List Expr} {k nt b : Int} {cs : List Int} {ds : List D} {d : D} {dm : Stmt} {N : Nat} (p : PrmOK P) (V : WsP P C) (M : MethP P C name dm) (ho : Ev P n sc ρ o (.ws C k nt cs b)) (ha : EvL P n sc ρ args ds)
    (hnm : name = "indent_level" ∨ name = "equal") (hc : ∀ f fd, FnObj P f dm fd → CallOK P N (.ref f) (.ws C k nt cs b :: ds) d) (hN : N ≤ n) {pl : Env → Sem Bool}
    (he : ∀ env, eval (.Call (.Attribute o name apos) args [] pos) env = (do
      let ov ← eval o env
      standAt apos.atName
      let (f, first) ← holding [ov] (getMethod ov name (pl env))
      callWith pos f first (backTo pos (starEach args env)) []) := by intro _; rfl) : Ev P n sc ρ (.Call (.Attribute o name apos) args [] pos) d := fun X env A s e rm => by
  obtain ⟨f, fd, hf, ht, hk, F⟩ := M.m
  refine MethodCall_ (pl := pl env) (ev_of ho e rm fun v s1 st1 e1 r1 => ?_) (he env)
  obtain ⟨x, rfl, hws⟩ := ws_rd r1
  obtain ⟨dx, m, h1, h2, h3, h4, h5, h6, h7, h8, rest⟩ := id hws
  obtain ⟨od, I, hl⟩ := inst_at h3 h4
  have hm : m name = none := by rcases hnm with rfl | rfl <;> assumption
  refine method_fn (e1.at'.kin p) I V.ck.ga V.ck.gb hf ht (by show (lookIn name od).map _ = _; rw [hl, hm]; rfl) ?_
  refine ev_callWith (fd := [.ws C k nt cs b]) p (f := .ref f) hk ha e1 rm (by simp only [RdL]; exact ⟨_, [], rfl, r1, rfl⟩) (callOK_le (hc f fd F) hN) fun w s' st r => ⟨st1.trans st, r⟩
end
end Mine
end
section
open PySem PySem.W PySem.Calls PyProof.Rows
set_option Elab.async false
set_option maxRecDepth 100000
set_option linter.unusedVariables false
namespace Mine
section
variable {P : Prm} {n : Nat}
theorem binds_coll : Binds (B0 12) ["a", "b"] := by
  intro fd h1 h2 h3 vs hl
  obtain ⟨x, q, pr, b, sc, g, c, d, k, _⟩ := fd
  simp only at h1 h2 h3
  subst h1 h2 h3
  obtain ⟨u, v, rfl⟩ := len2 hl
  rfl
noncomputable def collS (a b : List Nat) : Int := (if decide (b < a) then 1 else 0) - (if decide (a < b) then 1 else 0)
theorem coll_ok (p : PrmOK P) (D' : Def P "_strcoll" (B0 12)) {a b : Str} : Ok P "_strcoll" 10 [.str a, .str b] (.int (collS a.cps.toList b.cps.toList)) :=
  D'.ok p ⟨rfl, by decide, by rfl, ⟨rfl, rfl, rfl⟩, by decide⟩ binds_coll rfl fun fd X Z env A s a rm _ _ => by
    refine sx_return (SS.start a) rm (ev_binop (ev_cmp (ev_name rfl) (ev_name rfl) cmp_gts) (ev_cmp (ev_name rfl) (ev_name rfl) cmp_lts) op_sub_bool) ?_
    exact fun v s' st r => ⟨v, rfl, st, r⟩
end
end Mine
end
section
open PySem PySem.W PySem.Calls PyProof.Rows
set_option Elab.async false
set_option maxRecDepth 100000
set_option linter.unusedVariables false
namespace Mine
section
variable {P : Prm} {n : Nat}
theorem mulOkB {a b : Int} (ha : a.natAbs < 2 ^ 4000) (hb : b.natAbs < 2 ^ 4000) : IntMulOk a b := mulOk_of_bits (m := 4000) (n := 4000) (intBits_le_iff.mpr ha) (intBits_le_iff.mpr hb) (by decide)
noncomputable def ruler (c0 c1 c2 c3 : Nat) : List Nat := [2 + c0 % 2, 2 + c0 % 2 + c1 % 3, 2 + c0 % 2 + c1 % 3 + c2 % 4].take (1 + c3 % 3)
theorem binds_ruler : Binds (B0 17) ["cells"] := by
  intro fd h1 h2 h3 vs hl
  obtain ⟨x, q, pr, b, sc, g, c, d, k, _⟩ := fd
  simp only at h1 h2 h3
  subst h1 h2 h3
  obtain ⟨u, rfl⟩ := len1 hl
  rfl
theorem ruler_ok (p : PrmOK P) (D' : Def P "_law_ruler" (B0 17)) {c0 c1 c2 c3 c4 c5 : Nat} : Ok P "_law_ruler" 10 [Zs (iz [c0, c1, c2, c3, c4, c5])] (.tup [Zs (iz (ruler c0 c1 c2 c3)), .int (c3 / 3 % 3 : Nat)]) :=
  D'.ok p ⟨rfl, by decide, by rfl, ⟨rfl, rfl, rfl⟩, by decide⟩ binds_ruler rfl fun fd X Z env A s S0 rm _ _ => by
    refine sx_assign (d := .int (2 + c0 % 2 : Nat)) (SS.start S0) rm ((ev_binop ev_int (ev_binop (ev_itemN (d := .int c0) 0 (ev_name rfl) ev_int (by simp) rfl) ev_int (op_mod (by decide))) op_add).congr ?_) (.inl rfl) (fun s1 S1 => ?_)
    · congr 1; rw [show (2 : Int) = ((2 : Nat) : Int) from rfl, fmod_nat]; omega
    refine sx_assign (d := .int (2 + c0 % 2 + c1 % 3 : Nat)) S1 rm ((ev_binop (ev_name rfl) (ev_binop (ev_itemN (d := .int c1) 1 (ev_name rfl) ev_int (by simp) rfl) ev_int (op_mod (by decide))) op_add).congr ?_) (.inl rfl) (fun s2 S2 => ?_)
    · congr 1; rw [show (3 : Int) = ((3 : Nat) : Int) from rfl, fmod_nat]; omega
    refine sx_assign (d := Zs (iz (ruler c0 c1 c2 c3))) S2 rm ((ev_slice (ev_list (evl_cons (ev_name rfl) (evl_cons (ev_name rfl) (evl_cons (ev_binop (ev_name rfl) (ev_binop (ev_itemN (d := .int c2) 2 (ev_name rfl) ev_int (by simp) rfl) ev_int (op_mod (by decide))) op_add) evl_nil)))) evp_none (evp_some (ev_binop ev_int (ev_binop (ev_itemN (d := .int c3) 3 (ev_name rfl) ev_int (by simp) rfl) ev_int (op_mod (by decide))) op_add)) evp_none (by decide) (by simp)).congr ?_) (.inl rfl) (fun s3 S3 => ?_)
    · rw [show (3 : Int) = ((3 : Nat) : Int) from rfl, show (4 : Int) = ((4 : Nat) : Int) from rfl, fmod_nat, fmod_nat, show (1 : Int) + (c3 % 3 : Nat) = ((1 + c3 % 3 : Nat) : Int) from by omega, pick_upto]
      unfold ruler Zs
      congr 1
      simp only [List.map_take, List.map_cons, List.map_nil]
      congr 4
    refine sx_return S3 rm ((ev_tup (evl_cons (ev_name rfl) (evl_cons (ev_binop (ev_binop (ev_itemN (d := .int c3) 3 (ev_name rfl) ev_int (by simp) rfl) ev_int (op_div (by decide) ?_)) ev_int (op_mod (by decide))) evl_nil))).congr ?_) fun v s' st r => ⟨v, rfl, st, r⟩
    · exact noPylongB (by decide)
    · rw [show (3 : Int) = ((3 : Nat) : Int) from rfl, fdiv_nat, fmod_nat]
/-- a row's worth -/
noncomputable def worthF (row : List Int) (a b sg : Int) : Int × Int := row.reverse.foldl (fun t f => (t.2 + sg * t.1, t.2 * f)) (a, b)
theorem binds_worth : Binds (B0 18) ["row", "above", "below", "sign"] := by
  intro fd h1 h2 h3 vs hl
  obtain ⟨x, q, pr, b, sc, g, c, d, k, _⟩ := fd
  simp only at h1 h2 h3
  subst h1 h2 h3
  obtain ⟨u, v, w, z, rfl⟩ := len4 hl
  rfl
theorem worth_ok (p : PrmOK P) (D' : Def P "_law_worth" (B0 18)) {row : List Int} {a b sg : Int} (hl : row.length ≤ 200) (hr : ∀ f ∈ row, f.natAbs ≤ 255) (hs : sg.natAbs ≤ 1) (hab : a.natAbs + b.natAbs < 2 ^ 16) :
    Ok P "_law_worth" 10 [Zs row, .int a, .int b, .int sg] (.tup [.int (worthF row a b sg).1, .int (worthF row a b sg).2]) :=
  D'.ok p ⟨rfl, by decide, by rfl, ⟨rfl, rfl, rfl⟩, by decide⟩ binds_worth rfl fun fd X Z env A s S0 rm _ _ => by
    refine sx_for (σ := Int × Int) (fun t => [("above", .int t.1), ("below", .int t.2), ("sign", .int sg), ("row", Zs row)]) (fun _ => []) none
      (fun ds t => ∃ (r : List Int) (B : Nat), ds = r.map .int ∧ r.foldl (fun t f => (t.2 + sg * t.1, t.2 * f)) t = worthF row a b sg ∧ t.1.natAbs + t.2.natAbs < 2 ^ B ∧ B + 8 * r.length ≤ 2000 ∧ ∀ f ∈ r, f.natAbs ≤ 255) (fun _ => False) (fun _ => False) (a, b)
      ((SS.start S0).sub ?_ (fun _ _ _ e => nomatch e)) rm ((evit_list (ev_slice (ev_name rfl) evp_none evp_none (evp_some (ev_unop ev_int un_neg)) (by decide) (by simp; (clear hs hab; omega))))) ?_ ?_ ?_ ?_
    · exact subs_cons rfl (subs_cons rfl (subs_cons rfl (subs_cons rfl (subs_nil))))
    · refine ⟨row.reverse, 16, ?_, rfl, hab, by simp; (clear hs hab; omega), fun f hf => hr f (List.mem_reverse.mp hf)⟩
      rw [show (-(1 : Int)) = -1 from rfl, pick_rev, List.map_reverse]
    · rintro X' d ds' ⟨a1, b1⟩ s1 v ⟨r, B, e, h1, h2, h3, h4⟩ S1 rv
      cases r with
      | nil => cases e
      | cons y r =>
        obtain ⟨rfl, rfl⟩ := List.cons.inj e
        dsimp only at h2 S1
        simp only [List.length_cons] at h3
        have hy := h4 y (.head _)
        have hB : 2 ^ B ≤ 2 ^ 2000 := Nat.pow_le_pow_right (by decide) (by (clear hl hs hab h2 hy; omega))
        have h4000 : (2 : Nat) ^ 2000 < 2 ^ 4000 := Nat.pow_lt_pow_right (by decide) (by decide)
        have hsm : (255 : Nat) < 2 ^ 4000 := Nat.lt_of_lt_of_le (by decide : 255 < 2 ^ 8) (Nat.pow_le_pow_right (by decide) (by decide))
        refine sx_tgt S1 rv (.inl rfl) (fun s2 S2 => ?_)
        refine sx_swap S2 rm (ev_binop (ev_name rfl) (ev_binop (ev_name rfl) (ev_name rfl) (op_mul (mulOkB (by (clear hl hab h2 h3 hy hB h4000 hsm; omega)) (by (clear hl hs hab h3 hy h4000 hsm; omega))))) op_add) (ev_binop (ev_name rfl) (ev_name rfl) (op_mul (mulOkB (by (clear hl hs hab h3 hy h4000 hsm; omega)) (by (clear hl hs hab h2 h3 hB h4000 hsm; omega))))) (.inl rfl) (.inl rfl) (fun s3 S3 => ?_) ?_
        · refine wpAny_execs_nil ⟨(b1 + sg * a1, b1 * y), ⟨r, B + 8, rfl, h1, ?_, by (clear hl hs hab h2 hy hB h4000 hsm; omega), fun f hf => h4 f (.tail _ hf)⟩, S3.sub ?_ (fun _ _ _ e => nomatch e)⟩
          · dsimp only
            rw [Int.natAbs_mul, Nat.pow_add]
            have q1 : (b1 + sg * a1).natAbs ≤ b1.natAbs + a1.natAbs := by
              refine Nat.le_trans (Int.natAbs_add_le _ _) (Nat.add_le_add_left ?_ _)
              rw [Int.natAbs_mul]
              calc sg.natAbs * a1.natAbs ≤ 1 * a1.natAbs := Nat.mul_le_mul_right _ hs
                _ = a1.natAbs := Nat.one_mul _
            have q2 : b1.natAbs * y.natAbs ≤ b1.natAbs * 255 := Nat.mul_le_mul_left _ hy
            generalize (2 : Nat) ^ B = T at *
            (clear hl hs hab h3 hy h4000 hsm hB; omega)
          · exact subs_cons rfl (subs_cons rfl (subs_cons rfl (subs_cons rfl (subs_nil))))
        · intro env h
          obtain ⟨⟩ := env
          simp only at h
          subst h
          rfl
    · rintro ⟨a1, b1⟩ s1 (⟨r, B, e, h1, h2, h3, h4⟩ | q) S1
      · cases r with
        | cons y r => cases e
        | nil =>
          simp only [List.foldl_nil] at h1
          refine sx_return S1 rm ((ev_tup (evl_cons (ev_name rfl) (evl_cons (ev_name rfl) evl_nil))).congr ?_) fun v s' st r => ⟨v, rfl, st, r⟩
          rw [← h1]
      · exact q.elim
    · exact fun r v s' q => q.elim
end
end Mine
end
section
open PySem PySem.W PySem.Calls PyProof.Rows
set_option Elab.async false
set_option maxRecDepth 100000
set_option linter.unusedVariables false
namespace Mine
section
variable {P : Prm} {n : Nat} {C : Addr}
noncomputable abbrev wIndent : Stmt := (clsBody (B0 2)).getD 3 default
/-- what indent_level adds up -/
noncomputable def ilF (tab : Nat) (cs : List Int) : Nat → Nat → Int
  | _, 0 => 0
  | i, k + 1 => ((i / tab : Nat) : Int) * cs.getD i 0 + ilF tab cs (i + 1) k
theorem binds_indent {fd : FuncData} (h1 : fd.params = defParams wIndent) (h2 : fd.defaults = .none) (h3 : fd.kwdefaults = .none) : ∀ vs, vs.length = ["self", "tabsize"].length → bindArgs fd ⟨vs, []⟩ = pure ((["self", "tabsize"] : List Str).zip vs) := by
  intro vs hl
  obtain ⟨x, q, pr, b, sc, g, c, d, k, _⟩ := fd
  simp only at h1 h2 h3
  subst h1 h2 h3
  obtain ⟨u, v, rfl⟩ := len2 hl
  rfl
theorem indent_ok (p : PrmOK P) (V : WsP P C) (br : Boot P "range") {k nt b : Int} {cs : List Int} {tab : Nat} (ht : 0 < tab) (ht2 : tab ≤ 1000000) (hl : cs.length ≤ 1000) (hc : ∀ x ∈ cs, x.natAbs ≤ 1000000) (htot : (ilF tab cs tab (cs.length - tab) + nt).natAbs < 2 ^ 60) {f : Addr} {fd : FuncData} (F : FnObj P f wIndent fd) :
    CallOK P 30 (.ref f) [.ws C k nt cs b, .int tab] (.int (b + tab * (ilF tab cs tab (cs.length - tab) + nt))) := by
  refine call_own (n := 29) (xs := ["self", "tabsize"]) p F ⟨rfl, by decide, by rfl, ⟨rfl, rfl, rfl⟩, by decide⟩ (fun X Z env A s S0 rm _ _ => ?_) rfl (binds_indent F.params F.dv F.kd)
  refine sx_pair (SS.start S0) rm (ev_ws_norm p V (ev_name rfl)) (.inl rfl) (.inl rfl) (fun s1 S1 => ?_)
  refine sx_assign (d := .int 0) S1 rm ev_int (.inl rfl) (fun s2 S2 => ?_)
  have hcl : (((cs.map D.int).length : Nat) : Int) = (cs.length : Nat) := by simp
  refine sx_for (σ := Int) (fun u => [("il", .int u), ("count", .tup (cs.map .int)), ("trailing", .int b), ("self", .ws C k nt cs b), ("tabsize", .int tab)]) (fun _ => []) none
    (fun ds u => ∃ i j : Nat, ds = rangeD i j ∧ tab ≤ i ∧ i ≤ 1000000 ∧ (j = 0 ∨ i + j = cs.length) ∧ u + ilF tab cs i j = ilF tab cs tab (cs.length - tab)) (fun _ => False) (fun _ => False) 0
    (S2.sub ?_ (fun _ _ _ e => nomatch e)) rm (evit_range2 (j := (tab : Nat)) (k := (cs.length : Nat)) p (.inr ⟨br, by decide, rfl⟩) (ev_name rfl) ((ev_boot p V.len rfl (evl_cons (ev_name rfl) evl_nil) (call_lenT (by simp; (clear ht ht2 htot; omega)))).congr (by rw [hcl])) (by (clear hl htot hcl; omega)) (by (clear hl htot hcl; omega)) (by (clear ht ht2 htot; omega)) (by (clear ht ht2 htot; omega))) ?_ ?_ ?_ ?_
  · exact subs_cons rfl (subs_cons rfl (subs_cons rfl (subs_cons rfl (subs_cons rfl (subs_nil)))))
  · refine ⟨tab, cs.length - tab, ?_, Nat.le_refl _, ht2, by (clear ht ht2 hl htot; omega), by simp⟩
    rw [show ((cs.length : Int) - (tab : Int)).toNat = cs.length - tab from by (clear ht ht2 hl htot; omega)]
  · rintro X' d ds' u s3 v ⟨i, j, e, h1, h1', h2, h3⟩ S3 rv
    cases j with
    | zero => cases e
    | succ j =>
      rw [rangeD_succ] at e
      obtain ⟨rfl, rfl⟩ := List.cons.inj e
      have hi : i < cs.length := by (clear ht ht2 hl htot h1 h1' h3; omega)
      have hci := hc cs[i] (List.getElem_mem hi)
      have hdiv : i / tab ≤ i := Nat.div_le_self _ _
      refine sx_tgt S3 rv (.inl rfl) (fun s4 S4 => ?_)
      refine sx_assign (d := .int (u + ((i / tab : Nat) : Int) * cs[i])) S4 rm ((ev_binop (ev_name rfl) (ev_binop (ev_binop (ev_name rfl) (ev_name rfl) (op_div (by (clear hl htot hcl h1 h1' h2 h3 hci hdiv; omega)) (noPylongB (by (clear hl htot hcl h1 h1' h2 h3 hci hdiv; omega))))) (ev_itemT (d := .int cs[i]) (k := (i : Nat)) (ev_name rfl) (ev_name rfl) (by (clear ht ht2 hl htot hcl h1 h2 h3 hci hdiv; omega)) (by simp; (clear ht ht2 htot h1 h1' h2 h3 hci hdiv; omega)) (by simp [hi])) (op_mul (mulOk (by rw [fdiv_nat, Int.natAbs_natCast]; (clear htot h2 h3 hci; omega)) (by (clear ht ht2 hl htot hcl h1 h1' h2 h3 hdiv; omega))))) op_add).congr (by rw [fdiv_nat])) (.inl rfl) (fun s5 S5 => ?_)
      refine wpAny_execs_nil ⟨u + ((i / tab : Nat) : Int) * cs[i], ⟨i + 1, j, rfl, by (clear ht ht2 hl htot hcl h1' h2 h3 hci hdiv; omega), by (clear ht ht2 htot h1 h2 h3 hci hdiv; omega), by (clear ht ht2 hl htot h1 h1' h3 hci hdiv; omega), ?_⟩, S5.sub ?_ (fun _ _ _ e => nomatch e)⟩
      · rw [← h3]
        simp only [ilF]
        rw [List.getD_eq_getElem?_getD, List.getElem?_eq_getElem hi, Option.getD_some]; (clear ht ht2 hl htot hcl h1 h1' h2 h3 hci hdiv; omega)
      · exact subs_cons rfl (subs_cons rfl (subs_cons rfl (subs_cons rfl (subs_cons rfl (subs_nil)))))
  · rintro u s3 (⟨i, j, e, h1, h1', h2, h3⟩ | q) S3
    · cases j with
      | succ j => rw [rangeD_succ] at e; cases e
      | zero =>
        simp only [ilF, Int.add_zero] at h3
        subst h3
        exact sx_return S3 rm (ev_binop (ev_name rfl) (ev_binop (ev_name rfl) (ev_binop (ev_name rfl) (ev_ws_nt p V (ev_name rfl)) op_add) (op_mul (mulOk (by (clear hl htot hcl h1 h1' h2; omega)) (by (clear ht ht2 hl hcl h1 h1' h2; omega))))) op_add) fun v s' st r => ⟨v, rfl, st, r⟩
    · exact q.elim
  · exact fun r v s' q => q.elim
theorem binds_lowest : Binds (B0 19) ["above", "below"] := by
  intro fd h1 h2 h3 vs hl
  obtain ⟨x, q, pr, b, sc, g, c, d, k, _⟩ := fd
  simp only at h1 h2 h3
  subst h1 h2 h3
  obtain ⟨u, v, rfl⟩ := len2 hl
  rfl
theorem lowest_ok (p : PrmOK P) (V : DivP P) (D' : Def P "_law_lowest" (B0 19)) {a b : Nat} (ha : a < 2 ^ 24) (hb0 : 0 < b) (hb : b < 2 ^ 24) :
    Ok P "_law_lowest" 160 [.int a, .int b] (.tup [.int (a / Nat.gcd a b : Nat), .int (b / Nat.gcd a b : Nat)]) :=
  D'.ok p ⟨rfl, by decide, by rfl, ⟨rfl, rfl, rfl⟩, by decide⟩ binds_lowest rfl fun fd X Z env A s S0 rm _ _ => by
    refine sx_swap (SS.start S0) rm (ev_name rfl) (ev_name rfl) (.inl rfl) (.inl rfl) (fun s1 S1 => ?_) ?_
    · refine sx_while (σ := Nat × Nat) (fun t => [("one", .int t.1), ("two", .int t.2), ("above", .int a), ("below", .int b)]) (fun _ => []) none
        (fun t => Nat.gcd t.1 t.2 = Nat.gcd a b ∧ t.1 < 2 ^ 24 ∧ t.2 < 2 ^ 24) (fun t => t.2) (a, b) (fun t => decide (t.2 ≠ 0)) (S1.sub ?_ (fun _ _ _ e => nomatch e)) rm ⟨rfl, ha, hb⟩ (fun t ht => ?_) ?_ ?_
      · exact subs_cons rfl (subs_cons rfl (subs_cons rfl (subs_cons rfl (subs_nil))))
      · refine (tr_val (ev_name (d := .int t.2) rfl) truth_int).congr ?_
        by_cases h : t.2 = 0 <;> simp [h]
      · rintro ⟨x, y⟩ s2 ⟨h1, h2, h3⟩ hne S2
        dsimp only at h1 h2 h3 hne S2
        have hy : y ≠ 0 := of_decide_eq_true hne
        have hmod := Nat.mod_lt x (Nat.pos_of_ne_zero hy)
        refine sx_swap S2 rm (ev_name rfl) (ev_itemT (d := .int (x % y : Nat)) (k := 1) (ev_fn p (idm_ok p V h2 (Nat.pos_of_ne_zero hy) h3) (evl_cons (ev_name rfl) (evl_cons (ev_name rfl) evl_nil))) ev_int (by decide) (by simp) rfl) (.inl rfl) (.inl rfl) (fun s3 S3 => ?_) ?_
        · refine wpAny_execs_nil ⟨(y, x % y), hmod, ⟨?_, h3, by dsimp only; (clear ha hb0 hb h1 h2 hy; omega)⟩, S3.sub ?_ (fun _ _ _ e => nomatch e)⟩
          · dsimp only
            rw [Nat.gcd_comm y, ← Nat.gcd_rec, Nat.gcd_comm y]; exact h1
          · exact subs_cons rfl (subs_cons rfl (subs_cons rfl (subs_cons rfl (subs_nil))))
        · intro env h
          obtain ⟨⟩ := env
          simp only at h
          subst h
          rfl
      · rintro ⟨x, y⟩ s2 ⟨h1, h2, h3⟩ hne S2
        dsimp only at h1 h2 h3 hne S2
        have hy : y = 0 := by simpa using hne
        subst hy
        rw [Nat.gcd_zero_right] at h1
        subst h1
        have hg : 0 < Nat.gcd a b := Nat.gcd_pos_of_pos_right a hb0
        exact sx_return S2 rm (ev_tup (evl_cons (ev_itemT (k := 0) (ev_fn p (idm_ok p V ha hg h2) (evl_cons (ev_name rfl) (evl_cons (ev_name rfl) evl_nil))) ev_int (by decide) (by simp) rfl) (evl_cons (ev_itemT (k := 0) (ev_fn p (idm_ok p V hb hg h2) (evl_cons (ev_name rfl) (evl_cons (ev_name rfl) evl_nil))) ev_int (by decide) (by simp) rfl) evl_nil))) fun v s' st r => ⟨v, rfl, st, r⟩
    · intro env h
      obtain ⟨⟩ := env
      simp only at h
      subst h
      rfl
end
end Mine
end
section
open PySem PySem.W PySem.Calls PyProof.Rows
set_option Elab.async false
set_option maxRecDepth 100000
set_option linter.unusedVariables false
namespace Mine
theorem app_list (a b : Str) : (a ++ b).cps.toList = a.cps.toList ++ b.cps.toList := by
  show (a.cps ++ b.cps).toList = _
  simp
theorem app_len (a b : Str) : (a ++ b).length = a.length + b.length := by
  show (a.cps ++ b.cps).size = _
  simp [Str.length]
noncomputable def leadS (u l : Nat) : Str := srep (srep " " (l - 1) ++ "\t") 2 ++ srep " " u
theorem blank_list : (" " : Str).cps.toList = [32] := by rfl
theorem tab_list : ("\t" : Str).cps.toList = [9] := by rfl
theorem flat_one (k : Nat) (c : Nat) : (List.replicate k [c]).flatten = List.replicate k c := by
  induction k with
  | zero => rfl
  | succ k ih => rw [List.replicate_succ, List.flatten_cons, ih, List.replicate_succ]; rfl
theorem lead_list (u l : Nat) : (leadS u l).cps.toList = (List.replicate (l - 1) 32 ++ [9]) ++ ((List.replicate (l - 1) 32 ++ [9]) ++ List.replicate u 32) := by
  unfold leadS
  rw [app_list, srep_list, srep_list, app_list, srep_list, blank_list, tab_list, flat_one, flat_one]
  simp
theorem fold_blanks (k : Nat) : ∀ t : WsT, (List.replicate k 32).foldl wsStep t = (t.1, t.2.1 + k, t.2.2.1 + k, t.2.2.2) := by
  induction k with
  | zero => intro t; rfl
  | succ k ih =>
    intro t
    rw [List.replicate_succ, List.foldl_cons, ih]
    simp only [wsStep, if_true]
    rw [Nat.add_assoc, Nat.add_assoc, Nat.add_comm 1 k]
noncomputable def cs2 (l : Nat) : List Int := (List.replicate l 0).set (l - 1) 2
theorem cs2_length (l : Nat) : (cs2 l).length = l := by simp [cs2]
theorem bump_nil (b : Nat) : bump [] b = (List.replicate (b + 1) 0).set b 1 := by
  unfold bump
  simp
theorem bump_two (b : Nat) : bump (bump [] b) b = (List.replicate (b + 1) 0).set b 2 := by
  rw [bump_nil]
  unfold bump
  rw [if_neg (by simp)]
  simp
theorem wsRun_lead {u l : Nat} (hl : 1 ≤ l) : wsRun (leadS u l).cps.toList = (cs2 l, u, 2 * l + u, 2) := by
  unfold wsRun
  rw [lead_list, List.foldl_append, List.foldl_append, fold_blanks, List.foldl_append, List.foldl_append, fold_blanks]
  simp only [List.foldl_cons, List.foldl_nil, wsStep, fold_blanks]
  rw [if_neg (by decide), if_neg (by decide)]
  simp only [Nat.zero_add]
  rw [bump_two]
  unfold cs2
  rw [show l - 1 + 1 = l from by omega]
  congr 2
  congr 1
  omega
theorem lead_signs {u l : Nat} : ∀ c ∈ (leadS u l).cps.toList, c = 32 ∨ c = 9 := by
  rw [lead_list]
  intro c hc
  simp only [List.mem_append, List.mem_replicate, List.mem_singleton] at hc
  omega
theorem lead_length {u l : Nat} (hl : 1 ≤ l) : (leadS u l).cps.toList.length = 2 * l + u := by
  rw [lead_list]; simp; omega
theorem cs2_get {l i : Nat} (hi : i < l) : (cs2 l).getD i 0 = if i = l - 1 then 2 else 0 := by
  unfold cs2
  rw [List.getD_eq_getElem?_getD, List.getElem?_set]
  by_cases h : l - 1 = i
  · rw [if_pos h, if_pos h.symm, if_pos (by simp; omega)]; rfl
  · rw [if_neg h, if_neg (fun q => h q.symm), List.getElem?_replicate, if_pos hi]; rfl
theorem ilF_cs2 {tab l : Nat} : ∀ (k i : Nat), i + k = l → ilF tab (cs2 l) i k = if k = 0 then 0 else 2 * (((l - 1) / tab : Nat) : Int)
  | 0, i, h => rfl
  | k + 1, i, h => by
    simp only [ilF]
    rw [ilF_cs2 k (i + 1) (by omega), cs2_get (by omega)]
    by_cases hk : k = 0
    · subst hk
      rw [if_pos (by omega), if_pos rfl, if_neg (by (clear h; omega)), show i = l - 1 from by omega]; (clear h; omega)
    · rw [if_neg (by omega), if_neg hk, if_neg (by (clear h hk; omega))]; (clear h hk; omega)
theorem ilF_lead {tab l : Nat} (ht : 0 < tab) (hl : 1 ≤ l) : ilF tab (cs2 l) tab ((cs2 l).length - tab) = 2 * (((l - 1) / tab : Nat) : Int) := by
  rw [cs2_length]
  by_cases h : tab ≤ l
  · rw [ilF_cs2 _ _ (by (clear ht hl; omega))]
    split
    · rw [Nat.div_eq_of_lt (by (clear ht h; omega))]; rfl
    · rfl
  · rw [show l - tab = 0 from by (clear ht hl; omega), Nat.div_eq_of_lt (by (clear ht; omega))]; rfl
/-- the climb -/
noncomputable def climbL (l : Nat) : Nat → Nat → List Nat
  | 0, _ => []
  | k + 1, size => if size = 0 then [] else ((l - 1) / size + 1) :: climbL l k (size * ((l - 1) / size + 1) - l)
theorem climbL_zero (l k : Nat) : climbL l k 0 = [] := by cases k <;> simp [climbL]
theorem up_ge {l size : Nat} (hl : 1 ≤ l) (hs : 0 < size) : l ≤ size * ((l - 1) / size + 1) ∧ size * ((l - 1) / size + 1) < l + size := by
  have h1 := Nat.div_add_mod (l - 1) size
  have h2 := Nat.mod_lt (l - 1) hs
  rw [Nat.mul_add]; (clear hs; omega)
section
variable {P : Prm} {n : Nat} {C : Addr}
theorem binds_climb : Binds (B0 20) ["upper", "lower"] := by
  intro fd h1 h2 h3 vs hl
  obtain ⟨x, q, pr, b, sc, g, c, d, k, _⟩ := fd
  simp only at h1 h2 h3
  subst h1 h2 h3
  obtain ⟨u, v, rfl⟩ := len2 hl
  rfl
structure LawP (P : Prm) (C : Addr) : Prop where
  ws : WsP P C
  div : DivP P
  told : ToldP P
  range : Boot P "range"
  indent : MethP P C "indent_level" wIndent
theorem climb_ok (p : PrmOK P) (V : LawP P C) (D' : Def P "_law_climb" (B0 20)) {u l : Nat} (hu : 0 < u) (hul : u ≤ l) (hl : l ≤ 125) :
    Ok P "_law_climb" 160 [.int u, .int l] (Zs (iz (climbL l l u))) :=
  D'.ok p ⟨rfl, by decide, by rfl, ⟨rfl, rfl, rfl⟩, by decide⟩ binds_climb rfl fun fd X Z env A s S0 rm _ _ => by
    have len1 : (" " : Str).length = 1 := rfl
    have lent : ("\t" : Str).length = 1 := rfl
    have hw := wsRun_lead (u := u) (l := l) (by (clear len1 lent; omega))
    have hwo := ws_ok (C := C) (w := leadS u l) p V.ws lead_signs (by rw [lead_length (by (clear len1 lent; omega))]; (clear len1 lent; omega))
    rw [hw] at hwo
    refine sx_assign (d := .ws C (2 * l + u : Nat) (2 : Nat) (cs2 l) (u : Nat)) (SS.start S0) rm (ev_fn p hwo (evl_cons (ev_binop (ev_binop (ev_binop (ev_binop ev_str ((ev_binop (ev_name rfl) ev_int op_sub).congr (d' := .int (l - 1 : Nat)) ?_) (op_muls (by rw [len1]; (clear hu hul len1 lent; omega)) (by (clear hu hul len1 lent; omega)))) ev_str (op_adds (by rw [srep_len, len1, lent]; (clear hu hul len1 lent; omega)))) ev_int (op_muls (k := 2) (by rw [app_len, srep_len, len1, lent]; (clear hu hul len1 lent; omega)) (by (clear hu hul hl len1 lent; omega)))) (ev_binop ev_str (ev_name rfl) (op_muls (by rw [len1]; (clear hu len1 lent; omega)) (by (clear hu len1 lent; omega)))) (op_adds (by rw [srep_len, srep_len, app_len, srep_len, len1, lent]; (clear len1 lent; omega)))) evl_nil)) (.inl rfl) (fun s1 S1 => ?_)
    · congr 1; (clear len1 lent; omega)
    refine sx_newpair S1 rm (ev_name (d := .int u) rfl) rfl (.inl rfl) (.inl rfl) (by decide) (fun c s2 hc S2 => ?_) ?_
    · refine sx_for (σ := Nat × List Nat) (fun t => [("row", .ptr c), ("size", .int t.1), ("lead", .ws C (2 * l + u : Nat) (2 : Nat) (cs2 l) (u : Nat)), ("upper", .int u), ("lower", .int l)]) (fun t => iz t.2) (some ("row", c))
        (fun ds t => ∃ i j : Nat, ds = rangeD i j ∧ t.2 ++ climbL l j t.1 = climbL l l u ∧ t.1 ≤ u ∧ t.2.length + j = l) (fun t => t.2 = climbL l l u) (fun _ => False) (u, [])
        (S2.sub ?_ ?_) rm (evit_range1 (k := (l : Nat)) p (.inr ⟨V.range, by decide, rfl⟩) (ev_name rfl) (by (clear hu hul len1 lent hc; omega)) (by (clear hu hul len1 lent hc; omega))) ⟨0, l, rfl, rfl, Nat.le_refl _, by simp⟩ ?_ ?_ ?_
      · exact subs_cons rfl (subs_cons rfl (subs_cons rfl (subs_cons rfl (subs_cons rfl (subs_nil)))))
      · exact own_some rfl
      · rintro X' d ds' ⟨size, row⟩ s3 v ⟨i, j, e, h1, h2, h3⟩ S3 rv
        cases j with
        | zero => cases e
        | succ j =>
          rw [rangeD_succ] at e
          obtain ⟨rfl, rfl⟩ := List.cons.inj e
          dsimp only at h1 h2 h3 S3
          refine sx_tgt S3 rv (.inl rfl) (fun s4 S4 => ?_) (ownNe (x := "row") (by decide))
          refine sx_if (b := decide (size = 0)) S4 rm ((tr_cmp (ev_name rfl) ev_int cmp_lt).congr ?_) (fun hb s5 S5 => ?_) (fun hb s5 S5 => wpAny_execs_nil ?_)
          · by_cases h : size = 0
            · rw [decide_eq_true h]; exact decide_eq_true (by (clear hu hul hl len1 lent hc h2 h3; omega))
            · rw [decide_eq_false h]; exact decide_eq_false (by (clear hu hul hl len1 lent hc h2 h3; omega))
          · have h0 : size = 0 := of_decide_eq_true hb
            subst h0
            rw [climbL_zero, List.append_nil] at h1
            refine sx_break ⟨(0, row), h1, S5.sub ?_ ?_⟩
            · exact subs_cons rfl (subs_cons rfl (subs_cons rfl (subs_cons rfl (subs_cons rfl (subs_nil)))))
            · exact own_some rfl
          · have h0 : size ≠ 0 := of_decide_eq_false hb
            have hsz : 0 < size := Nat.pos_of_ne_zero h0
            obtain ⟨g1, g2⟩ := up_ge (l := l) (size := size) (by (clear hu hul len1 lent hc h2 h0 hsz; omega)) hsz
            have hF : (l - 1) / size ≤ l - 1 := Nat.div_le_self _ _
            simp only [climbL, if_neg h0] at h1
            have hil := ilF_lead (tab := size) (l := l) hsz (by (clear hu hul len1 lent hc h2 h0 hsz g1 g2 hF; omega))
            generalize hq : (l - 1) / size = q at *
            have hmul : size * (q + 1) = size * q + size := by rw [Nat.mul_add, Nat.mul_one]
            refine sx_assign (d := .int (u + 2 * (size * (q + 1)) : Nat)) S5 rm ((ev_ws_meth (N := 30) p V.ws V.indent (ev_name rfl) (evl_cons (ev_name rfl) evl_nil) (.inl rfl) (fun f fd F => indent_ok p V.ws V.range (cs := cs2 l) (tab := size) hsz (by (clear len1 lent hc h0 hsz hq g1 g2 hF hil; omega)) (by rw [cs2_length]; (clear hu hul len1 lent hc h2 h0 hsz hq g1 g2 hF hil hmul; omega)) ?_ ?_ F) (by (clear hu hul hl len1 lent hc h2 h3 h0 hsz hq g1 g2 hF hil hmul; omega))).congr ?_) (.inl rfl) (fun s6 S6 => ?_) (hn := ownNe (x := "row") (by decide))
            · intro x hx
              unfold cs2 at hx
              rcases List.mem_or_eq_of_mem_set hx with h | h
              · rw [(List.mem_replicate.mp h).2]; decide
              · rw [h]; decide
            · rw [hil]; (clear hu hul len1 lent hc h2 h0 hsz hq g1 hil; omega)
            · rw [hil]
              congr 1
              rw [show (2 * (q : Int) + (2 : Nat)) = ((2 * (q + 1) : Nat) : Int) from by (clear hu hul hl len1 lent hc h2 h3 h0 hsz hq g1 g2 hF hil hmul; omega)]
              push_cast
              have : (size : Int) * (2 * (q + 1)) = 2 * (size * (q + 1)) := by rw [Int.mul_left_comm]
              (clear hu hul hl len1 lent hc h2 h3 h0 hsz hq g1 g2 hF hil hmul; omega)
            have hid := idm_ok (a := 2 * (size * (q + 1))) (b := 2 * size) p V.div (by (clear len1 lent hc h0 hsz hq g1 hF hil; omega)) (by (clear hu hul hl len1 lent hc h2 h3 h0 hq g1 g2 hF hil; omega)) (by (clear len1 lent hc h0 hsz hq g1 g2 hF hil; omega))
            have hdv : 2 * (size * (q + 1)) / (2 * size) = q + 1 := by rw [← Nat.mul_assoc]; exact Nat.mul_div_cancel_left _ (by (clear hu hul hl len1 lent hc h2 h3 h0 hq g1 g2 hF hil; omega))
            have hmd : 2 * (size * (q + 1)) % (2 * size) = 0 := by rw [← Nat.mul_assoc]; exact Nat.mul_mod_right _ _
            rw [hdv, hmd] at hid
            refine sx_pair S6 rm (ev_fn p hid (evl_cons ((ev_binop (ev_name rfl) (ev_name rfl) op_sub).congr (by congr 1; (clear hu hul hl len1 lent hc h2 h3 h0 hsz hq g1 g2 hF hil hmul hdv hmd; omega))) (evl_cons ((ev_binop ev_int (ev_name rfl) (op_mul (mulOk (by decide) (by (clear len1 lent hc h0 hq g1 g2 hF hil hdv hmd; omega))))).congr (by congr 1)) evl_nil))) (.inl rfl) (.inl rfl) (fun s7 S7 => ?_) (ownNe (x := "row") (by decide)) (ownNe (x := "row") (by decide))
            refine sx_if (b := false) S7 rm ((tr_cmp (ev_name rfl) ev_int cmp_ne).congr (by rfl)) (fun h => (nomatch h)) (fun _ s8 S8 => wpAny_execs_nil ?_)
            refine sx_append (i := (q + 1 : Nat)) S8 rm (by simp; (clear len1 lent hc h2 h0 hsz hq g1 g2 hF hil hmul hdv hmd; omega)) (ev_name rfl) (fun s9 S9 => ?_)
            refine sx_assign (d := .int (size * (q + 1) - l : Nat)) S9 rm ((ev_binop (ev_binop (ev_name rfl) (ev_ws_n p V.ws (ev_name rfl)) op_sub) ev_int (op_div (by decide) (noPylongB (by decide)))).congr ?_) (.inl rfl) (fun s10 S10 => ?_) (hn := ownNe (x := "row") (by decide))
            · congr 1
              rw [show (((u + 2 * (size * (q + 1)) : Nat) : Int) - ((2 * l + u : Nat) : Int)) = ((2 * (size * (q + 1) - l) : Nat) : Int) from by (clear hu hul hl len1 lent hc h2 h0 hsz hq g2 hF hil hmul hdv hmd; omega), show (2 : Int) = ((2 : Nat) : Int) from rfl, fdiv_nat]
              congr 1; (clear hu hul hl len1 lent hc h2 h3 h0 hsz hq g1 g2 hF hil hmul hdv hmd; omega)
            refine wpAny_execs_nil ⟨(size * (q + 1) - l, row ++ [q + 1]), ⟨i + 1, j, rfl, by simpa using h1, by dsimp only; (clear hu hul hl len1 lent hc h0 hsz hq hF hil hdv hmd; omega), by simp; (clear hu hul hl len1 lent hc h2 h0 hsz hq g1 g2 hF hil hmul hdv hmd; omega)⟩, ?_⟩
            have e : iz (row ++ [q + 1]) = iz row ++ [((q + 1 : Nat) : Int)] := by simp
            show SS P X' _ s3 _ X' env _ _ (mk (some ("row", c)) (iz (row ++ [q + 1]))) s10
            rw [e]
            refine S10.sub ?_ ?_
            · exact subs_cons rfl (subs_cons rfl (subs_cons rfl (subs_cons rfl (subs_cons rfl (subs_nil)))))
            · exact own_some rfl
      · rintro ⟨size, row⟩ s3 hB S3
        have hrow : row = climbL l l u := by
          rcases hB with ⟨i, j, e, h1, h2, h3⟩ | hB
          · cases j with
            | succ j => rw [rangeD_succ] at e; cases e
            | zero => simpa [climbL] using h1
          · exact hB
        dsimp only at S3
        rw [hrow] at S3
        exact sx_returnO S3 rm (ev_name rfl) (fun x => Nat.lt_irrefl _ (Nat.lt_of_lt_of_le (S0.e.at'.below _ x) hc)) fun v s' st r => ⟨v, rfl, st, r⟩
      · exact fun r v s' q => q.elim
    · intro env h
      obtain ⟨⟩ := env
      simp only at h
      subst h
      rfl
end
end Mine
end
section
open PySem PySem.W PySem.Calls PyProof.Rows
set_option Elab.async false
set_option maxRecDepth 100000
set_option linter.unusedVariables false
namespace Mine
/-- the fall -/
noncomputable def fallL (l : Nat) : Nat → Nat → List Nat
  | 0, _ => []
  | k + 1, size => if size = 0 then [] else (l / size) :: fallL l k (l % size)
theorem fallL_zero (l k : Nat) : fallL l k 0 = [] := by cases k <;> simp [fallL]
noncomputable def turnF : Nat → List Nat → List Nat
  | _, [] => []
  | i, f :: r => (if i % 2 ≠ 0 then 2000 + f else 2000 - f) :: turnF (i + 1) r
noncomputable def turnedL (fall : List Nat) : List Nat := turnF 0 fall ++ (if fall.length % 2 ≠ 0 then [3000] else [])
noncomputable abbrev sOf (l : List Nat) : Str := ⟨l.toArray⟩
theorem sOf_list (l : List Nat) : (sOf l).cps.toList = l := by simp
theorem sOf_app (a b : List Nat) : sOf a ++ sOf b = sOf (a ++ b) := by
  show (⟨a.toArray ++ b.toArray⟩ : Str) = _
  simp
theorem sOf_len (a : List Nat) : (sOf a).length = a.length := by simp [Str.length]
section
variable {P : Prm} {n : Nat} {C : Addr}
theorem binds_fall : Binds (B0 21) ["upper", "lower"] := by
  intro fd h1 h2 h3 vs hl
  obtain ⟨x, q, pr, b, sc, g, c, d, k, _⟩ := fd
  simp only at h1 h2 h3
  subst h1 h2 h3
  obtain ⟨u, v, rfl⟩ := len2 hl
  rfl
theorem fall_ok (p : PrmOK P) (V : LawP P C) (D' : Def P "_law_fall" (B0 21)) {u l : Nat} (hu : 0 < u) (hul : u ≤ l) (hl : l ≤ 125) :
    Ok P "_law_fall" 160 [.int u, .int l] (Zs (iz (fallL l l u))) :=
  D'.ok p ⟨rfl, by decide, by rfl, ⟨rfl, rfl, rfl⟩, by decide⟩ binds_fall rfl fun fd X Z env A s S0 rm _ _ => by
    refine sx_newpair (SS.start S0) rm (ev_name (d := .int u) rfl) rfl (.inl rfl) (.inl rfl) (by decide) (fun c s2 hc S2 => ?_) ?_
    · refine sx_for (σ := Nat × List Nat) (fun t => [("row", .ptr c), ("size", .int t.1), ("lower", .int l)]) (fun t => iz t.2) (some ("row", c))
        (fun ds t => ∃ i j : Nat, ds = rangeD i j ∧ t.2 ++ fallL l j t.1 = fallL l l u ∧ t.1 ≤ l ∧ t.2.length + j = l) (fun t => t.2 = fallL l l u) (fun _ => False) (u, [])
        (S2.sub ?_ ?_) rm (evit_range1 (k := (l : Nat)) p (.inr ⟨V.range, by decide, rfl⟩) (ev_name rfl) (by (clear hu hul hc; omega)) (by (clear hu hul hc; omega))) ⟨0, l, rfl, rfl, hul, by simp⟩ ?_ ?_ ?_
      · exact subs_cons rfl (subs_cons rfl (subs_cons rfl (subs_nil)))
      · exact own_some rfl
      · rintro X' d ds' ⟨size, row⟩ s3 v ⟨i, j, e, h1, h2, h3⟩ S3 rv
        cases j with
        | zero => cases e
        | succ j =>
          rw [rangeD_succ] at e
          obtain ⟨rfl, rfl⟩ := List.cons.inj e
          dsimp only at h1 h2 h3 S3
          refine sx_tgt S3 rv (.inl rfl) (fun s4 S4 => ?_) (ownNe (x := "row") (by decide))
          refine sx_if (b := decide (size = 0)) S4 rm ((tr_cmp (ev_name rfl) ev_int cmp_lt).congr ?_) (fun hb s5 S5 => ?_) (fun hb s5 S5 => wpAny_execs_nil ?_)
          · by_cases h : size = 0
            · rw [decide_eq_true h]; exact decide_eq_true (by (clear hu hul hl hc h2 h3; omega))
            · rw [decide_eq_false h]; exact decide_eq_false (by (clear hu hul hl hc h2 h3; omega))
          · have h0 : size = 0 := of_decide_eq_true hb
            subst h0
            rw [fallL_zero, List.append_nil] at h1
            refine sx_break ⟨(0, row), h1, S5.sub ?_ ?_⟩
            · exact subs_cons rfl (subs_cons rfl (subs_cons rfl (subs_nil)))
            · exact own_some rfl
          · have h0 : size ≠ 0 := of_decide_eq_false hb
            have hsz : 0 < size := Nat.pos_of_ne_zero h0
            simp only [fallL, if_neg h0] at h1
            have hmod := Nat.mod_lt l hsz
            refine sx_pair S5 rm (ev_fn p (idm_ok (a := l) (b := size) p V.div (by (clear hu hul hc h2 h0 hsz hmod; omega)) hsz (by (clear hc h0 hsz hmod; omega))) (evl_cons (ev_name rfl) (evl_cons (ev_name rfl) evl_nil))) (.inl rfl) (.inl rfl) (fun s7 S7 => ?_) (ownNe (x := "row") (by decide)) (ownNe (x := "row") (by decide))
            refine sx_append (i := (l / size : Nat)) S7 rm (by simp; (clear hc h2 h0 hsz hmod; omega)) (ev_name rfl) (fun s9 S9 => ?_)
            refine wpAny_execs_nil ⟨(l % size, row ++ [l / size]), ⟨i + 1, j, rfl, by simpa using h1, by dsimp only; (clear hu hul hl hc h0 hsz; omega), by simp; (clear hu hul hl hc h2 h0 hsz hmod; omega)⟩, ?_⟩
            have e : iz (row ++ [l / size]) = iz row ++ [((l / size : Nat) : Int)] := by simp
            show SS P X' _ s3 _ X' env _ _ (mk (some ("row", c)) (iz (row ++ [l / size]))) s9
            rw [e]
            refine S9.sub ?_ ?_
            · exact subs_cons rfl (subs_cons rfl (subs_cons rfl (subs_nil)))
            · exact own_some rfl
      · rintro ⟨size, row⟩ s3 hB S3
        have hrow : row = fallL l l u := by
          rcases hB with ⟨i, j, e, h1, h2, h3⟩ | hB
          · cases j with
            | succ j => rw [rangeD_succ] at e; cases e
            | zero => simpa [fallL] using h1
          · exact hB
        dsimp only at S3
        rw [hrow] at S3
        exact sx_returnO S3 rm (ev_name rfl) (fun x => Nat.lt_irrefl _ (Nat.lt_of_lt_of_le (S0.e.at'.below _ x) hc)) fun v s' st r => ⟨v, rfl, st, r⟩
      · exact fun r v s' q => q.elim
    · intro env h
      obtain ⟨⟩ := env
      simp only at h
      subst h
      rfl
theorem binds_turned : Binds (B0 23) ["fall"] := by
  intro fd h1 h2 h3 vs hl
  obtain ⟨x, q, pr, b, sc, g, c, d, k, _⟩ := fd
  simp only at h1 h2 h3
  subst h1 h2 h3
  obtain ⟨u, rfl⟩ := len1 hl
  rfl
theorem ifexp_str {sc : Scope} {ρ : Rho} {t b o : PySem.Expr} {pos : Pos} {c : Bool} {x y : Str} (h : Tr P n sc ρ t c) (h1 : Ev P n sc ρ b (.str x)) (h2 : Ev P n sc ρ o (.str y)) : Ev P n sc ρ (.IfExp t b o pos) (.str (if c then x else y)) :=
  ev_ifexp h (fun e => by rw [if_pos e]; exact h1) (fun e => by rw [if_neg (by rw [e]; decide)]; exact h2)
theorem turned_ok (p : PrmOK P) (V : LawP P C) (D' : Def P "_law_turned" (B0 23)) (be : Boot P "enumerate") (bc : Boot P "chr") {fall : List Nat} (hl : fall.length ≤ 1000) (hf : ∀ f ∈ fall, f ≤ 1000) :
    Ok P "_law_turned" 20 [Zs (iz fall)] (.str (sOf (turnedL fall))) :=
  D'.ok p ⟨rfl, by decide, by rfl, ⟨rfl, rfl, rfl⟩, by decide⟩ binds_turned rfl fun fd X Z env A s S0 rm _ _ => by
    refine sx_assign (d := .str (sOf [])) (SS.start S0) rm ev_str (.inl rfl) (fun s1 S1 => ?_)
    refine sx_for (σ := List Nat) (fun t => [("text", .str (sOf t)), ("fall", Zs (iz fall))]) (fun _ => []) none
      (fun ds t => ∃ (i : Nat) (r : List Nat), ds = enumD i (r.map fun x : Nat => D.int x) ∧ t ++ turnF i r = turnF 0 fall ∧ t.length + r.length = fall.length ∧ ∀ f ∈ r, f ≤ 1000) (fun _ => False) (fun _ => False) []
      (S1.sub ?_ (fun _ _ _ e => nomatch e)) rm (evit_enum p (.inr ⟨be, by decide, rfl⟩) (ev_name rfl)) ⟨0, fall, by rw [List.map_map]; rfl, rfl, by simp, hf⟩ ?_ ?_ ?_
    · exact subs_cons rfl (subs_cons rfl (subs_nil))
    · rintro X' d ds' t s2 v ⟨i, r, e, h1, h2, h3⟩ S2 rv
      cases r with
      | nil => cases e
      | cons y r =>
        simp only [List.map_cons, enumD] at e
        obtain ⟨rfl, rfl⟩ := List.cons.inj e
        simp only [List.length_cons] at h2
        have hy := h3 y (.head _)
        refine sx_tgt2 S2 rm.1 rv (by rfl) (by rfl) (fun s3 S3 => ?_)
        refine sx_adds (b := if (((i : Int).fmod 2) != 0) = true then sOf [2000 + y] else sOf [2000 - y]) S3 rm rfl (ifexp_str (tr_val (ev_binop (ev_name rfl) ev_int (op_mod (by decide))) truth_int) ((ev_boot p bc rfl (evl_cons (ev_binop ev_int (ev_name rfl) op_add) evl_nil) (call_chr (by (clear hl h2; omega)) (by (clear hl h2; omega)))).congr ?_) ((ev_boot p bc rfl (evl_cons (ev_binop ev_int (ev_name rfl) op_sub) evl_nil) (call_chr (by (clear hl h2; omega)) (by (clear hl h2; omega)))).congr ?_)) (.inl rfl) ?_ (fun s4 S4 => ?_)
        · rw [show ((2000 : Int) + (y : Nat)).toNat = 2000 + y from by (clear hl h2; omega)]
        · rw [show ((2000 : Int) - (y : Nat)).toNat = 2000 - y from by (clear hl h2; omega)]
        · rw [sOf_len]; split <;> rw [sOf_len] <;> simp <;> (clear hy; omega)
        · have hst : sOf t ++ (if (((i : Int).fmod 2) != 0) = true then sOf [2000 + y] else sOf [2000 - y]) = sOf (t ++ [if i % 2 ≠ 0 then 2000 + y else 2000 - y]) := by
            rw [show (2 : Int) = ((2 : Nat) : Int) from rfl, fmod_nat]
            by_cases h : i % 2 = 0
            · rw [if_neg (by simp [h]), if_neg (by simp [h]), sOf_app]
            · rw [if_pos (by simp; (clear hl h2 hy; omega)), if_pos h, sOf_app]
          rw [hst] at S4
          refine wpAny_execs_nil ⟨t ++ [if i % 2 ≠ 0 then 2000 + y else 2000 - y], ⟨i + 1, r, rfl, by rw [← h1]; simp [turnF], by simp; (clear hl hy; omega), fun f hf => h3 f (.tail _ hf)⟩, S4.sub ?_ (fun _ _ _ e => nomatch e)⟩
          exact subs_cons rfl (subs_cons rfl (subs_nil))
    · rintro t s2 (⟨i, r, e, h1, h2, h3⟩ | q) S2
      · cases r with
        | cons y r => cases e
        | nil =>
          simp only [turnF, List.append_nil] at h1
          subst h1
          have ht : (turnF 0 fall).length ≤ 1000 := by simp at h2; omega
          refine sx_return (d := .str (sOf (turnedL fall))) S2 rm ((ifexp_str (tr_val (ev_binop (ev_boot p V.ws.len rfl (evl_cons (ev_name rfl) evl_nil) (call_lenL (by simp; (clear ht; omega)))) ev_int (op_mod (by decide))) truth_int) (ev_binop (ev_name rfl) (ev_boot p bc rfl (evl_cons ev_int evl_nil) (call_chr (by decide) (by decide))) (op_adds (by rw [sOf_len]; show _ + 1 ≤ _; (clear hl h2; omega)))) (ev_name rfl)).congr ?_) fun v s' st r => ⟨v, rfl, st, r⟩
          congr 1
          rw [show (2 : Int) = ((2 : Nat) : Int) from rfl, List.length_map, List.length_map, fmod_nat]
          unfold turnedL
          by_cases h : fall.length % 2 = 0
          · rw [if_neg (by simp [h]), if_neg (by simp [h]), List.append_nil]
          · rw [if_pos (by simp; (clear hl ht; omega)), if_pos h, ← sOf_app]; rfl
      · exact q.elim
    · exact fun r v s' q => q.elim
end
end Mine
end
section
open PySem PySem.W PySem.Calls PyProof.Rows
set_option Elab.async false
set_option maxRecDepth 100000
set_option linter.unusedVariables false
namespace Mine
theorem fold_bd {sg : Int} (hs : sg.natAbs ≤ 1) : ∀ (r : List Int) (t : Int × Int) (B : Nat), (∀ f ∈ r, f.natAbs ≤ 255) → t.1.natAbs + t.2.natAbs < 2 ^ B → (r.foldl (fun t f => (t.2 + sg * t.1, t.2 * f)) t).1.natAbs + (r.foldl (fun t f => (t.2 + sg * t.1, t.2 * f)) t).2.natAbs < 2 ^ (B + 8 * r.length)
  | [], t, B, _, h => by simpa using h
  | y :: r, t, B, hr, h => by
    have hy := hr y (.head _)
    have h2 : (t.2 + sg * t.1).natAbs + (t.2 * y).natAbs < 2 ^ (B + 8) := by
      rw [Int.natAbs_mul, Nat.pow_add]
      have q1 : (t.2 + sg * t.1).natAbs ≤ t.2.natAbs + t.1.natAbs := by
        refine Nat.le_trans (Int.natAbs_add_le _ _) (Nat.add_le_add_left ?_ _)
        rw [Int.natAbs_mul]
        calc sg.natAbs * t.1.natAbs ≤ 1 * t.1.natAbs := Nat.mul_le_mul_right _ hs
          _ = t.1.natAbs := Nat.one_mul _
      have q2 : t.2.natAbs * y.natAbs ≤ t.2.natAbs * 255 := Nat.mul_le_mul_left _ hy
      generalize (2 : Nat) ^ B = T at *
      (clear hs hy; omega)
    have := fold_bd hs r (t.2 + sg * t.1, t.2 * y) (B + 8) (fun f hf => hr f (.tail _ hf)) h2
    rw [List.foldl_cons, List.length_cons, show B + 8 * (r.length + 1) = B + 8 + 8 * r.length from by (clear hs h hy h2 this; omega)]
    exact this
theorem worthF_bd {row : List Int} {a b sg : Int} (hl : row.length ≤ 200) (hr : ∀ f ∈ row, f.natAbs ≤ 255) (hs : sg.natAbs ≤ 1) (hab : a.natAbs + b.natAbs < 2 ^ 16) : (worthF row a b sg).1.natAbs < 2 ^ 4000 ∧ (worthF row a b sg).2.natAbs < 2 ^ 4000 := by
  have h := fold_bd hs row.reverse (a, b) 16 (fun f hf => hr f (List.mem_reverse.mp hf)) hab
  have h2 : 2 ^ (16 + 8 * row.reverse.length) ≤ 2 ^ 4000 := Nat.pow_le_pow_right (by decide) (by simp; (clear hs hab h; omega))
  unfold worthF
  (clear hl hs hab; omega)
structure HoldH (u l : Nat) (climb fall : List Nat) : Prop where
  cne : climb ≠ []
  csort : climb.Pairwise (· ≤ ·)
  clen : climb.length < 60
  cpos : ∀ c ∈ climb, 1 ≤ c ∧ c ≤ 125
  fne : fall ≠ []
  frise : fall.Pairwise (· < ·)
  flen : fall.length ≤ 130
  fpos : ∀ f ∈ fall, f ≤ 125
  flast : ∀ x ∈ fall.dropLast, x + 1 ≠ fall.getLast fne
  w1 : (worthF (iz climb) 0 1 1).1 * l = u * (worthF (iz climb) 0 1 1).2
  w2 : (worthF (iz (climb.dropLast ++ List.replicate 3 (climb.getLast cne + 1))) 1 (climb.getLast cne : Nat) 1).1 * l = u * (worthF (iz (climb.dropLast ++ List.replicate 3 (climb.getLast cne + 1))) 1 (climb.getLast cne : Nat) 1).2
  w3 : (worthF (iz fall) 0 1 (-1)).1 * l = u * (worthF (iz fall) 0 1 (-1)).2
theorem told_plain : ∀ (c : List Nat) (e k : Nat) (last : Option Int) (tail : List Int), (∀ x ∈ c, 1 ≤ x ∧ x ≤ 125) → 1 ≤ e → e ≤ 126 →
    told (c.length + k) last (iz c ++ ((e : Nat) : Int) :: 0 :: tail) = iz c ++ List.replicate k (e : Int) ∧ tOK last (iz c ++ ((e : Nat) : Int) :: 0 :: tail) = true
  | [], e, k, last, tail, _, h1, h2 => by
    have e1 : ¬ ((e : Int) = 127) := by omega
    have e2 : ¬ ((e : Int) = 0) := by (clear e1; omega)
    constructor
    · cases k with
      | zero => simp [told]
      | succ k =>
        simp only [List.length_nil, Nat.zero_add, List.map_nil, List.nil_append, told, if_neg e1, if_neg e2]
        rw [List.replicate_succ]
        congr 1
        cases k with
        | zero => simp [told]
        | succ k => simp [told]
    · simp only [List.map_nil, List.nil_append, tOK, if_neg e1, if_neg e2]
      simp
  | x :: c, e, k, last, tail, hc, h1, h2 => by
    have hx := hc x (.head _)
    have e1 : ¬ ((x : Int) = 127) := by (clear h1 h2; omega)
    have e2 : ¬ ((x : Int) = 0) := by (clear h1 h2 e1; omega)
    obtain ⟨i1, i2⟩ := told_plain c e k (some (x : Int)) tail (fun y hy => hc y (.tail _ hy)) h1 h2
    constructor
    · rw [List.length_cons, show c.length + 1 + k = (c.length + k) + 1 from by (clear h1 h2 hx e1 e2; omega)]
      simp only [List.map_cons, List.cons_append, told, if_neg e1, if_neg e2]
      rw [i1]
    · simp only [List.map_cons, List.cons_append, tOK, if_neg e1, if_neg e2]
      exact i2
theorem zip_rise : ∀ {l : List Nat}, l.Pairwise (· < ·) → ∀ d ∈ zipD ((iz l).map D.int) (((iz l).map D.int).drop 1), ∃ a b : Nat, d = .tup [.int a, .int b] ∧ a < b
  | [], _, d, h => by simp [zipD] at h
  | [x], _, d, h => by simp [zipD] at h
  | x :: y :: r, hp, d, h => by
    simp only [List.map_cons, List.drop_succ_cons, List.drop_zero, zipD, List.mem_cons] at h
    rcases h with h | h
    · exact ⟨x, y, h, (List.pairwise_cons.mp hp).1 y (.head _)⟩
    · exact zip_rise (List.pairwise_cons.mp hp).2 d (by simpa using h)
theorem zipD_le : ∀ (a b : List D), (zipD a b).length ≤ a.length
  | [], b => by simp [zipD]
  | _ :: _, [] => by simp [zipD]
  | x :: a, y :: b => by simp only [zipD, List.length_cons]; exact Nat.succ_le_succ (zipD_le a b)
section
variable {P : Prm} {n : Nat} {C : Addr}
theorem binds_holds : Binds (B0 22) ["upper", "lower", "climb", "fall"] := by
  intro fd h1 h2 h3 vs hl
  obtain ⟨x, q, pr, b, sc, g, c, d, k, _⟩ := fd
  simp only at h1 h2 h3
  subst h1 h2 h3
  obtain ⟨u, v, w, z, rfl⟩ := len4 hl
  rfl
noncomputable abbrev βpair (x y : Str) : D → Rho
  | .tup [a, b] => [(y, b), (x, a)]
  | _ => []
structure BootP (P : Prm) : Prop where
  sorted : Boot P "sorted"
  zip : Boot P "zip"
  len : Boot P "len"
theorem holds_ok (p : PrmOK P) (V : LawP P C) (BP : BootP P) (D' : Def P "_law_holds" (B0 22)) (DW : Def P "_law_worth" (B0 18)) {u l : Nat} (hu : u ≤ 125) (hl : l ≤ 125) {climb fall : List Nat} (H : HoldH u l climb fall) :
    Ok P "_law_holds" 70 [.int u, .int l, Zs (iz climb), Zs (iz fall)] (.bool true) :=
  D'.ok p ⟨rfl, by decide, by rfl, ⟨rfl, rfl, rfl⟩, by decide⟩ binds_holds rfl fun fd X Z env A s S0 rm _ _ => by
    obtain ⟨cne, csort, clen, cpos, fne, frise, flen, fpos, flast, w1, w2, w3⟩ := H
    have hcl : 1 ≤ climb.length := List.length_pos_iff.mpr cne
    have hfl : 1 ≤ fall.length := List.length_pos_iff.mpr fne
    have hlast := cpos _ (List.getLast_mem cne)
    have hget : ((iz climb).map D.int)[((iz climb).map D.int).length - 1]? = some (.int (climb.getLast cne : Nat)) := by
      rw [← List.getLast?_eq_getElem?, List.map_map, List.getLast?_map, List.getLast?_eq_some_getLast cne]; rfl
    have hgetf : ((iz fall).map D.int)[((iz fall).map D.int).length - 1]? = some (.int (fall.getLast fne : Nat)) := by
      rw [← List.getLast?_eq_getElem?, List.map_map, List.getLast?_map, List.getLast?_eq_some_getLast fne]; rfl
    have hbut : ∀ l : List Nat, pick ((iz l).map D.int) none (some (-(1 : Int))) none = (iz l.dropLast).map D.int := fun l => by
      rw [show (-(1 : Int)) = -((1 : Nat) : Int) from rfl, pick_but _ 1 (Nat.le_refl _), List.map_map, List.map_map, List.length_map, ← List.map_take, List.dropLast_eq_take]
    refine sx_if (b := false) (SS.start S0) rm (tr_bool ⟨false, (tr_cmp (ev_name (d := Zs (iz climb)) rfl) (ev_list (ds := []) evl_nil) (cmp_eql (b := []))).congr ?_, ⟨false, (tr_cmp (ev_name (d := Zs (iz climb)) rfl) (ev_boot p BP.sorted rfl (evl_cons (ev_name rfl) evl_nil) (call_sorted (ns := iz climb) (ms := iz climb) (by simp; (clear hu hl flen w1 w2 w3 hfl hlast; omega)) (List.Perm.refl _) ?_)) cmp_nel).congr ?_, rfl⟩⟩) (fun h => (nomatch h)) (fun _ s1 S1 => wpAny_execs_nil ?_)
    · refine decide_eq_false fun h => cne ?_
      simpa using h
    · rw [List.pairwise_map]; exact csort.imp fun h => by (clear hu hl clen flen w1 w2 w3 hcl hfl hlast; omega)
    · simp
    obtain ⟨t1, t2⟩ := told_plain climb.dropLast (climb.getLast cne + 1) 3 none [5] (fun x hx => cpos x (List.dropLast_subset _ hx)) (by (clear hu hl clen flen w1 w2 w3 hcl hfl; omega)) (by (clear hu hl clen flen w1 w2 w3 hcl hfl; omega))
    have hdl : climb.dropLast.length + 3 = climb.length + 2 := by rw [List.length_dropLast]; (clear hu hl flen w1 w2 w3 hfl hlast; omega)
    rw [hdl] at t1
    refine sx_assign (d := Zs (iz (climb.dropLast ++ List.replicate 3 (climb.getLast cne + 1)))) S1 rm ((ev_fn p (told_ok (most := climb.length + 2) p V.told t2 (by (clear hu hl flen w1 w2 w3 hfl hlast; omega)) (by (clear hu hl flen w1 w2 w3 hfl hlast; omega))) (evl_cons ((ev_binop (ev_slice (ev_name rfl) evp_none (evp_some (ev_unop ev_int un_neg)) evp_none (by decide) (by simp; (clear hu hl flen w1 w2 w3 hfl hlast; omega))) (ev_list (evl_cons (ev_binop (ev_itemL 1 (ev_name rfl) (ev_unop ev_int un_neg) (Nat.le_refl _) (by simp; (clear hu hl flen w1 w2 w3 hfl hlast; omega)) (by simp; (clear hu hl flen w1 w2 w3 hfl hlast; omega)) hget) ev_int op_add) (evl_cons ev_int (evl_cons ev_int evl_nil)))) (op_addl ?_)).congr ?_) (evl_cons ((ev_binop (ev_boot p BP.len rfl (evl_cons (ev_name rfl) evl_nil) (call_lenL (by simp; (clear hu hl flen w1 w2 w3 hfl hlast; omega)))) ev_int op_add).congr ?_) evl_nil))).congr ?_) (.inl rfl) (fun s2 S2 => ?_)
    · rw [hbut]; simp; (clear hu hl flen w1 w2 w3 hfl hlast; omega)
    · rw [hbut]
      unfold Zs
      congr 1
      rw [List.map_append]
      rfl
    · congr 1; simp
    · rw [t1]
      unfold Zs
      congr 2
      simp
    refine sx_if (b := false) S2 rm ((tr_cmp (ev_name (d := Zs (iz (climb.dropLast ++ List.replicate 3 (climb.getLast cne + 1)))) rfl) ((ev_binop (ev_slice (ev_name (d := Zs (iz climb)) rfl) evp_none (evp_some (ev_unop ev_int un_neg)) evp_none (by decide) (by simp; (clear hu hl flen w1 w2 w3 hfl hlast; omega))) (ev_binop (ev_list (evl_cons (ev_binop (ev_itemL 1 (ev_name rfl) (ev_unop ev_int un_neg) (Nat.le_refl _) (by simp; (clear hu hl flen w1 w2 w3 hfl hlast; omega)) (by simp; (clear hu hl flen w1 w2 w3 hfl hlast; omega)) hget) ev_int op_add) evl_nil)) ev_int (op_mull (by decide) (by decide) (by simp))) (op_addl ?_)).congr (d' := Zs (iz (climb.dropLast ++ List.replicate 3 (climb.getLast cne + 1)))) ?_) cmp_nel).congr ?_) (fun h => (nomatch h)) (fun _ s3 S3 => wpAny_execs_nil ?_)
    · rw [hbut]; simp; (clear hu hl flen w1 w2 w3 hfl hlast; omega)
    · rw [hbut]
      unfold Zs
      congr 1
      simp only [iz, List.map_append]
      rfl
    · simp
    refine sx_if (b := false) S3 rm (tr_bool ⟨false, tr_val ((ev_comp (ρc := []) (β := βpair "one" "two") (p := fun _ => false) (f := fun d => d) (evit_zip p (.inr ⟨BP.zip, by decide, rfl⟩) (ev_name (d := Zs (iz fall)) rfl) (ev_slice (ev_name rfl) (evp_some ev_int) evp_none evp_none (by decide) (by simp; (clear hu hl clen w1 w2 w3 hcl hlast hdl; omega)))) ⟨rfl, nofun, rfl, rfl, rfl, rfl⟩ ?_ ?_ (fun d _ h => (nomatch h)) (fun d _ q hq => (nomatch hq)) ?_).congr (d' := .list []) (congrArg D.list (filt_false _ _))) (truth_list (ds := []) (by decide)), ⟨false, (tr_cmp (ev_binop (ev_itemL 1 (ev_name rfl) (ev_unop ev_int un_neg) (Nat.le_refl _) (by simp; (clear hu hl clen w1 w2 w3 hcl hlast hdl; omega)) (by simp; (clear hu hl clen w1 w2 w3 hcl hlast hdl; omega)) hgetf) ev_int op_sub) ((ev_slice (ev_name (d := Zs (iz fall)) rfl) evp_none (evp_some (ev_unop ev_int un_neg)) evp_none (by decide) (by simp; (clear hu hl clen w1 w2 w3 hcl hlast hdl; omega))).congr (d' := Zs (iz fall.dropLast)) (by rw [hbut])) cmp_in).congr ?_, rfl⟩⟩) (fun h => (nomatch h)) (fun _ s4 S4 => wpAny_execs_nil ?_)
    · intro d hd
      rw [show (1 : Int) = ((1 : Nat) : Int) from rfl, pick_from] at hd
      obtain ⟨a, b, rfl, _⟩ := zip_rise frise d hd
      exact bind_two
    · intro d hd
      rw [show (1 : Int) = ((1 : Nat) : Int) from rfl, pick_from] at hd
      obtain ⟨a, b, rfl, hab⟩ := zip_rise frise d hd
      exact ⟨false, (tr_cmp (ev_name rfl) (ev_name rfl) cmp_ge).congr (decide_eq_false (by (clear hu hl clen flen w1 w2 w3 hcl hfl hlast hdl; omega))), rfl⟩
    · rw [show (1 : Int) = ((1 : Nat) : Int) from rfl, pick_from]
      exact Nat.le_trans (zipD_le _ _) (by simp; (clear hu hl clen w1 w2 w3 hcl hlast hdl; omega))
    · rw [List.any_eq_false]
      intro x hx
      obtain ⟨y, hy, rfl⟩ := List.mem_map.mp hx
      have := flast y hy
      have h1 := List.dropLast_subset _ hy
      simp; (clear hu hl clen flen w1 w2 w3 hcl hfl hlast hdl; omega)
    have bC : ∀ f ∈ iz climb, f.natAbs ≤ 255 := fun f hf => by
      obtain ⟨y, hy, rfl⟩ := List.mem_map.mp hf
      have := cpos y hy; (clear hu hl clen flen w1 w2 w3 hcl hfl hlast hdl; omega)
    have bT : ∀ f ∈ iz (climb.dropLast ++ List.replicate 3 (climb.getLast cne + 1)), f.natAbs ≤ 255 := fun f hf => by
      obtain ⟨y, hy, rfl⟩ := List.mem_map.mp hf
      rcases List.mem_append.mp hy with h | h
      · have := cpos y (List.dropLast_subset _ h); (clear hu hl clen flen w1 w2 w3 hcl hfl hlast hdl; omega)
      · rw [(List.mem_replicate.mp h).2]; (clear hu hl clen flen w1 w2 w3 hcl hfl hdl; omega)
    have bF : ∀ f ∈ iz fall, f.natAbs ≤ 255 := fun f hf => by
      obtain ⟨y, hy, rfl⟩ := List.mem_map.mp hf
      have := fpos y hy; (clear hu hl clen flen w1 w2 w3 hcl hfl hlast hdl; omega)
    have lT : (iz (climb.dropLast ++ List.replicate 3 (climb.getLast cne + 1))).length ≤ 200 := by simp; (clear hu hl flen w1 w2 w3 hfl hlast; omega)
    have q1 := worthF_bd (row := iz climb) (a := 0) (b := 1) (sg := 1) (by simp; (clear hu hl flen w1 w2 w3 hfl hlast lT; omega)) bC (by decide) (by decide)
    have q2 := worthF_bd (row := iz (climb.dropLast ++ List.replicate 3 (climb.getLast cne + 1))) (a := 1) (b := (climb.getLast cne : Nat)) (sg := 1) lT bT (by decide) (by (clear hu hl clen flen w1 w2 w3 hcl hfl hdl lT q1; omega))
    have q3 := worthF_bd (row := iz fall) (a := 0) (b := 1) (sg := -1) (by simp; (clear hu hl clen w1 w2 w3 hcl hlast hdl lT q1 q2; omega)) bF (by decide) (by decide)
    have hsm : (255 : Nat) < 2 ^ 4000 := Nat.lt_of_lt_of_le (by decide : 255 < 2 ^ 8) (Nat.pow_le_pow_right (by decide) (by decide))
    refine sx_assign (d := .list [.tup [.int (worthF (iz climb) 0 1 1).1, .int (worthF (iz climb) 0 1 1).2], .tup [.int (worthF (iz (climb.dropLast ++ List.replicate 3 (climb.getLast cne + 1))) 1 (climb.getLast cne : Nat) 1).1, .int (worthF (iz (climb.dropLast ++ List.replicate 3 (climb.getLast cne + 1))) 1 (climb.getLast cne : Nat) 1).2], .tup [.int (worthF (iz fall) 0 1 (-1)).1, .int (worthF (iz fall) 0 1 (-1)).2]]) S4 rm
      (ev_list (evl_cons (ev_fn p (worth_ok p DW (by simp; (clear hu hl flen w1 w2 w3 hfl hlast lT q1 q2 q3 hsm; omega)) bC (by decide) (by decide)) (evl_cons (ev_name rfl) (evl_cons ev_int (evl_cons ev_int (evl_cons ev_int evl_nil)))))
        (evl_cons (ev_fn p (worth_ok p DW lT bT (by decide) (by (clear hu hl clen flen w1 w2 w3 hcl hfl hdl lT q1 q2 q3 hsm; omega))) (evl_cons (ev_name rfl) (evl_cons ev_int (evl_cons (ev_itemL 1 (ev_name rfl) (ev_unop ev_int un_neg) (Nat.le_refl _) (by simp; (clear hu hl flen w1 w2 w3 hfl hlast lT q1 q2 q3 hsm; omega)) (by simp; (clear hu hl flen w1 w2 w3 hfl hlast lT q1 q2 q3 hsm; omega)) hget) (evl_cons ev_int evl_nil)))))
          (evl_cons (ev_fn p (worth_ok p DW (by simp; (clear hu hl clen w1 w2 w3 hcl hlast hdl lT q1 q2 q3 hsm; omega)) bF (by decide) (by decide)) (evl_cons (ev_name rfl) (evl_cons ev_int (evl_cons ev_int (evl_cons (ev_unop ev_int un_neg) evl_nil))))) evl_nil)))) (.inl rfl) (fun s5 S5 => ?_)
    generalize hW1 : worthF (iz climb) 0 1 1 = W1 at *
    generalize hW2 : worthF (iz (climb.dropLast ++ List.replicate 3 (climb.getLast cne + 1))) 1 (climb.getLast cne : Nat) 1 = W2 at *
    generalize hW3 : worthF (iz fall) 0 1 (-1) = W3 at *
    have elt : ∀ w : Int × Int, w.1 * l = u * w.2 → w.1.natAbs < 2 ^ 4000 ∧ w.2.natAbs < 2 ^ 4000 → ∀ {sc : Scope} {ρ : Rho} {ab la ub be : PySem.Expr} {pos p1 p2 : Pos}, Ev P 69 sc ρ ab (.int w.1) → Ev P 69 sc ρ la (.int l) → Ev P 69 sc ρ ub (.int u) → Ev P 69 sc ρ be (.int w.2) → behindInMarks .Eq (.BinOp ub .Mult be p2) = false →
        Ev P 69 sc ρ (.Compare (.BinOp ab .Mult la p1) [.Eq] [.BinOp ub .Mult be p2] pos) (.bool true) := fun w he hb sc ρ ab la ub be pos p1 p2 h1 h2 h3 h4 hm =>
      (ev_cmp (ev_binop h1 h2 (op_mul (mulOkB hb.1 (by (clear hu clen flen hcl hfl hlast hdl lT hsm w1 q1 w2 q2 w3 q3 he hb; omega))))) (ev_binop h3 h4 (op_mul (mulOkB (by (clear hl clen flen hcl hfl hlast hdl lT hsm w1 q1 w2 q2 w3 q3 he hb; omega)) hb.2))) cmp_eq hm).congr (by rw [he]; simp)
    refine sx_return S5 rm ((ev_cmp ev_bool ((ev_comp (ρc := [("lower", .int l), ("upper", .int u)]) (β := βpair "above" "below") (p := fun _ => true) (f := fun _ => .bool true) (evit_list (ev_name rfl)) ⟨rfl, ?_, rfl, rfl, rfl, rfl⟩ ?_ ?_ ?_ ?_ (by simp)).congr (d' := .list ([true, true, true].map .bool)) rfl) cmp_notinb).congr rfl) fun v s' st r => ⟨v, rfl, st, r⟩
    · exact subs_cons rfl (subs_cons rfl (subs_nil))
    · intro d hd
      rcases hd with _ | ⟨_, _ | ⟨_, _ | ⟨_, q⟩⟩⟩ <;> first | exact bind_two | cases q
    · intro d hd
      rfl
    · intro d hd _
      rcases hd with _ | ⟨_, _ | ⟨_, _ | ⟨_, q⟩⟩⟩
      · exact elt W1 w1 q1 (ev_name rfl) (ev_name rfl) (ev_name rfl) (ev_name rfl) (by with_unfolding_all rfl)
      · exact elt W2 w2 q2 (ev_name rfl) (ev_name rfl) (ev_name rfl) (ev_name rfl) (by with_unfolding_all rfl)
      · exact elt W3 w3 q3 (ev_name rfl) (ev_name rfl) (ev_name rfl) (ev_name rfl) (by with_unfolding_all rfl)
      · cases q
    · intro d hd q hq
      rcases hd with _ | ⟨_, _ | ⟨_, _ | ⟨_, q⟩⟩⟩ <;> first | (rcases hq with _ | ⟨_, _ | ⟨_, q⟩⟩ <;> first | rfl | cases q) | cases q
end
end Mine
end
section
open PySem PySem.W PySem.Calls PyProof.Rows
set_option Elab.async false
set_option maxRecDepth 100000
set_option linter.unusedVariables false
set_option maxHeartbeats 4000000
namespace Mine
noncomputable def sgn (a : Int) : Int := (if decide (0 < a) then 1 else 0) - (if decide (a < 0) then 1 else 0)
section
variable {P : Prm} {n : Nat} {C : Addr}
theorem binds_both : Binds (B0 24) ["one", "two", "due"] := by
  intro fd h1 h2 h3 vs hl
  obtain ⟨x, q, pr, b, sc, g, c, d, k, _⟩ := fd
  simp only at h1 h2 h3
  subst h1 h2 h3
  obtain ⟨u, v, w, rfl⟩ := len3 hl
  rfl
structure LawD (P : Prm) : Prop where
  climb : Def P "_law_climb" (B0 20)
  fall : Def P "_law_fall" (B0 21)
  holds : Def P "_law_holds" (B0 22)
  worth : Def P "_law_worth" (B0 18)
  turned : Def P "_law_turned" (B0 23)
  coll : Def P "_strcoll" (B0 12)
  both : Def P "_law_both" (B0 24)
  lowest : Def P "_law_lowest" (B0 19)
  ruler : Def P "_law_ruler" (B0 17)
  enum : Boot P "enumerate"
  chr : Boot P "chr"
  int : Boot P "int"
noncomputable abbrev fC : D → D
  | .tup [.int u, .int l] => Zs (iz (climbL l.toNat l.toNat u.toNat))
  | _ => .none
noncomputable abbrev fF : D → D
  | .tup [.int u, .int l] => Zs (iz (fallL l.toNat l.toNat u.toNat))
  | _ => .none
noncomputable abbrev fS : D → D
  | .list l => .str (sOf (l.map fun d => match d with | .int i => (2000 - i).toNat | _ => 0))
  | _ => .none
noncomputable abbrev fT : D → D
  | .list l => .str (sOf (turnedL (l.map fun d => match d with | .int i => i.toNat | _ => 0)))
  | _ => .none
theorem fS_iz (c : List Nat) : fS (Zs (iz c)) = .str (sOf (c.map (2000 - ·))) := by
  show D.str (sOf _) = _
  rw [List.map_map, List.map_map]
  congr 2
  apply List.map_congr_left
  intro y _
  simp only [Function.comp]; omega
theorem fT_iz (c : List Nat) : fT (Zs (iz c)) = .str (sOf (turnedL c)) := by
  show D.str (sOf (turnedL _)) = _
  rw [List.map_map, List.map_map]
  congr 3
  conv => rhs; rw [← List.map_id c]
  apply List.map_congr_left
  intro y _
  rfl
theorem step_ok (p : PrmOK P) (bc : Boot P "chr") {c : List Nat} (hc1 : c.length < 60) (hc2 : ∀ x ∈ c, 1 ≤ x ∧ x ≤ 125) {sc : Scope} {ρ : Rho} {pp xp jp lp p1 p2 p3 p4 : Pos} {scope : Scope} {k0 : Nat}
    (hlk : ρ.lookup (Str.ofString "climb") = some (Zs (iz c))) (hcap : Caps scope sc ρ []) (hch : (compSc scope sc).names.lookup (Str.ofString "chr") = some .globalImplicit) (hfa : (compSc scope sc).names.lookup (Str.ofString "factor") = some .local) :
    Ev P n sc ρ (.ListComp (.Call (.Name "chr" p1) [.BinOp (.Constant (.int 2000) k0 p2) .Sub (.Name "factor" p3) p4] [] pp) [⟨.Name "factor" xp, .Name "climb" jp, [], 0⟩] scope lp) (Ss ((c.map (2000 - ·)).map fun x => (⟨#[x]⟩ : Str))) := by
  refine (ev_comp (ds := (iz c).map D.int) (ρc := []) (β := fun d => [("factor", d)]) (p := fun _ => true) (f := fun d => match d with | .int i => .str ⟨#[(2000 - i).toNat]⟩ | _ => .none) (evit_list (ev_name hlk)) hcap (fun d _ => bind_name hfa) (fun d _ => by rfl) (fun d hd _ => ?_) (fun d _ q hq => (nomatch hq)) (by rw [List.length_map, List.length_map]; omega)).congr ?_
  · obtain ⟨i, hi, rfl⟩ := List.mem_map.mp hd
    obtain ⟨y, hy, rfl⟩ := List.mem_map.mp hi
    have := hc2 y hy
    exact ev_boot p bc rfl (evl_cons (ev_binop ev_int (ev_name rfl) op_sub) evl_nil) (call_chr (by (clear hc1; omega)) (by (clear hc1; omega))) (hx := hch)
  · rw [filt_true, List.map_map, List.map_map]
    unfold Ss
    rw [List.map_map, List.map_map]
    congr 1
    apply List.map_congr_left
    intro y hy
    have := hc2 y hy
    simp only [Function.comp]
    rw [show (2000 - (y : Int)).toNat = 2000 - y from by (clear hc1; omega)]
theorem join_ok {c : List Nat} (hc1 : c.length < 60) : CallOK P n (.builtin "str.join") [.str "", Ss ((c.map (2000 - ·)).map fun x => (⟨#[x]⟩ : Str))] (fS (Zs (iz c))) := by
  have hj : Txt.join "" ((c.map (2000 - ·)).map fun x => (⟨#[x]⟩ : Str)) = sOf (c.map (2000 - ·)) := join_signs _
  rw [fS_iz, ← hj]
  refine call_join ?_
  have : ∀ l : List Nat, ((l.map fun x => (⟨#[x]⟩ : Str)).map (·.length)).sum = l.length := fun l => by
    induction l with
    | nil => rfl
    | cons a r ih => rw [List.map_cons, List.map_cons, List.sum_cons, ih, List.length_cons]; show 1 + _ = _; (clear hc1 ih; omega)
  rw [this, List.length_map, List.length_map]
  have : (Str.ofString "").length = 0 := rfl
  rw [this]; (clear this; omega)
theorem both_ok (p : PrmOK P) (V : LawP P C) (BP : BootP P) (L : LawD P) {u1 l1 u2 l2 : Nat} {due : List Nat} (hu1 : 0 < u1) (hul1 : u1 ≤ l1) (hl1 : l1 ≤ 125) (hu2 : 0 < u2) (hul2 : u2 ≤ l2) (hl2 : l2 ≤ 125)
    (H1 : HoldH u1 l1 (climbL l1 l1 u1) (fallL l1 l1 u1)) (H2 : HoldH u2 l2 (climbL l2 l2 u2) (fallL l2 l2 u2)) (hdue : climbL l1 l1 u1 = due)
    (hs : collS ((climbL l1 l1 u1).map (2000 - ·)) ((climbL l2 l2 u2).map (2000 - ·)) = sgn ((u1 : Int) * l2 - u2 * l1)) (ht : collS (turnedL (fallL l1 l1 u1)) (turnedL (fallL l2 l2 u2)) = sgn ((u1 : Int) * l2 - u2 * l1)) :
    Ok P "_law_both" 180 [.tup [.int u1, .int l1], .tup [.int u2, .int l2], Zs (iz due)] (.bool true) :=
  L.both.ok p ⟨rfl, by decide, by rfl, ⟨rfl, rfl, rfl⟩, by decide⟩ binds_both rfl fun fd X Z env A s S0 rm _ _ => by
    refine sx_comp (ρc := []) (β := βpair "upper" "lower") (p := fun _ => true) (f := fC) (SS.start S0) rm (evit_list (ev_list (evl_cons (ev_name (d := .tup [.int u1, .int l1]) rfl) (evl_cons (ev_name (d := .tup [.int u2, .int l2]) rfl) evl_nil)))) ⟨rfl, nofun, rfl, rfl, rfl, rfl⟩ ?_ ?_ ?_ ?_ (by simp) rfl (fun s1 S1 => ?_) ?_
    · intro d hd
      rcases hd with _ | ⟨_, _ | ⟨_, q⟩⟩ <;> first | exact bind_two | cases q
    · intro d hd
      rfl
    · intro d hd _
      rcases hd with _ | ⟨_, _ | ⟨_, q⟩⟩
      · exact ev_fn p (climb_ok p V L.climb hu1 hul1 hl1) (evl_cons (ev_name rfl) (evl_cons (ev_name rfl) evl_nil))
      · exact ev_fn p (climb_ok p V L.climb hu2 hul2 hl2) (evl_cons (ev_name rfl) (evl_cons (ev_name rfl) evl_nil))
      · cases q
    · intro d hd q hq
      cases hq
    refine sx_comp (ρc := []) (β := βpair "upper" "lower") (p := fun _ => true) (f := fF) S1 rm (evit_list (ev_list (evl_cons (ev_name (d := .tup [.int u1, .int l1]) rfl) (evl_cons (ev_name (d := .tup [.int u2, .int l2]) rfl) evl_nil)))) ⟨rfl, nofun, rfl, rfl, rfl, rfl⟩ ?_ ?_ ?_ ?_ (by simp) rfl (fun s2 S2 => ?_) ?_
    · intro d hd
      rcases hd with _ | ⟨_, _ | ⟨_, q⟩⟩ <;> first | exact bind_two | cases q
    · intro d hd
      rfl
    · intro d hd _
      rcases hd with _ | ⟨_, _ | ⟨_, q⟩⟩
      · exact ev_fn p (fall_ok p V L.fall hu1 hul1 hl1) (evl_cons (ev_name rfl) (evl_cons (ev_name rfl) evl_nil))
      · exact ev_fn p (fall_ok p V L.fall hu2 hul2 hl2) (evl_cons (ev_name rfl) (evl_cons (ev_name rfl) evl_nil))
      · cases q
    · intro d hd q hq
      cases hq
    have S2' : SS P X Z s Z X env (defScope (B0 24)) [("falls", .list [Zs (iz (fallL l1 l1 u1)), Zs (iz (fallL l2 l2 u2))]), ("climbs", .list [Zs (iz (climbL l1 l1 u1)), Zs (iz (climbL l2 l2 u2))]), ("one", .tup [.int u1, .int l1]), ("two", .tup [.int u2, .int l2]), ("due", Zs (iz due))] none s2 := S2
    clear S2 S1
    have hC1 := H1.clen
    have hC2 := H2.clen
    have hF1 := H1.flen
    have hF2 := H2.flen
    have fp1 := H1.fpos
    have fp2 := H2.fpos
    have cp1 := H1.cpos
    have cp2 := H2.cpos
    refine sx_if (b := false) S2' rm (tr_bool ⟨false, (tr_cmp (ev_itemN 0 (d := Zs (iz (climbL l1 l1 u1))) (ev_name rfl) ev_int (by simp) rfl) (ev_name (d := Zs (iz due)) rfl) cmp_nel).congr ?_, ⟨false, tr_not (b := true) (tr_val (ev_fn p (holds_ok p V BP L.holds L.worth (by (clear hu1 hu2 hul2 hl2 hs ht hC1 hC2 hF1 hF2; omega)) hl1 H1) (evl_cons (ev_itemT (k := 0) (d := .int u1) (ev_name rfl) ev_int (by decide) (by simp) rfl) (evl_cons (ev_itemT (k := 1) (d := .int l1) (ev_name rfl) ev_int (by decide) (by simp) rfl) (evl_cons (ev_itemN 0 (d := Zs (iz (climbL l1 l1 u1))) (ev_name rfl) ev_int (by simp) rfl) (evl_cons (ev_itemN 0 (d := Zs (iz (fallL l1 l1 u1))) (ev_name rfl) ev_int (by simp) rfl) evl_nil))))) truth_bool), rfl⟩⟩) (fun h => (nomatch h)) (fun _ s3 S3 => wpAny_execs_nil ?_)
    · rw [hdue]; simp
    refine sx_if (b := false) S3 rm (tr_not (b := true) (tr_val (ev_fn p (holds_ok p V BP L.holds L.worth (by (clear hu1 hul1 hl1 hu2 hs ht hC1 hC2 hF1 hF2; omega)) hl2 H2) (evl_cons (ev_itemT (k := 0) (d := .int u2) (ev_name rfl) ev_int (by decide) (by simp) rfl) (evl_cons (ev_itemT (k := 1) (d := .int l2) (ev_name rfl) ev_int (by decide) (by simp) rfl) (evl_cons (ev_itemN 1 (d := Zs (iz (climbL l2 l2 u2))) (ev_name rfl) ev_int (by simp) rfl) (evl_cons (ev_itemN 1 (d := Zs (iz (fallL l2 l2 u2))) (ev_name rfl) ev_int (by simp) rfl) evl_nil))))) truth_bool)) (fun h => (nomatch h)) (fun _ s4 S4 => wpAny_execs_nil ?_)
    refine sx_assign (d := .int ((u1 : Int) * l2 - u2 * l1)) S4 rm (ev_binop (ev_binop (ev_itemT (k := 0) (d := .int u1) (ev_name rfl) ev_int (by decide) (by simp) rfl) (ev_itemT (k := 1) (d := .int l2) (ev_name rfl) ev_int (by decide) (by simp) rfl) (op_mul (mulOk (by (clear hu2 hul2 hl2 hs ht hC1 hC2 hF1 hF2; omega)) (by (clear hu1 hul1 hl1 hu2 hul2 hs ht hC1 hC2 hF1 hF2; omega))))) (ev_binop (ev_itemT (k := 0) (d := .int u2) (ev_name rfl) ev_int (by decide) (by simp) rfl) (ev_itemT (k := 1) (d := .int l1) (ev_name rfl) ev_int (by decide) (by simp) rfl) (op_mul (mulOk (by (clear hu1 hul1 hl1 hs ht hC1 hC2 hF1 hF2; omega)) (by (clear hu1 hul1 hu2 hul2 hl2 hs ht hC1 hC2 hF1 hF2; omega))))) op_sub) (.inl rfl) (fun s5 S5 => ?_)
    refine sx_assign (d := .int (sgn ((u1 : Int) * l2 - u2 * l1))) S5 rm (ev_binop (ev_cmp (ev_name rfl) ev_int cmp_gt) (ev_cmp (ev_name rfl) ev_int cmp_lt) op_sub_bool) (.inl rfl) (fun s6 S6 => ?_)
    refine sx_comp (ρc := []) (β := fun d => [("climb", d)]) (p := fun _ => true) (f := fS) S6 rm (evit_list (ev_name (d := .list [Zs (iz (climbL l1 l1 u1)), Zs (iz (climbL l2 l2 u2))]) rfl)) ⟨rfl, nofun, rfl, rfl, rfl, rfl⟩ (fun d _ => bind_name) ?_ ?_ ?_ (by simp) rfl (fun s7 S7 => ?_) ?_
    · intro d hd
      rfl
    · intro d hd _
      rcases hd with _ | ⟨_, _ | ⟨_, q⟩⟩
      · exact ev_meth p ev_str (evl_cons (step_ok p L.chr hC1 cp1 (by rfl) ⟨rfl, nofun, rfl, rfl, rfl, rfl⟩ (by rfl) (by rfl)) evl_nil) mJoin (join_ok hC1)
      · exact ev_meth p ev_str (evl_cons (step_ok p L.chr hC2 cp2 (by rfl) ⟨rfl, nofun, rfl, rfl, rfl, rfl⟩ (by rfl) (by rfl)) evl_nil) mJoin (join_ok hC2)
      · cases q
    · intro d hd q hq
      cases hq
    refine sx_comp (ρc := []) (β := fun d => [("fall", d)]) (p := fun _ => true) (f := fT) S7 rm (evit_list (ev_name (d := .list [Zs (iz (fallL l1 l1 u1)), Zs (iz (fallL l2 l2 u2))]) rfl)) ⟨rfl, nofun, rfl, rfl, rfl, rfl⟩ (fun d _ => bind_name) ?_ ?_ ?_ (by simp) rfl (fun s8 S8 => ?_) ?_
    · intro d hd
      rfl
    · intro d hd _
      rcases hd with _ | ⟨_, _ | ⟨_, q⟩⟩
      · exact (ev_fn p (turned_ok p V L.turned L.enum L.chr (by (clear hu1 hul1 hl1 hu2 hul2 hl2 hs ht hC1 hC2 hF2; omega)) (fun f hf => Nat.le_trans (fp1 f hf) (by decide))) (evl_cons (ev_name rfl) evl_nil)).congr (fT_iz _).symm
      · exact (ev_fn p (turned_ok p V L.turned L.enum L.chr (by (clear hu1 hul1 hl1 hu2 hul2 hl2 hs ht hC1 hC2 hF1; omega)) (fun f hf => Nat.le_trans (fp2 f hf) (by decide))) (evl_cons (ev_name rfl) evl_nil)).congr (fT_iz _).symm
      · cases q
    · intro d hd q hq
      cases hq
    refine sx_return S8 rm (ev_and ((ev_cmp (ev_fn p (coll_ok p L.coll) (evl_cons (ev_itemN 0 (d := .str (sOf ((climbL l1 l1 u1).map (2000 - ·)))) (ev_name (d := .list [fS (Zs (iz (climbL l1 l1 u1))), fS (Zs (iz (climbL l2 l2 u2)))]) rfl) ev_int (by simp) ?_) (evl_cons (ev_itemN 1 (d := .str (sOf ((climbL l2 l2 u2).map (2000 - ·)))) (ev_name (d := .list [fS (Zs (iz (climbL l1 l1 u1))), fS (Zs (iz (climbL l2 l2 u2)))]) rfl) ev_int (by simp) ?_) evl_nil))) (ev_name rfl) cmp_eq).congr ?_)
      ((ev_cmp (ev_fn p (coll_ok p L.coll) (evl_cons (ev_itemN 0 (d := .str (sOf (turnedL (fallL l1 l1 u1)))) (ev_name (d := .list [fT (Zs (iz (fallL l1 l1 u1))), fT (Zs (iz (fallL l2 l2 u2)))]) rfl) ev_int (by simp) ?_) (evl_cons (ev_itemN 1 (d := .str (sOf (turnedL (fallL l2 l2 u2)))) (ev_name (d := .list [fT (Zs (iz (fallL l1 l1 u1))), fT (Zs (iz (fallL l2 l2 u2)))]) rfl) ev_int (by simp) ?_) evl_nil))) (ev_name rfl) cmp_eq).congr ?_)) fun v s' st r => ⟨v, rfl, st, r⟩
    · show some (fS _) = _; rw [fS_iz]
    · show some (fS _) = _; rw [fS_iz]
    · rw [hs]; simp
    · show some (fT _) = _; rw [fT_iz]
    · show some (fT _) = _; rw [fT_iz]
    · rw [ht]; simp
    · intro env h
      obtain ⟨⟩ := env
      simp only at h
      subst h
      rfl
    · intro env h
      obtain ⟨⟩ := env
      simp only at h
      subst h
      rfl
    · intro env h
      obtain ⟨⟩ := env
      simp only at h
      subst h
      rfl
    · intro env h
      obtain ⟨⟩ := env
      simp only at h
      subst h
      rfl
end
end Mine
end
section
open PySem PySem.W PySem.Calls PyProof.Rows
set_option Elab.async false
set_option maxRecDepth 100000
set_option linter.unusedVariables false
set_option maxHeartbeats 1000000
namespace Mine
noncomputable def tails : Nat → List Int
  | 0 => [0, 9]
  | 1 => [127, 9]
  | _ => []
theorem tails_get : ∀ {form : Nat}, form < 3 → [D.list [.int 0, .int 9], D.list [.int 127, .int 9], D.list []][form]? = some (Zs (tails form))
  | 0, _ => rfl
  | 1, _ => rfl
  | 2, _ => rfl
  | _ + 3, h => by omega
theorem tails_len : ∀ form : Nat, (tails form).length ≤ 2
  | 0 => by decide
  | 1 => by decide
  | _ + 2 => by simp [tails]
noncomputable def lastL (s : List Nat) : Nat := s.getLastD 0
noncomputable def dueL (s : List Nat) (form : Nat) : List Nat := if form = 0 then s.filter (fun x => decide (x < lastL s)) ++ [lastL s - 1] else s
theorem due_list (sz : List Nat) (m : Nat) (h : 1 ≤ m) : ((((iz sz).map D.int).filter (fun d => match d with | .int i => decide (i < (m : Nat)) | _ => false)).map (fun d => d)) ++ [D.int ((m : Int) - 1)] = (iz (sz.filter (fun x => decide (x < m)) ++ [m - 1])).map D.int := by
  simp only [iz, List.map_append, List.map_id', List.map_cons, List.map_nil]
  congr 1
  · induction sz with
    | nil => rfl
    | cons x r ih =>
      simp only [List.map_cons, List.filter_cons]
      by_cases hx : x < m
      · rw [if_pos (decide_eq_true (by (clear h; omega))), if_pos (decide_eq_true hx), ih]; rfl
      · rw [if_neg (by simp; (clear h; omega)), if_neg (by simp; (clear h; omega)), ih]
  · congr 2; omega
noncomputable def toldL (s : List Nat) (form : Nat) : List Int := told 5 none (iz s ++ tails form)
noncomputable def wL (s : List Nat) (form : Nat) : Int × Int := if form = 0 then worthF (toldL s form) 1 ((lastL s : Int) - 1) 1 else worthF (toldL s form) 0 1 1
/-- what is asked of a ruler -/
structure RulerH (s : List Nat) (form : Nat) (a b : Nat) : Prop where
  ne : s ≠ []
  len : s.length ≤ 3
  pos : ∀ x ∈ s, 2 ≤ x ∧ x ≤ 8
  tok : tOK none (iz s ++ tails form) = true
  told : toldL s form = if form = 0 then iz s ++ List.replicate (5 - s.length) (lastL s : Int) else iz s
  w : wL s form = ((a : Int), (b : Int))
  ha : a < 2 ^ 24
  hb0 : 0 < b
  hb : b < 2 ^ 24
noncomputable def drawnN (script : List Int) : List Nat := (script.take 6).map fun c => (c.fmod 1000000).toNat
noncomputable def cellsN (script : List Int) : List Nat := drawnN script ++ [0, 1, 2, 2, 8, 6].drop (drawnN script).length
theorem cells_six (script : List Int) : ∃ c0 c1 c2 c3 c4 c5 : Nat, cellsN script = [c0, c1, c2, c3, c4, c5] := by
  unfold cellsN
  have h : (drawnN script).length ≤ 6 := by unfold drawnN; simp; omega
  generalize drawnN script = d at *
  match d, h with
  | [], _ => exact ⟨_, _, _, _, _, _, rfl⟩
  | [_], _ => exact ⟨_, _, _, _, _, _, rfl⟩
  | [_, _], _ => exact ⟨_, _, _, _, _, _, rfl⟩
  | [_, _, _], _ => exact ⟨_, _, _, _, _, _, rfl⟩
  | [_, _, _, _], _ => exact ⟨_, _, _, _, _, _, rfl⟩
  | [_, _, _, _, _], _ => exact ⟨_, _, _, _, _, _, rfl⟩
  | [_, _, _, _, _, _], _ => exact ⟨_, _, _, _, _, _, rfl⟩
  | _ :: _ :: _ :: _ :: _ :: _ :: _ :: _, h => simp at h
section
variable {P : Prm} {n : Nat} {C : Addr}
noncomputable abbrev fM : D → D
  | .int i => .int (i.fmod 1000000)
  | _ => .none
theorem law_body (p : PrmOK P) (V : LawP P C) (BP : BootP P) (L : LawD P) {script : List Int} (hlen : script.length ≤ 63) {X Z : ASet} {env : Env} {A : Around} {s : Shared} (S0 : Sta P Z s X env (defScope (B0 25)) [("script", Zs script)] s) (rm : Room A 200)
    {c0 c1 c2 c3 c4 c5 a b : Nat} (hc : cellsN script = [c0, c1, c2, c3, c4, c5]) (R : RulerH (ruler c0 c1 c2 c3) (c3 / 3 % 3) a b)
    (hboth : Ok P "_law_both" 180 [.tup [.int (a / Nat.gcd a b : Nat), .int (b / Nat.gcd a b : Nat)], .tup [.int (1 + c5 % (1 + c4 % 40) : Nat), .int (2 + c4 % 40 : Nat)], Zs (iz (dueL (ruler c0 c1 c2 c3) (c3 / 3 % 3)))] (.bool true)) :
    wpAny (model P.prog P.w) A (execs (defBody (B0 25)) env) (fun f s' => ∃ v, f = .ret v ∧ Step P Z s s' ∧ v = .bool true) F0 s := by
  have hd6 : (10 : Int) ^ (6 : Int).toNat = 1000000 := by decide
  refine sx_comp (ρc := []) (β := fun d => [("cell", d)]) (p := fun _ => true) (f := fM) (SS.start S0) rm (evit_list (ev_slice (ev_name (d := Zs script) rfl) evp_none (evp_some ev_int) evp_none (by decide) (by simp; (clear hd6; omega)))) ⟨rfl, nofun, rfl, rfl, rfl, rfl⟩ (fun d _ => bind_name) ?_ ?_ ?_ ?_ rfl (fun s1 S1 => ?_) ?_
  · intro d hd
    rfl
  · intro d hd _
    rw [show (6 : Int) = ((6 : Nat) : Int) from rfl, pick_upto, ← List.map_take] at hd
    obtain ⟨i, _, rfl⟩ := List.mem_map.mp hd
    exact (ev_binop (ev_boot p L.int rfl (evl_cons (ev_name rfl) evl_nil) call_int) (ev_binop ev_int ev_int (op_pow (by decide) (by decide) (by decide))) (op_mod (by decide))).congr (by rw [hd6])
  · intro d hd q hq
    cases hq
  · rw [show (6 : Int) = ((6 : Nat) : Int) from rfl, pick_upto]; simp; (clear hd6; omega)
  · have hdr : (((pick (script.map D.int) none (some 6) none).filter fun _ => true).map fM) = (iz (drawnN script)).map D.int := by
      rw [filt_true, show (6 : Int) = ((6 : Nat) : Int) from rfl, pick_upto, ← List.map_take]
      unfold drawnN
      rw [List.map_map, List.map_map, List.map_map]
      apply List.map_congr_left
      intro x _
      have := Int.fmod_nonneg_of_pos x (show (0 : Int) < 1000000 by decide)
      show D.int (x.fmod 1000000) = D.int (((x.fmod 1000000).toNat : Nat) : Int)
      rw [Int.toNat_of_nonneg this]
    rw [hdr] at S1
    obtain ⟨hne, hlen3, hpos, htok, told, hw, ha, hb0, hb⟩ := R
    have hdl : (drawnN script).length ≤ 6 := by unfold drawnN; simp; (clear hd6 hne hlen3 ha hb0 hb; omega)
    refine sx_assign (d := Zs (iz [c0, c1, c2, c3, c4, c5])) S1 rm ((ev_binop (ev_name rfl) (ev_slice (ev_list (evl_cons ev_int (evl_cons ev_int (evl_cons ev_int (evl_cons ev_int (evl_cons ev_int (evl_cons ev_int evl_nil))))))) (evp_some (ev_boot p V.ws.len rfl (evl_cons (ev_name rfl) evl_nil) (call_lenL (by simp; (clear hlen hd6 hne hlen3 ha hb0 hb; omega))))) evp_none evp_none (by decide) (by decide)) (op_addl ?_)).congr ?_) (.inl rfl) (fun s2 S2 => ?_)
    · rw [pick_from]; simp; (clear hlen hd6 hne hlen3 ha hb0 hb; omega)
    · rw [← hc, pick_from]
      unfold cellsN Zs
      simp only [iz, List.map_append, List.map_drop, List.length_map]
      rfl
    refine sx_pair S2 rm (ev_fn p (ruler_ok p L.ruler) (evl_cons (ev_name rfl) evl_nil)) (.inl rfl) (.inl rfl) (fun s3 S3 => ?_)
    generalize hs : ruler c0 c1 c2 c3 = sz at *
    have hform : c3 / 3 % 3 < 3 := Nat.mod_lt _ (by decide)
    generalize hf : c3 / 3 % 3 = form at *
    have hcat : iz sz ++ tails form = iz sz ++ tails form := rfl
    refine sx_assign (d := Zs (toldL sz form)) S3 rm (ev_fn p (told_ok (most := 5) p V.told htok (by decide) (by decide)) (evl_cons ((ev_binop (ev_name rfl) (ev_itemN form (d := Zs (tails form)) (ev_list (evl_cons (ev_list (evl_cons ev_int (evl_cons ev_int evl_nil))) (evl_cons (ev_list (evl_cons ev_int (evl_cons ev_int evl_nil))) (evl_cons (ev_list evl_nil) evl_nil)))) (ev_name rfl) (by simp) ?_) (op_addl ?_)).congr ?_) (evl_cons ev_int evl_nil))) (.inl rfl) (fun s4 S4 => ?_)
    · exact tails_get hform
    · have := tails_len form
      simp; (clear hlen hd6 ha hb0 hb hdl hne hf hform; omega)
    · unfold Zs; rw [List.map_append]
    have hL : 1 ≤ sz.length := List.length_pos_iff.mpr hne
    have hlast : sz.getLast? = some (lastL sz) := by
      unfold lastL; rw [List.getLastD_eq_getLast?, List.getLast?_eq_some_getLast hne]; rfl
    have hlm : lastL sz ∈ sz := List.mem_of_getLast? hlast
    have hlp := hpos _ hlm
    refine sx_assign (d := .int (lastL sz : Nat)) S4 rm (ev_itemL 1 (ev_name (d := Zs (iz sz)) rfl) (ev_unop ev_int un_neg) (Nat.le_refl _) (by simp; (clear hlen hd6 ha hb0 hb hdl hne hf hform hlp; omega)) (by simp; (clear hlen hd6 ha hb0 hb hdl hne hf hform hlp; omega)) ?_) (.inr rfl) (fun s5 S5 => ?_)
    · rw [← List.getLast?_eq_getElem?, List.map_map, List.getLast?_map, hlast]; rfl
    have tform : ∀ {ρ : Rho} {pos : Pos}, ρ.lookup (Str.ofString "form") = some (.int form) → Tr P 200 (defScope (B0 25)) ρ (.Name "form" pos) (decide (form ≠ 0)) := fun {ρ pos} h => (tr_val (ev_name h) truth_int).congr (by
      by_cases h0 : form = 0 <;> simp [h0])
    have hLs : (((iz sz).map D.int).length : Int) = (sz.length : Nat) := by simp
    refine sx_if (b := false) S5 rm ((tr_cmp (ev_name (d := Zs (toldL sz form)) rfl) (ev_ifexp (d := Zs (toldL sz form)) (tform rfl) (fun h => (ev_name (d := Zs (iz sz)) rfl).congr ?_) (fun h => (ev_binop (ev_name (d := Zs (iz sz)) rfl) (ev_binop (ev_list (evl_cons (ev_name (d := .int (lastL sz : Nat)) rfl) evl_nil)) (ev_binop ev_int (ev_boot p V.ws.len rfl (evl_cons (ev_name (d := Zs (iz sz)) rfl) evl_nil) (call_lenL (by simp; (clear hlen hd6 ha hb0 hb hdl hne hf hform hlp; omega)))) op_sub) (op_mull (by rw [hLs]; (clear hlen hd6 ha hb0 hb hdl hne hf hform hlp; omega)) (by rw [hLs]; (clear hlen hd6 ha hb0 hb hdl hne hf hform hlp; omega)) (by rw [hLs]; simp; (clear hlen hd6 ha hb0 hb hdl hne hf hform hlp; omega)))) (op_addl ?_)).congr ?_)) cmp_nel).congr (by simp)) (fun h => (nomatch h)) (fun _ s6 S6 => wpAny_execs_nil ?_)
    · rw [told, if_neg (of_decide_eq_true h)]
    · rw [hLs]; simp; (clear hlen hd6 ha hb0 hb hdl hne hf hform hlp; omega)
    · rw [told, if_pos (by simpa using h), hLs]
      unfold Zs
      rw [List.map_append, show ((5 : Int) - (sz.length : Nat)).toNat = 5 - sz.length from by (clear hlen hd6 ha hb0 hb hdl hne hf hform hlp; omega)]
      simp
    have hlT : (toldL sz form).length ≤ 200 := by
      rw [told]; split <;> simp <;> (clear hlen hd6 ha hb0 hb hdl hne hf hform hlp; omega)
    have hbT : ∀ f ∈ toldL sz form, f.natAbs ≤ 255 := by
      rw [told]
      intro f hf
      have hz : ∀ f ∈ iz sz, f.natAbs ≤ 255 := fun f hf => by
        obtain ⟨y, hy, rfl⟩ := List.mem_map.mp hf
        have := hpos y hy; (clear hlen hd6 ha hb0 hb hdl hne hlen3 hform hL hlp hLs hlT; omega)
      split at hf
      · rcases List.mem_append.mp hf with q | q
        · exact hz f q
        · rw [(List.mem_replicate.mp q).2]; (clear hlen hd6 ha hb0 hb hdl hne hlen3 hform hL hLs hlT; omega)
      · exact hz f hf
    refine sx_pair (d1 := .int a) (d2 := .int b) S6 rm (ev_ifexp (tform rfl) (fun h => (ev_fn p (worth_ok p L.worth hlT hbT (by decide) (by decide)) (evl_cons (ev_name rfl) (evl_cons ev_int (evl_cons ev_int (evl_cons ev_int evl_nil))))).congr ?_) (fun h => (ev_fn p (worth_ok (a := 1) (b := (lastL sz : Int) - 1) p L.worth hlT hbT (by decide) (by (clear hlen hd6 ha hb0 hb hdl hne hlen3 hf hform hL hLs hlT; omega))) (evl_cons (ev_name rfl) (evl_cons ev_int (evl_cons (ev_binop (ev_name (d := .int (lastL sz : Nat)) rfl) ev_int op_sub) (evl_cons ev_int evl_nil))))).congr ?_)) (.inl rfl) (.inl rfl) (fun s7 S7 => ?_)
    · have := hw; unfold wL at this; rw [if_neg (of_decide_eq_true h)] at this; rw [this]
    · have := hw; unfold wL at this; rw [if_pos (by simpa using h)] at this; rw [this]
    refine sx_assign (d := Zs (iz (dueL sz form))) S7 rm (ev_ifexp (tform rfl) (fun h => (ev_name (d := Zs (iz sz)) rfl).congr ?_) (fun h => (ev_binop (ev_comp (ρc := [("last", .int (lastL sz : Nat))]) (β := fun d => [("size", d)]) (p := fun d => match d with | .int i => decide (i < (lastL sz : Nat)) | _ => false) (f := fun d => d) (evit_list (ev_name (d := Zs (iz sz)) rfl)) ⟨rfl, ?_, rfl, rfl, rfl, rfl⟩ (fun d _ => bind_name) ?_ (fun d _ _ => ev_name rfl) ?_ (by simp; (clear hlen hd6 ha hb0 hb hdl hne hf hform hlp hlT; omega))) (ev_list (evl_cons (ev_binop (ev_name (d := .int (lastL sz : Nat)) rfl) ev_int op_sub) evl_nil)) (op_addl ?_)).congr ?_)) (.inl rfl) (fun s8 S8 => ?_)
    · unfold dueL; rw [if_neg (of_decide_eq_true h)]
    · exact subs_cons rfl (subs_nil)
    · intro d hd
      obtain ⟨i, hi, rfl⟩ := List.mem_map.mp hd
      exact ⟨decide (i < (lastL sz : Nat)), tr_cmp (ev_name rfl) (ev_name (d := .int (lastL sz : Nat)) rfl) cmp_lt, by split <;> simp_all [TrL]⟩
    · intro d hd q hq
      rcases hq with _ | ⟨_, q⟩ <;> first | rfl | cases q
    · refine Nat.le_trans (Nat.add_le_add_right (Nat.le_trans (by rw [List.length_map]; exact List.length_filter_le _ _) (show _ ≤ 3 by simp; exact hlen3)) _) (by simp)
    · unfold dueL
      rw [if_pos (by simpa using h)]
      exact congrArg D.list (due_list sz (lastL sz) (by (clear hlen hd6 ha hb0 hb hdl hne hlen3 hf hform hL hLs hlT; omega)))
    refine sx_assign (d := .tup [.int (1 + c5 % (1 + c4 % 40) : Nat), .int (2 + c4 % 40 : Nat)]) S8 rm ((ev_tup (evl_cons (ev_binop ev_int (ev_binop (ev_itemN 5 (d := .int c5) (ev_name (d := Zs (iz [c0, c1, c2, c3, c4, c5])) rfl) ev_int (by simp) rfl) (ev_binop ev_int (ev_binop (ev_itemN 4 (d := .int c4) (ev_name (d := Zs (iz [c0, c1, c2, c3, c4, c5])) rfl) ev_int (by simp) rfl) ev_int (op_mod (by decide))) op_add) (op_mod ?_)) op_add) (evl_cons (ev_binop ev_int (ev_binop (ev_itemN 4 (d := .int c4) (ev_name (d := Zs (iz [c0, c1, c2, c3, c4, c5])) rfl) ev_int (by simp) rfl) ev_int (op_mod (by decide))) op_add) evl_nil))).congr ?_) (.inl rfl) (fun s9 S9 => ?_)
    · rw [show (40 : Int) = ((40 : Nat) : Int) from rfl, fmod_nat]; (clear hlen hd6 ha hb0 hb hdl hne hlen3 hf hform hL hlp hLs hlT; omega)
    · rw [show (40 : Int) = ((40 : Nat) : Int) from rfl, fmod_nat, show (1 : Int) + ((c4 % 40 : Nat) : Int) = ((1 + c4 % 40 : Nat) : Int) from by (clear hlen hd6 ha hb0 hb hdl hne hlen3 hf hform hL hlp hLs hlT; omega), fmod_nat]
      rfl
    refine sx_return S9 rm (ev_fn p hboth (evl_cons (ev_fn p (lowest_ok p V.div L.lowest ha hb0 hb) (evl_cons (ev_name rfl) (evl_cons (ev_name rfl) evl_nil))) (evl_cons (ev_name rfl) (evl_cons (ev_name rfl) evl_nil)))) fun v s' st r => ⟨v, rfl, st, bool_rd r⟩
  · intro env h
    obtain ⟨⟩ := env
    simp only at h
    subst h
    rfl
end
end Mine
end
section
set_option Elab.async false
set_option maxRecDepth 100000
set_option linter.unusedVariables false
namespace Mine
-- the climb
theorem climb_step {l s : Nat} (hl : 1 ≤ l) (hs : 0 < s) : l ≤ s * ((l - 1) / s + 1) ∧ s * ((l - 1) / s + 1) < l + s := up_ge hl hs
theorem climbL_cons {l k s : Nat} (hs : 0 < s) : climbL l (k + 1) s = ((l - 1) / s + 1) :: climbL l k (s * ((l - 1) / s + 1) - l) := by
  rw [climbL, if_neg (by omega)]
theorem climb_ge {l : Nat} (hl : 1 ≤ l) : ∀ (k s : Nat), ∀ c ∈ climbL l k s, (l - 1) / s + 1 ≤ c
  | 0, s, c, h => by simp [climbL] at h
  | k + 1, s, c, h => by
    rcases Nat.eq_zero_or_pos s with rfl | hs
    · simp [climbL] at h
    · rw [climbL_cons hs] at h
      rcases List.mem_cons.mp h with rfl | h
      · exact Nat.le_refl _
      · have h1 := climb_ge hl k _ c h
        obtain ⟨g1, g2⟩ := climb_step hl hs
        rcases Nat.eq_zero_or_pos (s * ((l - 1) / s + 1) - l) with e | e
        · rw [e] at h; rw [climbL_zero] at h; simp at h
        · have := Nat.div_le_div_left (a := l - 1) (show s * ((l - 1) / s + 1) - l ≤ s by (clear hl hs h1 e; omega)) e
          exact Nat.le_trans (Nat.succ_le_succ this) h1
theorem climb_le {l : Nat} (hl : 1 ≤ l) : ∀ (k s : Nat), ∀ c ∈ climbL l k s, 1 ≤ c ∧ c ≤ l
  | 0, s, c, h => by simp [climbL] at h
  | k + 1, s, c, h => by
    rcases Nat.eq_zero_or_pos s with rfl | hs
    · simp [climbL] at h
    · rw [climbL_cons hs] at h
      rcases List.mem_cons.mp h with rfl | h
      · have := Nat.div_le_self (l - 1) s
        generalize (l - 1) / s = F at *
        (clear hs; omega)
      · exact climb_le hl k _ c h
theorem climb_sorted {l : Nat} (hl : 1 ≤ l) : ∀ (k s : Nat), (climbL l k s).Pairwise (· ≤ ·)
  | 0, s => by simp [climbL]
  | k + 1, s => by
    rcases Nat.eq_zero_or_pos s with rfl | hs
    · simp [climbL]
    · rw [climbL_cons hs]
      refine List.pairwise_cons.mpr ⟨fun c h => ?_, climb_sorted hl k _⟩
      exact climb_ge hl (k + 1) s c (by rw [climbL_cons hs]; exact .tail _ h)
theorem worthF_cons (x : Int) (r : List Int) (a b sg : Int) : worthF (x :: r) a b sg = ((worthF r a b sg).2 + sg * (worthF r a b sg).1, (worthF r a b sg).2 * x) := by
  unfold worthF
  rw [List.reverse_cons, List.foldl_append]; rfl
theorem worthF_app : ∀ (p q : List Int) (a b sg : Int), worthF (p ++ q) a b sg = worthF p (worthF q a b sg).1 (worthF q a b sg).2 sg
  | [], q, a, b, sg => rfl
  | x :: p, q, a, b, sg => by rw [List.cons_append, worthF_cons, worthF_app p q, worthF_cons]
theorem worthF_scale (m : Int) : ∀ (p : List Int) (a b sg : Int), worthF p (m * a) (m * b) sg = (m * (worthF p a b sg).1, m * (worthF p a b sg).2)
  | [], a, b, sg => rfl
  | x :: p, a, b, sg => by
    rw [worthF_cons, worthF_cons, worthF_scale m p]
    simp only [Prod.mk.injEq]
    constructor
    · rw [Int.mul_add, Int.mul_left_comm]
    · rw [Int.mul_assoc]
theorem climb_worth {l : Nat} (hl : 1 ≤ l) : ∀ (k s : Nat), s ≤ k → (worthF (iz (climbL l k s)) 0 1 1).1 * l = s * (worthF (iz (climbL l k s)) 0 1 1).2
  | 0, s, h => by
    have : s = 0 := by (clear hl; omega)
    subst this; simp [climbL, worthF]
  | k + 1, s, h => by
    rcases Nat.eq_zero_or_pos s with rfl | hs
    · simp [climbL, worthF]
    · rw [climbL_cons hs]
      obtain ⟨g1, g2⟩ := climb_step hl hs
      have ih := climb_worth hl k (s * ((l - 1) / s + 1) - l) (by (clear hl hs; omega))
      rw [show iz (((l - 1) / s + 1) :: climbL l k (s * ((l - 1) / s + 1) - l)) = (((l - 1) / s + 1 : Nat) : Int) :: iz (climbL l k (s * ((l - 1) / s + 1) - l)) from rfl, worthF_cons]
      generalize worthF (iz (climbL l k (s * ((l - 1) / s + 1) - l))) 0 1 1 = w at *
      rw [Int.natCast_sub g1] at ih
      generalize (l - 1) / s + 1 = F at *
      simp only [Int.one_mul]
      rw [Int.add_mul, ih, Int.natCast_mul, Int.sub_mul]
      have e1 : (s : Int) * (w.2 * F) = s * F * w.2 := by rw [Int.mul_comm w.2, Int.mul_assoc]
      have e2 : w.2 * (l : Int) = l * w.2 := Int.mul_comm _ _
      rw [e1, e2]; (clear hl h hs g1 g2 ih e1 e2; omega)
theorem climb_ne {l k s : Nat} (hs : 0 < s) (hk : s ≤ k) : climbL l k s ≠ [] := by
  obtain ⟨k, rfl⟩ : ∃ j, k = j + 1 := ⟨k - 1, by omega⟩
  rw [climbL_cons hs]; simp
theorem worth_three (c : Int) : worthF (List.replicate 3 (c + 1)) 1 c 1 = ((c + 1) * ((c + 1) * (c + 1)) * 1, (c + 1) * ((c + 1) * (c + 1)) * c) := by
  have e : ∀ m : Int, worthF [c + 1] (m * 1) (m * c) 1 = ((m * (c + 1)) * 1, (m * (c + 1)) * c) := fun m => by
    rw [worthF_scale, show worthF [c + 1] 1 c 1 = (c + 1 * 1, c * (c + 1)) from rfl]
    simp only [Prod.mk.injEq, Int.mul_one]
    exact ⟨trivial, by rw [Int.mul_comm c, Int.mul_assoc]⟩
  have h1 := e 1
  have h2 := e (1 * (c + 1))
  have h3 := e (1 * (c + 1) * (c + 1))
  rw [show List.replicate 3 (c + 1) = [c + 1] ++ ([c + 1] ++ [c + 1]) from rfl, worthF_app, worthF_app]
  simp only [Int.one_mul, Int.mul_one] at h1 h2 h3 ⊢
  rw [h1]
  simp only
  rw [h2]
  simp only
  rw [h3]
  simp only [Prod.mk.injEq]
  constructor <;> simp only [Int.mul_assoc]
theorem told_worth {c : List Nat} (hc : c ≠ []) {u l : Nat} (h : (worthF (iz c) 0 1 1).1 * l = u * (worthF (iz c) 0 1 1).2) :
    (worthF (iz (c.dropLast ++ List.replicate 3 (c.getLast hc + 1))) 1 (c.getLast hc : Nat) 1).1 * l = u * (worthF (iz (c.dropLast ++ List.replicate 3 (c.getLast hc + 1))) 1 (c.getLast hc : Nat) 1).2 := by
  have e1 : iz c = iz c.dropLast ++ [((c.getLast hc : Nat) : Int)] := by
    conv => lhs; rw [← List.dropLast_concat_getLast hc]
    simp [iz]
  have e2 : iz (c.dropLast ++ List.replicate 3 (c.getLast hc + 1)) = iz c.dropLast ++ List.replicate 3 (((c.getLast hc : Nat) : Int) + 1) := by simp [iz]
  rw [e1, worthF_app, show worthF [((c.getLast hc : Nat) : Int)] 0 1 1 = (1 + 1 * 0, 1 * ((c.getLast hc : Nat) : Int)) from rfl] at h
  rw [e2, worthF_app, worth_three]
  generalize ((c.getLast hc : Nat) : Int) = x at *
  generalize (x + 1) * ((x + 1) * (x + 1)) = m at *
  simp only [Int.mul_zero, Int.add_zero, Int.one_mul] at h
  rw [worthF_scale]
  simp only
  rw [Int.mul_assoc, h, Int.mul_left_comm]
-- the fall
theorem fallL_cons {l k s : Nat} (hs : 0 < s) : fallL l (k + 1) s = (l / s) :: fallL l k (l % s) := by
  rw [fallL, if_neg (by omega)]
theorem div_rise {l s : Nat} (hs : 0 < s) (hr : 0 < l % s) : l / s + 1 ≤ l / (l % s) := by
  have h1 := Nat.div_add_mod l s
  have h2 := Nat.mod_lt l hs
  refine (Nat.le_div_iff_mul_le hr).mpr ?_
  have h3 : l / s * (l % s + 1) ≤ l / s * s := Nat.mul_le_mul_left _ h2
  rw [Nat.mul_comm s] at h1
  rw [Nat.mul_add, Nat.mul_one] at h3
  rw [Nat.add_mul, Nat.one_mul]
  generalize l / s = q at *
  (clear hs hr h2; omega)
theorem fall_ge {l : Nat} : ∀ (k s : Nat), ∀ f ∈ fallL l k s, l / s ≤ f
  | 0, s, c, h => by simp [fallL] at h
  | k + 1, s, c, h => by
    rcases Nat.eq_zero_or_pos s with rfl | hs
    · simp [fallL] at h
    · rw [fallL_cons hs] at h
      rcases List.mem_cons.mp h with rfl | h
      · exact Nat.le_refl _
      · have h1 := fall_ge k _ c h
        rcases Nat.eq_zero_or_pos (l % s) with e | e
        · rw [e, fallL_zero] at h; simp at h
        · have := div_rise hs e; (clear hs e; omega)
theorem fall_gt {l k s : Nat} (hs : 0 < s) : ∀ f ∈ fallL l k (l % s), l / s < f := fun f h => by
  rcases Nat.eq_zero_or_pos (l % s) with e | e
  · rw [e, fallL_zero] at h; simp at h
  · have h1 := fall_ge k _ f h
    have := div_rise hs e; (clear hs e; omega)
theorem fall_le {l : Nat} : ∀ (k s : Nat), ∀ f ∈ fallL l k s, f ≤ l
  | 0, s, c, h => by simp [fallL] at h
  | k + 1, s, c, h => by
    rcases Nat.eq_zero_or_pos s with rfl | hs
    · simp [fallL] at h
    · rw [fallL_cons hs] at h
      rcases List.mem_cons.mp h with rfl | h
      · exact Nat.div_le_self _ _
      · exact fall_le k _ c h
theorem fall_len {l : Nat} : ∀ (k s : Nat), (fallL l k s).length ≤ k
  | 0, s => by simp [fallL]
  | k + 1, s => by
    rcases Nat.eq_zero_or_pos s with rfl | hs
    · simp [fallL]
    · rw [fallL_cons hs]; simp; exact fall_len k _
theorem fall_rise {l : Nat} : ∀ (k s : Nat), (fallL l k s).Pairwise (· < ·)
  | 0, s => by simp [fallL]
  | k + 1, s => by
    rcases Nat.eq_zero_or_pos s with rfl | hs
    · simp [fallL]
    · rw [fallL_cons hs]
      exact List.pairwise_cons.mpr ⟨fall_gt hs, fall_rise k _⟩
theorem fall_ne {l k s : Nat} (hs : 0 < s) (hk : s ≤ k) : fallL l k s ≠ [] := by
  obtain ⟨k, rfl⟩ : ∃ j, k = j + 1 := ⟨k - 1, by omega⟩
  rw [fallL_cons hs]; simp
theorem fall_last {l : Nat} : ∀ (k s : Nat) (h : fallL l k s ≠ []), s ≤ k → s ≤ l → ∀ x ∈ (fallL l k s).dropLast, x + 1 < (fallL l k s).getLast h
  | 0, s, h, _, _ => by simp [fallL] at h
  | k + 1, s, h, hk, hsl => by
    rcases Nat.eq_zero_or_pos s with rfl | hs
    · simp [fallL] at h
    · have hm := Nat.mod_lt l hs
      rcases Nat.eq_zero_or_pos (l % s) with e | e
      · intro x hx
        simp only [fallL_cons hs, e, fallL_zero] at hx
        simp at hx
      · have hne : fallL l k (l % s) ≠ [] := fall_ne e (by (clear h hsl hs e; omega))
        have ih := fall_last k (l % s) hne (by (clear h hsl hs e hne; omega)) (by (clear h hk hs e hne; omega))
        have hlast : (fallL l (k + 1) s).getLast h = (fallL l k (l % s)).getLast hne := by
          simp only [fallL_cons hs]
          exact List.getLast_cons hne
        intro x hx
        rw [hlast]
        have hx' : x = l / s ∨ x ∈ (fallL l k (l % s)).dropLast := by
          simp only [fallL_cons hs] at hx
          rw [List.dropLast_cons_of_ne_nil hne] at hx
          exact List.mem_cons.mp hx
        rcases hx' with rfl | hx'
        · -- the first one
          obtain ⟨k', rfl⟩ : ∃ j, k = j + 1 := ⟨k - 1, by (clear hsl hlast; omega)⟩
          have hd := fallL_cons (l := l) (k := k') e
          rcases Nat.eq_zero_or_pos (l % (l % s)) with e2 | e2
          · have hl1 : (fallL l (k' + 1) (l % s)).getLast hne = l / (l % s) := by
              simp only [hd, e2, fallL_zero, List.getLast_singleton]
            rw [hl1]
            have q1 : 1 ≤ l / s := (Nat.le_div_iff_mul_le hs).mpr (by (clear hs hm e hk hlast e2 hl1; omega))
            have h1 := Nat.div_add_mod l s
            have h2 := Nat.div_add_mod l (l % s)
            rw [e2, Nat.add_zero, Nat.mul_comm] at h2
            rw [Nat.mul_comm] at h1
            have h3 : l / s * (l % s) < l / s * s := Nat.mul_lt_mul_of_pos_left hm q1
            have h4 : (l / s + 1) * (l % s) < l / (l % s) * (l % s) := by rw [Nat.add_mul, Nat.one_mul, h2]; (clear hsl hs hm e hk hlast e2 hl1 q1 h2; omega)
            exact Nat.lt_of_mul_lt_mul_right h4
          · have hmem : l / (l % s) ∈ (fallL l (k' + 1) (l % s)).dropLast := by
              have hm2 := Nat.mod_lt l e
              have hne2 : fallL l k' (l % (l % s)) ≠ [] := fall_ne e2 (by (clear hsl hs e hlast e2; omega))
              rw [hd, List.dropLast_cons_of_ne_nil hne2]; exact .head _
            have := ih _ hmem
            have := div_rise hs e
            (clear hsl hs hm e hk hlast e2; omega)
        · exact ih x hx'
theorem fall_worth {l : Nat} : ∀ (k s : Nat), s ≤ k → (worthF (iz (fallL l k s)) 0 1 (-1)).1 * l = s * (worthF (iz (fallL l k s)) 0 1 (-1)).2
  | 0, s, h => by
    have : s = 0 := by omega
    subst this; simp [fallL, worthF]
  | k + 1, s, h => by
    rcases Nat.eq_zero_or_pos s with rfl | hs
    · simp [fallL, worthF]
    · rw [fallL_cons hs]
      have hm := Nat.mod_lt l hs
      have ih := fall_worth (l := l) k (l % s) (by (clear hs; omega))
      rw [show iz ((l / s) :: fallL l k (l % s)) = ((l / s : Nat) : Int) :: iz (fallL l k (l % s)) from rfl, worthF_cons]
      generalize worthF (iz (fallL l k (l % s))) 0 1 (-1) = w at *
      have h1 : (s : Int) * ((l / s : Nat) : Int) + ((l % s : Nat) : Int) = l := by rw [← Int.natCast_mul, ← Int.natCast_add, Nat.div_add_mod]
      generalize ((l / s : Nat) : Int) = q at *
      generalize ((l % s : Nat) : Int) = r at *
      simp only
      rw [Int.add_mul, Int.mul_assoc, ih, ← h1]
      have e1 : (s : Int) * (w.2 * q) = w.2 * (s * q) := Int.mul_left_comm _ _ _
      have e2 : w.2 * ((s : Int) * q + r) = w.2 * (s * q) + r * w.2 := by rw [Int.mul_add, Int.mul_comm w.2 r]
      rw [e1, e2]; (clear h hs hm ih h1 e1 e2; omega)
theorem holdH {u l : Nat} (hu : 0 < u) (hul : u ≤ l) (hl : l ≤ 125) (hlen : (climbL l l u).length < 60) : HoldH u l (climbL l l u) (fallL l l u) where
  cne := climb_ne hu hul
  csort := climb_sorted (by (clear hlen; omega)) l u
  clen := hlen
  cpos := fun c hc => let ⟨a, b⟩ := climb_le (by (clear hlen; omega)) l u c hc; ⟨a, by (clear hlen a; omega)⟩
  fne := fall_ne hu hul
  frise := fall_rise l u
  flen := Nat.le_trans (fall_len l u) (by (clear hu hul hlen; omega))
  fpos := fun f hf => Nat.le_trans (fall_le l u f hf) hl
  flast := fun x hx e => by have := fall_last l u (fall_ne hu hul) hul hul x hx; (clear hl hlen; omega)
  w1 := climb_worth (by (clear hlen; omega)) l u hul
  w2 := told_worth _ (climb_worth (by (clear hlen; omega)) l u hul)
  w3 := fall_worth l u hul
end Mine
end
section
set_option Elab.async false
set_option maxRecDepth 100000
set_option linter.unusedVariables false
namespace Mine
theorem lex_cons {a b : Nat} {r t : List Nat} : (a :: r < b :: t) ↔ a < b ∨ (a = b ∧ r < t) := List.cons_lt_cons_iff
/-- the climbs, as signs, stand as the fractions do -/
theorem climb_lex {l1 l2 : Nat} (h1 : 1 ≤ l1) (h2 : 1 ≤ l2) (b1 : l1 ≤ 125) (b2 : l2 ≤ 125) : ∀ (k1 k2 s1 s2 : Nat), s1 ≤ k1 → s2 ≤ k2 →
    ((climbL l1 k1 s1).map (2000 - ·) < (climbL l2 k2 s2).map (2000 - ·) ↔ s1 * l2 < s2 * l1) := by
  intro k1
  induction k1 with
  | zero =>
    intro k2 s1 s2 e1 e2
    have : s1 = 0 := by (clear h1 h2 b1 b2 e2; omega)
    subst this
    rw [climbL_zero, Nat.zero_mul]
    rcases Nat.eq_zero_or_pos s2 with rfl | p2
    · rw [climbL_zero]; simp
    · obtain ⟨k2, rfl⟩ : ∃ j, k2 = j + 1 := ⟨k2 - 1, by (clear h1 h2 b1 b2 e1; omega)⟩
      rw [climbL_cons p2]
      simp only [List.map_nil, List.map_cons]
      exact ⟨fun _ => Nat.mul_pos p2 h1, fun _ => List.nil_lt_cons _ _⟩
  | succ k1 ih =>
    intro k2 s1 s2 e1 e2
    rcases Nat.eq_zero_or_pos s1 with rfl | p1
    · rw [climbL_zero, Nat.zero_mul]
      rcases Nat.eq_zero_or_pos s2 with rfl | p2
      · rw [climbL_zero]; simp
      · obtain ⟨k2, rfl⟩ : ∃ j, k2 = j + 1 := ⟨k2 - 1, by (clear h1 h2 b1 b2 e1; omega)⟩
        rw [climbL_cons p2]
        simp only [List.map_nil, List.map_cons]
        exact ⟨fun _ => Nat.mul_pos p2 h1, fun _ => List.nil_lt_cons _ _⟩
    · rcases Nat.eq_zero_or_pos s2 with rfl | p2
      · rw [climbL_zero, Nat.zero_mul]; simp
      · obtain ⟨k2, rfl⟩ : ∃ j, k2 = j + 1 := ⟨k2 - 1, by (clear h1 h2 b1 b2 e1 p1; omega)⟩
        obtain ⟨g1, g2⟩ := climb_step h1 p1
        obtain ⟨g3, g4⟩ := climb_step h2 p2
        have f1 := (climb_le h1 (k1 + 1) s1 _ (by rw [climbL_cons p1]; exact .head _)).2
        have f2 := (climb_le h2 (k2 + 1) s2 _ (by rw [climbL_cons p2]; exact .head _)).2
        rw [climbL_cons p1, climbL_cons p2, List.map_cons, List.map_cons, lex_cons, ih k2 _ _ (by (clear h1 h2 b1 b2 p1 p2 e2 g3 g4 f1 f2; omega)) (by (clear h1 h2 b1 b2 e1 p1 p2 g1 g2 f1 f2; omega))]
        generalize hF1 : (l1 - 1) / s1 + 1 = F1 at *
        generalize hF2 : (l2 - 1) / s2 + 1 = F2 at *
        have key : ∀ {s t l m F G : Nat}, 1 ≤ m → m ≤ t * G → s * F < l + s → G < F → 0 < s → s * m < t * l := fun {s t l m F G} a0 a1 a2 a3 a4 => by
          have q1 : s * (G + 1) ≤ s * F := Nat.mul_le_mul_left _ a3
          rw [Nat.mul_add, Nat.mul_one] at q1
          have q2 : s * G < l := by (clear h1 h2 b1 b2 e1 p1 p2 e2 hF1 g1 g2 f1 hF2 g3 g4 f2 a0 a1 a3 a4; omega)
          have q3 : s * m ≤ s * (t * G) := Nat.mul_le_mul_left _ a1
          rw [Nat.mul_left_comm] at q3
          have q4 : t * (s * G) < t * l := by
            have t0 : 0 < t := by
              rcases Nat.eq_zero_or_pos t with r | r
              · subst r; simp at a1; (clear h1 h2 b1 b2 e1 p1 p2 e2 hF1 g1 g2 f1 hF2 g3 g4 f2 a2 a3 a4 q1 q2 q3; omega)
              · exact r
            exact Nat.mul_lt_mul_of_pos_left q2 t0
          (clear h1 h2 b1 b2 e1 p1 p2 e2 hF1 g1 g2 f1 hF2 g3 g4 f2 a0 a1 a2 a3 a4 q1 q2; omega)
        rcases Nat.lt_trichotomy F1 F2 with c | c | c
        · have := key h1 g1 g4 c p2
          constructor
          · rintro (q | q)
            · (clear h2 b2 e1 p1 p2 e2 hF1 g1 g2 hF2 g3 g4 f2 this; omega)
            · (clear e1 p1 p2 e2 hF1 g1 g2 hF2 g3 g4 this; omega)
          · intro q; (clear h1 h2 b1 b2 e1 p1 p2 e2 hF1 g1 g2 f1 hF2 g3 g4 f2 c; omega)
        · subst c
          constructor
          · rintro (q | ⟨_, q⟩)
            · (clear h1 h2 b1 b2 e1 p1 p2 e2 hF1 g1 g2 f1 hF2 g3 g4 f2; omega)
            · rw [Nat.sub_mul, Nat.sub_mul, Nat.mul_comm l2 l1] at q
              have q' : s1 * F1 * l2 < s2 * F1 * l1 := by (clear h1 h2 b1 b2 e1 p1 p2 e2 hF1 g1 g2 f1 hF2 g3 g4 f2; omega)
              rw [Nat.mul_right_comm, Nat.mul_right_comm s2] at q'
              exact Nat.lt_of_mul_lt_mul_right q'
          · intro q
            refine .inr ⟨rfl, ?_⟩
            have hF0 : 0 < F1 := by
              rcases Nat.eq_zero_or_pos F1 with r | r
              · subst r; simp at g1; (clear h2 b2 e1 p1 p2 e2 q hF1 g2 f1 hF2 g3 g4 f2; omega)
              · exact r
            have q' : s1 * l2 * F1 < s2 * l1 * F1 := Nat.mul_lt_mul_of_pos_right q hF0
            rw [Nat.mul_right_comm, Nat.mul_right_comm s2] at q'
            have r1 : l1 * l2 ≤ s1 * F1 * l2 := Nat.mul_le_mul_right _ g1
            rw [Nat.sub_mul, Nat.sub_mul, Nat.mul_comm l2 l1]
            (clear h1 h2 b1 b2 e1 p1 p2 e2 hF1 g1 g2 f1 hF2 g3 g4 f2 q hF0; omega)
        · have := key h2 g3 g2 c p1
          exact ⟨fun _ => this, fun _ => .inl (by (clear e1 p1 p2 e2 hF1 g1 g2 hF2 g3 g4 this; omega))⟩
noncomputable def TF (i : Nat) (f : List Nat) : List Nat := turnF i f ++ (if (i + f.length) % 2 ≠ 0 then [3000] else [])
theorem TF_cons (i x : Nat) (r : List Nat) : TF i (x :: r) = (if i % 2 ≠ 0 then 2000 + x else 2000 - x) :: TF (i + 1) r := by
  unfold TF
  simp only [turnF, List.cons_append, List.length_cons]
  have e : i + (r.length + 1) = i + 1 + r.length := by omega
  simp only [e]
theorem TF_turned (f : List Nat) : TF 0 f = turnedL f := by unfold TF turnedL; rw [Nat.zero_add]
theorem fall_lex {l1 l2 : Nat} (h1 : 1 ≤ l1) (h2 : 1 ≤ l2) (b1 : l1 ≤ 125) (b2 : l2 ≤ 125) : ∀ (k1 k2 s1 s2 i : Nat), s1 ≤ k1 → s2 ≤ k2 → s1 ≤ l1 → s2 ≤ l2 →
    (TF i (fallL l1 k1 s1) < TF i (fallL l2 k2 s2) ↔ if i % 2 = 0 then s1 * l2 < s2 * l1 else s2 * l1 < s1 * l2) := by
  have base : ∀ (k2 s2 i : Nat), s2 ≤ k2 → (TF i [] < TF i (fallL l2 k2 s2) ↔ if i % 2 = 0 then 0 < s2 * l1 else s2 * l1 < 0) := fun k2 s2 i e2 => by
    rcases Nat.eq_zero_or_pos s2 with rfl | p2
    · rw [fallL_zero]; simp
    · obtain ⟨k2, rfl⟩ : ∃ j, k2 = j + 1 := ⟨k2 - 1, by (clear h1 h2 b1 b2; omega)⟩
      have f2 := fall_le (k2 + 1) s2 (l2 / s2) (by rw [fallL_cons p2]; exact .head _)
      rw [fallL_cons p2, TF_cons]
      have hp : 0 < s2 * l1 := Nat.mul_pos p2 h1
      by_cases hi : i % 2 = 0
      · rw [if_pos hi]
        have : TF i [] = [] := by unfold TF turnF; simp [hi]
        rw [this]
        exact ⟨fun _ => hp, fun _ => List.nil_lt_cons _ _⟩
      · rw [if_neg hi, if_pos hi]
        have : TF i [] = [3000] := by unfold TF turnF; simp; (clear h1 h2 b1 b2 p2 e2 f2 hp; omega)
        rw [this, lex_cons]
        constructor
        · rintro (q | q) <;> (clear h1 b1 p2 e2 hp hi; omega)
        · (clear h1 h2 b1 b2 p2 e2 f2 hi; omega)
  intro k1
  induction k1 with
  | zero =>
    intro k2 s1 s2 i e1 e2 d1 d2
    have : s1 = 0 := by (clear h1 h2 b1 b2 e2 d1 d2; omega)
    subst this
    rw [fallL_zero, Nat.zero_mul]
    exact base k2 s2 i e2
  | succ k1 ih =>
    intro k2 s1 s2 i e1 e2 d1 d2
    rcases Nat.eq_zero_or_pos s1 with rfl | p1
    · rw [fallL_zero, Nat.zero_mul]; exact base k2 s2 i e2
    · have f1 := fall_le (k1 + 1) s1 (l1 / s1) (by rw [fallL_cons p1]; exact .head _)
      rcases Nat.eq_zero_or_pos s2 with rfl | p2
      · rw [fallL_zero, Nat.zero_mul, fallL_cons p1, TF_cons]
        have hp : 0 < s1 * l2 := Nat.mul_pos p1 h2
        by_cases hi : i % 2 = 0
        · have : TF i [] = [] := by unfold TF turnF; simp [hi]
          rw [this, if_pos hi]; simp
        · have : TF i [] = [3000] := by unfold TF turnF; simp; (clear h1 h2 b1 b2 e1 d1 p1 f1 e2 d2 hp; omega)
          rw [this, if_neg hi, if_pos hi, lex_cons]
          exact ⟨fun _ => hp, fun _ => .inl (by (clear h2 b2 e1 d1 p1 e2 d2 hp hi; omega))⟩
      · obtain ⟨k2, rfl⟩ : ∃ j, k2 = j + 1 := ⟨k2 - 1, by (clear h1 h2 b1 b2 e1 d1 d2 p1 f1; omega)⟩
        have f2 := fall_le (k2 + 1) s2 (l2 / s2) (by rw [fallL_cons p2]; exact .head _)
        have m1 := Nat.mod_lt l1 p1
        have m2 := Nat.mod_lt l2 p2
        have a1 := Nat.div_add_mod l1 s1
        have a2 := Nat.div_add_mod l2 s2
        rw [fallL_cons p1, fallL_cons p2, TF_cons, TF_cons, lex_cons, ih k2 _ _ (i + 1) (by (clear h1 h2 b1 b2 d1 d2 p1 f1 p2 e2 f2 m2 a1 a2; omega)) (by (clear h1 h2 b1 b2 e1 d1 d2 p1 f1 p2 f2 m1 a1 a2; omega)) (by (clear h1 h2 b1 b2 e1 d1 d2 p1 f1 p2 e2 f2 m1 m2 a2; omega)) (by (clear h1 h2 b1 b2 e1 d1 d2 p1 f1 p2 e2 f2 m1 m2 a1; omega))]
        generalize l1 / s1 = q1 at *
        generalize l2 / s2 = q2 at *
        generalize l1 % s1 = r1 at *
        generalize l2 % s2 = r2 at *
        have key : ∀ {s t l m q p r u : Nat}, s * q + r = l → t * p + u = m → u < t → p < q → 0 < s → s * m < t * l := fun {s t l m q p r u} x1 x2 x3 x4 x5 => by
          have y1 : t * (p + 1) ≤ t * q := Nat.mul_le_mul_left _ x4
          rw [Nat.mul_add, Nat.mul_one] at y1
          have y2 : m < t * q := by (clear h1 h2 b1 b2 e1 d1 d2 p1 p2 e2 f1 f2 m1 a1 m2 a2 x1 x4 x5; omega)
          have y3 : s * m < s * (t * q) := Nat.mul_lt_mul_of_pos_left y2 x5
          have y4 : t * (s * q) ≤ t * l := Nat.mul_le_mul_left _ (by (clear h1 h2 b1 b2 e1 d1 d2 p1 p2 e2 f1 f2 m1 a1 m2 a2 x2 x3 x4 x5 y1 y2 y3; omega))
          rw [Nat.mul_left_comm] at y3
          (clear h1 h2 b1 b2 e1 d1 d2 p1 p2 e2 f1 f2 m1 a1 m2 a2 x1 x2 x3 x4 x5 y1 y2; omega)
        have eqc : q1 = q2 → (r1 * l2 < r2 * l1 ↔ s2 * l1 < s1 * l2) ∧ (r2 * l1 < r1 * l2 ↔ s1 * l2 < s2 * l1) := fun c => by
          subst c
          have hq : 0 < q1 := by
            rcases Nat.eq_zero_or_pos q1 with r | r
            · subst r; (clear h1 h2 b1 b2 e1 d2 p1 p2 e2 m2 f1 f2 a2; omega)
            · exact r
          have z1 : s1 * q1 * l2 + r1 * l2 = l1 * l2 := by rw [← Nat.add_mul, a1]
          have z2 : s2 * q1 * l1 + r2 * l1 = l2 * l1 := by rw [← Nat.add_mul, a2]
          rw [Nat.mul_comm l2 l1, Nat.mul_right_comm] at z2
          rw [Nat.mul_right_comm] at z1
          have w1 : s1 * l2 * q1 < s2 * l1 * q1 ↔ s1 * l2 < s2 * l1 := ⟨fun h => Nat.lt_of_mul_lt_mul_right h, fun h => Nat.mul_lt_mul_of_pos_right h hq⟩
          have w2 : s2 * l1 * q1 < s1 * l2 * q1 ↔ s2 * l1 < s1 * l2 := ⟨fun h => Nat.lt_of_mul_lt_mul_right h, fun h => Nat.mul_lt_mul_of_pos_right h hq⟩
          constructor
          · rw [← w2]; (clear h1 h2 b1 b2 e1 d1 d2 p1 p2 e2 f1 m1 a1 m2 f2 a2 hq w1 w2; omega)
          · rw [← w1]; (clear h1 h2 b1 b2 e1 d1 d2 p1 p2 e2 f1 m1 a1 m2 f2 a2 hq w1 w2; omega)
        by_cases hi : i % 2 = 0
        · rw [if_pos hi, if_neg (show ¬ i % 2 ≠ 0 by (clear h1 h2 b1 b2 e1 d1 d2 p1 p2 e2 f1 f2 m1 a1 m2 a2; omega)), if_neg (show ¬ i % 2 ≠ 0 by (clear h1 h2 b1 b2 e1 d1 d2 p1 p2 e2 f1 f2 m1 a1 m2 a2; omega)), if_neg (show ¬ (i + 1) % 2 = 0 by (clear h1 h2 b1 b2 e1 d1 d2 p1 p2 e2 f1 f2 m1 a1 m2 a2; omega))]
          rcases Nat.lt_trichotomy q1 q2 with c | c | c
          · have := key a2 a1 m1 c p2
            constructor
            · rintro (q | q) <;> omega
            · intro q; (clear h1 h2 b1 b2 e1 d1 d2 p1 p2 e2 f1 f2 m1 a1 m2 a2 hi c; omega)
          · rw [(eqc c).2]
            constructor
            · rintro (q | q)
              · (clear h1 b1 e1 d1 d2 p1 p2 e2 f1 m1 a1 m2 hi; omega)
              · exact q.2
            · intro q; exact .inr ⟨by rw [c], q⟩
          · have := key a1 a2 m2 c p1
            exact ⟨fun _ => this, fun _ => .inl (by (clear e1 d1 d2 p1 p2 e2 m1 m2 hi this; omega))⟩
        · rw [if_neg hi, if_pos (show i % 2 ≠ 0 by (clear h1 h2 b1 b2 e1 d1 d2 p1 p2 e2 f1 f2 m1 a1 m2 a2; omega)), if_pos (show i % 2 ≠ 0 by (clear h1 h2 b1 b2 e1 d1 d2 p1 p2 e2 f1 f2 m1 a1 m2 a2; omega)), if_pos (show (i + 1) % 2 = 0 by (clear h1 h2 b1 b2 e1 d1 d2 p1 p2 e2 f1 f2 m1 a1 m2 a2; omega))]
          rcases Nat.lt_trichotomy q1 q2 with c | c | c
          · have := key a2 a1 m1 c p2
            exact ⟨fun _ => this, fun _ => .inl (by (clear h1 h2 b1 b2 e1 d1 d2 p1 p2 e2 f1 f2 m1 a1 m2 a2 hi this; omega))⟩
          · rw [(eqc c).1]
            constructor
            · rintro (q | q)
              · (clear h1 h2 b1 b2 e1 d1 d2 p1 p2 e2 f1 f2 m1 a1 m2 a2 hi; omega)
              · exact q.2
            · intro q; exact .inr ⟨by rw [c], q⟩
          · have := key a1 a2 m2 c p1
            constructor
            · rintro (q | q) <;> (clear h1 h2 b1 b2 e1 d1 d2 p1 p2 e2 f1 f2 m1 a1 m2 a2 hi this; omega)
            · intro q; (clear h1 h2 b1 b2 e1 d1 d2 p1 p2 e2 f1 f2 m1 a1 m2 a2 hi c; omega)
theorem coll_sgn {a b : List Nat} {x y : Nat} (h1 : a < b ↔ x < y) (h2 : b < a ↔ y < x) : collS a b = sgn ((x : Int) - y) := by
  unfold collS sgn
  congr 1
  · by_cases h : y < x
    · rw [if_pos (decide_eq_true (h2.mpr h)), if_pos (decide_eq_true (by (clear h1 h2; omega)))]
    · rw [if_neg (by simpa using fun q => h (h2.mp q)), if_neg (by simp; (clear h1 h2; omega))]
  · by_cases h : x < y
    · rw [if_pos (decide_eq_true (h1.mpr h)), if_pos (decide_eq_true (by (clear h1 h2; omega)))]
    · rw [if_neg (by simpa using fun q => h (h1.mp q)), if_neg (by simp; (clear h1 h2; omega))]
theorem climb_len {l : Nat} (hl : 1 ≤ l) : ∀ (k s : Nat), (climbL l k s).length ≤ s
  | 0, s => by simp [climbL]
  | k + 1, s => by
    rcases Nat.eq_zero_or_pos s with rfl | hs
    · simp [climbL]
    · rw [climbL_cons hs]
      obtain ⟨g1, g2⟩ := climb_step hl hs
      have := climb_len hl k (s * ((l - 1) / s + 1) - l)
      simp only [List.length_cons]; (clear hl hs; omega)
/-- the rulers, one by one -/
noncomputable def rulerR (x y z k : Nat) : List Nat := [2 + x, 2 + x + y, 2 + x + y + z].take (1 + k)
noncomputable def chk (s : List Nat) (form : Nat) : Bool :=
  let w := wL s form; let a := w.1.toNat; let b := w.2.toNat; let g := Nat.gcd a b; let u := a / g; let l := b / g
  decide (s ≠ []) && decide (s.length ≤ 3) && s.all (fun x => decide (2 ≤ x) && decide (x ≤ 8)) && tOK none (iz s ++ tails form) && decide (toldL s form = if form = 0 then iz s ++ List.replicate (5 - s.length) (lastL s : Int) else iz s) &&
    decide (w.1 = (a : Int)) && decide (w.2 = (b : Int)) && decide (a < 2 ^ 24) && decide (0 < b) && decide (b < 2 ^ 24) && decide (0 < u) && decide (u ≤ l) && decide (l ≤ 125) && decide (climbL l l u = dueL s form) && decide ((climbL l l u).length < 60)
theorem chk_all : ((List.range 2).all fun x => (List.range 3).all fun y => (List.range 4).all fun z => (List.range 3).all fun k => (List.range 3).all fun f => chk (rulerR x y z k) f) = true := by decide +kernel
theorem ruler_all (c0 c1 c2 c3 : Nat) : ∃ a b : Nat, RulerH (ruler c0 c1 c2 c3) (c3 / 3 % 3) a b ∧ 0 < a / Nat.gcd a b ∧ a / Nat.gcd a b ≤ b / Nat.gcd a b ∧ b / Nat.gcd a b ≤ 125 ∧ climbL (b / Nat.gcd a b) (b / Nat.gcd a b) (a / Nat.gcd a b) = dueL (ruler c0 c1 c2 c3) (c3 / 3 % 3) ∧ (climbL (b / Nat.gcd a b) (b / Nat.gcd a b) (a / Nat.gcd a b)).length < 60 := by
  have h := chk_all
  rw [List.all_eq_true] at h
  have h := h (c0 % 2) (List.mem_range.mpr (Nat.mod_lt _ (by decide)))
  rw [List.all_eq_true] at h
  have h := h (c1 % 3) (List.mem_range.mpr (Nat.mod_lt _ (by decide)))
  rw [List.all_eq_true] at h
  have h := h (c2 % 4) (List.mem_range.mpr (Nat.mod_lt _ (by decide)))
  rw [List.all_eq_true] at h
  have h := h (c3 % 3) (List.mem_range.mpr (Nat.mod_lt _ (by decide)))
  rw [List.all_eq_true] at h
  have h := h (c3 / 3 % 3) (List.mem_range.mpr (Nat.mod_lt _ (by decide)))
  have e : rulerR (c0 % 2) (c1 % 3) (c2 % 4) (c3 % 3) = ruler c0 c1 c2 c3 := rfl
  rw [e] at h
  unfold chk at h
  simp only [Bool.and_eq_true, decide_eq_true_eq] at h
  obtain ⟨⟨⟨⟨⟨⟨⟨⟨⟨⟨⟨⟨⟨⟨h1, h2⟩, h3⟩, h4⟩, h5⟩, h6⟩, h7⟩, h8⟩, h9⟩, h10⟩, h11⟩, h12⟩, h13⟩, h14⟩, h15⟩ := h
  refine ⟨_, _, ⟨h1, h2, fun x hx => ?_, h4, h5, ?_, h8, h9, h10⟩, h11, h12, h13, h14, h15⟩
  · have := List.all_eq_true.mp h3 x hx
    simp only [Bool.and_eq_true, decide_eq_true_eq] at this
    exact this
  · rw [← h6, ← h7]
end Mine
end
section
open PySem PySem.W PySem.Calls PyProof.Rows
set_option Elab.async false
set_option maxRecDepth 100000
set_option linter.unusedVariables false
namespace Mine
theorem law_true {P : Prm} {C : Addr} (p : PrmOK P) (V : LawP P C) (BP : BootP P) (L : LawD P) {script : List Int} (hlen : script.length ≤ 63) {X Z : ASet} {env : Env} {A : Around} {s : Shared} (S0 : Sta P Z s X env (defScope (B0 25)) [("script", Zs script)] s) (rm : Room A 200) :
    wpAny (model P.prog P.w) A (execs (defBody (B0 25)) env) (fun f s' => ∃ v, f = .ret v ∧ Step P Z s s' ∧ v = .bool true) F0 s := by
  obtain ⟨c0, c1, c2, c3, c4, c5, hc⟩ := cells_six script
  obtain ⟨a, b, R, h1, h2, h3, h4, h5⟩ := ruler_all c0 c1 c2 c3
  have hu2 : 0 < 1 + c5 % (1 + c4 % 40) := by (clear hlen h1 h2 h3 h5; omega)
  have hm := Nat.mod_lt c5 (show 0 < 1 + c4 % 40 by (clear hlen h1 h2 h3 h5 hu2; omega))
  have hm40 := Nat.mod_lt c4 (show 0 < 40 by decide)
  have hul2 : 1 + c5 % (1 + c4 % 40) ≤ 2 + c4 % 40 := by (clear hlen h1 h2 h3 h5 hu2 hm40; omega)
  generalize hu1 : a / Nat.gcd a b = u1 at *
  generalize hl1 : b / Nat.gcd a b = l1 at *
  generalize hu : 1 + c5 % (1 + c4 % 40) = u2 at *
  generalize hl : 2 + c4 % 40 = l2 at *
  have hl2 : l2 ≤ 125 := by (clear hlen hm hm40 hu1 h1 hl1 h3 h2 h5 hu hu2 hul2; omega)
  have hlen2 : (climbL l2 l2 u2).length < 60 := Nat.lt_of_le_of_lt (climb_len (by (clear hlen hm hm40 hu1 h1 hl1 h3 h2 h5 hu hu2 hul2 hl2; omega)) l2 u2) (by (clear hlen hm40 hu1 h1 hl1 h3 h2 h5 hu2 hul2 hl2; omega))
  refine law_body p V BP L hlen S0 rm hc R ?_
  rw [hu1, hl1, hu, hl]
  refine both_ok p V BP L h1 h2 h3 hu2 hul2 hl2 (holdH h1 h2 h3 h5) (holdH hu2 hul2 hl2 hlen2) h4 ?_ ?_
  · have g1 := climb_lex (show 1 ≤ l1 by (clear hlen hm hm40 hu1 hl1 h5 hu hu2 hl hul2 hl2 hlen2; omega)) (show 1 ≤ l2 by (clear hlen hm hm40 hu1 h1 hl1 h3 h2 h5 hu hu2 hul2 hl2 hlen2; omega)) h3 hl2 l1 l2 u1 u2 h2 hul2
    have g2 := climb_lex (show 1 ≤ l2 by (clear hlen hm hm40 hu1 h1 hl1 h3 h2 h5 hu hu2 hul2 hl2 hlen2 g1; omega)) (show 1 ≤ l1 by (clear hlen hm hm40 hu1 hl1 h5 hu hu2 hl hul2 hl2 hlen2 g1; omega)) hl2 h3 l2 l1 u2 u1 hul2 h2
    have := coll_sgn g1 g2
    push_cast at this; exact this
  · have g1 := fall_lex (show 1 ≤ l1 by (clear hlen hm hm40 hu1 hl1 h5 hu hu2 hl hul2 hl2 hlen2; omega)) (show 1 ≤ l2 by (clear hlen hm hm40 hu1 h1 hl1 h3 h2 h5 hu hu2 hul2 hl2 hlen2; omega)) h3 hl2 l1 l2 u1 u2 0 h2 hul2 h2 hul2
    have g2 := fall_lex (show 1 ≤ l2 by (clear hlen hm hm40 hu1 h1 hl1 h3 h2 h5 hu hu2 hul2 hl2 hlen2 g1; omega)) (show 1 ≤ l1 by (clear hlen hm hm40 hu1 hl1 h5 hu hu2 hl hul2 hl2 hlen2 g1; omega)) hl2 h3 l2 l1 u2 u1 0 hul2 h2 hul2 h2
    rw [if_pos (by decide), TF_turned, TF_turned] at g1 g2
    have := coll_sgn g1 g2
    push_cast at this; exact this
end Mine
end
open PySem PySem.W PySem.W.X PyProof.Rows
set_option maxHeartbeats 0
namespace Mine
-- the head: the view keeps the statements whose names the law needs; the top is run by the kernel, once for each answer of the world, on a tree of objects
noncomputable def keepAt (l : List Stmt) (is : List Nat) : List Stmt := is.filterMap fun i => l[i]?
noncomputable def viewP : Program := { PySem.Challenge.pw_wn0111_02 with main := { PySem.Challenge.pw_wn0111_02.main with body := keepAt PySem.Challenge.pw_wn0111_02.main.body [0, 2, 4, 5, 6, 7, 8, 9, 10, 12, 13, 14, 16, 17, 18, 19, 20, 21, 22, 23, 24, 25] } }
section
local macro_rules | `(tactic| o_head $_) => `(tactic| assumption)
theorem hd0 (walk : PySem.Challenge.rw_wn0111_02.row.Holds) : PySem.Challenge.rw_wn0111_02.row.Holds := by k_head
end
theorem addrs_ok (P : Params) : [2, 3, 15, 17, 18, 20, 21, 32, 34, 35, 37, 38, 39, 41, 42, 44, 45, 46, 48, 49, 51, 52, 53, 55, 56, 58, 59, 60, 62, 63, 65, 66, 67, 69, 70, 72, 73, 74, 76, 77, 79, 80, 81, 82, 83, 84, 85, 88, 90, 91, 93, 94, 95, 97, 98, 100, 101, 102, 104, 105, 107, 108, 109, 111, 112, 114, 115, 116, 118, 119, 121, 122, 123, 125, 126, 128, 129, 130, 132, 133, 135, 136, 137, 139, 140, 142, 143, 144, 146, 147, 149, 150, 151, 153, 154, 156, 157, 158, 160, 161, 163, 164, 165, 167, 168, 170, 171, 172, 174, 175, 177, 178, 179, 181, 182, 184, 185, 186, 189, 190, 191, 193, 194, 196, 197, 198, 201, 202, 203, 206, 207] = (hd0.heap_1 P).map (·.1) := by kernel_rfl
noncomputable abbrev hdEnv : Env := { scope := PySem.Challenge.pw_wn0111_02.main.scope, locals := mainNs, globals := mainNs, cells := [], code := .ref 13, frame := some 14 }
noncomputable abbrev hdPos : Pos := ⟨0, 0, 0, 0⟩
noncomputable def hdA : Obj := { cls := .type "tuple", data := .seq #[] }
noncomputable def hdB : Obj := { cls := .none, data := .fields #[] }
noncomputable def hdC : Obj := { cls := .type "code", data := .fields #[.str (Str.ofString "<module>") 182, .str (Str.ofString "<module>") 183, .str (Str.ofString "/claim/cut.py") 184, .int 1 0, .int 0 0, .int 0 0, .int 0 0, .int 0 0, .ref 11, .bool false, .int 181 0, .ref 12, .none, .none, .none, .none, .int 185 0, .int 1 0, .str (Str.ofString "/claim/cut.py") 186] }
noncomputable def hdD : Obj := { cls := .type "frame", slots := #[some (.ref 13), some (.ref 3), some (.ref 3), none, some (.str (Str.ofString "__main__") 164), none, some (.ref 0)] }
noncomputable def hdHeap (P : Params) : Heap := ⟨⟨[boot_o_0 P, boot_o_1 P, boot_o_2 P, boot_o_3 P, boot_o_4 P, boot_o_5 P, boot_o_6 P, boot_o_7 P, boot_o_8 P, boot_o_9 P, boot_o_10 P, hdA, hdB, hdC, hdD]⟩, {}⟩
noncomputable def hdTree (P : Params) : BT :=
  let n (o : Obj) := BT.node o .nil .nil
  .node (boot_o_0 P) (.node (boot_o_1 P) (.node (boot_o_3 P) (n (boot_o_7 P)) (n hdA)) (.node (boot_o_5 P) (n (boot_o_9 P)) (n hdC))) (.node (boot_o_2 P) (.node (boot_o_4 P) (n (boot_o_8 P)) (n hdB)) (.node (boot_o_6 P) (n (boot_o_10 P)) (n hdD)))
noncomputable abbrev hdS (w : World) (os : OsState) : SharedT := { tree := hdTree w.params, n := 15, life := {}, gens := ⟨[]⟩, drawn := {}, toks := 187, os := os }
theorem done_end {tb : String → Option Builtin} {p : Program} {w : World} {n₀ : Nat} {ann : Option Value} (s : Shared) (b : List Stmt) (env : Env) (pos q : Pos) : topRun tb p w n₀ ann 2 s ⟨doneF .next, .body b env, pos, [topFrame q]⟩ = some s := by cases s; rfl
noncomputable abbrev looksAt (p q : Program) (loose : List Str) (Xt : Shared → Bool) {α : Type} (Yf : Shared → α) (w : World) (r : Flow × SharedT × Code × Pos) :=
  (r.1, r.2.2, (staticsOk (importedModules p.main.body) (boot_heap w.params) r.2.1.abs.heap && namesBound p r.2.1.abs.heap && gensDone r.2.1.abs && laidKept (boot_heap w.params) r.2.1.abs.heap), openSeen q loose (importedModules p.main.body) Xt true r.2.1.abs, Yf r.2.1.abs)
theorem left_T {p q : Program} {loose : List Str} {Xt : Shared → Bool} {α : Type} {Yf : Shared → α} {Ya : World → α} {N m₀ k₁ k₂ M : Nat} {ann : Option Value} {env : Env} {pa pb pe qf : Pos} {Sa : World → OsState → Shared} {S : World → OsState → SharedT} {b : List Stmt}
    (boot : ∀ w : World, (fencedOpening treeTable p w N).map (fun s => (s.heap, s.gens, s.drawn, s.toks)) = some (boot_heap w.params, Array.mk [], boot_drawn, boot_toks))
    (size : ∀ w : World, ((boot_heap w.params).isNs mainGlobals && (Array.mk [] : Array GenState).size == 0, (boot_heap w.params).objs.size, (boot_heap w.params).nsMap mainGlobals "__annotations__") = (true, m₀, ann))
    (pre : ∀ w os, topGo treeTable p w m₀ ann k₁ ⟨boot_heap w.params, Array.mk [], boot_drawn, boot_toks, os⟩ (topStub p) = some (Sa w os, ⟨denote treeTable (.body b env), .body b env, pa, [topFrame qf]⟩))
    (blk : ∀ w os, segRun treeTable p w m₀ ann 1 k₂ (Sa w os) (blockOf b env (.body b env) pa [topFrame qf]) = some (.next, (S w os).abs, .body b env, pb))
    (le : Nat.ble (k₁ + (k₂ + (M + 2))) N = true)
    (fin : ∀ w os, (segRunT treeTable p w m₀ ann 1 M (S w os) (piecesOf b env (.body b env) pb [topFrame qf])).map (looksAt p q loose Xt Yf w) = some (.next, (.body b env, pe), true, openGood q loose, Ya w)) : LeftO p q loose Xt Yf Ya N := fun w => by
  obtain ⟨⟨h, gs, d, k, os⟩, e, e'⟩ := Option.map_eq_some_iff.mp (boot w)
  obtain ⟨rfl, rfl, rfl, rfl⟩ : h = boot_heap w.params ∧ gs = Array.mk [] ∧ d = boot_drawn ∧ k = boot_toks := by simpa using e'
  obtain ⟨z1, z2, z3⟩ : _ ∧ _ ∧ _ := by simpa only [Prod.mk.injEq] using size w
  obtain ⟨⟨f, s', c, ps⟩, r1, r2⟩ := Option.map_eq_some_iff.mp (fin w os)
  have q1 : f = .next := congrArg (·.1) r2
  have q2 : (c, ps) = (_, _) := congrArg (·.2.1) r2
  have l1 : (staticsOk (importedModules p.main.body) (boot_heap w.params) s'.abs.heap && namesBound p s'.abs.heap && gensDone s'.abs && laidKept (boot_heap w.params) s'.abs.heap) = true := congrArg (·.2.2.1) r2
  have l2 := congrArg (·.2.2.2.1) r2
  have l3 := congrArg (·.2.2.2.2) r2
  obtain ⟨rfl, rfl⟩ := Prod.mk.inj q2
  subst q1
  have a2 := piece_app (rest := []) (segRun_of r1) (piece_nil (done_end s'.abs b env ps qf))
  rw [List.append_nil] at a2
  have r := topRun_mono (N - (k₁ + (k₂ + (M + 2)))) _ _ _ _ (go_top (pre w os) (piece_block (blk w os) a2))
  rw [show k₁ + (k₂ + (M + 2)) + (N - (k₁ + (k₂ + (M + 2)))) = N by have := Nat.le_of_ble_eq_true le; omega] at r
  have t : topFrom treeTable p w N ⟨boot_heap w.params, Array.mk [], boot_drawn, boot_toks, os⟩ = some s'.abs := by
    unfold topFrom
    dsimp only
    rw [z1, z2, z3, r]
    show (match staticsOk (importedModules p.main.body) (boot_heap w.params) s'.abs.heap && namesBound p s'.abs.heap && gensDone s'.abs && laidKept (boot_heap w.params) s'.abs.heap with | true => _ | false => _) = _
    rw [l1]
  unfold openEnds
  rw [e]
  show (topFrom treeTable p w N _).map _ = _
  rw [t]
  exact congrArg some (Prod.ext l2 l3)
theorem hd_boot : ∀ w : World, (fencedOpening treeTable PySem.Challenge.rw_wn0111_02.row.prog w 2430).map (fun s => (s.heap, s.gens, s.drawn, s.toks)) = some (boot_heap w.params, Array.mk [], boot_drawn, boot_toks) := boot_open (by kernel_rfl) (by decide) (fun _ => rfl)
theorem hd_size (w : World) : ((boot_heap w.params).isNs mainGlobals && (Array.mk [] : Array GenState).size == 0, (boot_heap w.params).objs.size, (boot_heap w.params).nsMap mainGlobals "__annotations__") = (true, 11, some (.ref 6)) := by kernel_rfl
theorem hd_pre (w : World) (os : OsState) : topGo treeTable PySem.Challenge.rw_wn0111_02.row.prog w 11 (some (.ref 6)) 12 ⟨boot_heap w.params, Array.mk [], boot_drawn, boot_toks, os⟩ (topStub PySem.Challenge.rw_wn0111_02.row.prog) = some (⟨hdHeap w.params, ⟨[]⟩, {}, 187, os⟩, ⟨denote treeTable (.body (behindTheImports PySem.Challenge.rw_wn0111_02.row.prog) hdEnv), .body (behindTheImports PySem.Challenge.rw_wn0111_02.row.prog) hdEnv, hdPos, [topFrame hdPos]⟩) := by kernel_rfl
theorem hd_blk (w : World) (os : OsState) : segRun treeTable PySem.Challenge.rw_wn0111_02.row.prog w 11 (some (.ref 6)) 1 1 ⟨hdHeap w.params, ⟨[]⟩, {}, 187, os⟩ (blockOf (behindTheImports PySem.Challenge.rw_wn0111_02.row.prog) hdEnv (.body (behindTheImports PySem.Challenge.rw_wn0111_02.row.prog) hdEnv) hdPos [topFrame hdPos]) = some (.next, (hdS w os).abs, .body (behindTheImports PySem.Challenge.rw_wn0111_02.row.prog) hdEnv, hdPos) := by kernel_rfl
noncomputable abbrev hdFin (w : World) : Prop := ∀ os : OsState, (segRunT treeTable PySem.Challenge.rw_wn0111_02.row.prog w 11 (some (.ref 6)) 1 1153 (hdS w os) (piecesOf (behindTheImports PySem.Challenge.rw_wn0111_02.row.prog) hdEnv (.body (behindTheImports PySem.Challenge.rw_wn0111_02.row.prog) hdEnv) hdPos [topFrame hdPos])).map (looksAt PySem.Challenge.rw_wn0111_02.row.prog viewP [Str.ofString "Whitespace"] (fun s => xlAt viewP [] s && recOk (RowW.records PySem.Challenge.rw_wn0111_02.row.toRowW) s) (Hook.obs (kmHook hd0.heap_1 [2, 3, 15, 17, 18, 20, 21, 32, 34, 35, 37, 38, 39, 41, 42, 44, 45, 46, 48, 49, 51, 52, 53, 55, 56, 58, 59, 60, 62, 63, 65, 66, 67, 69, 70, 72, 73, 74, 76, 77, 79, 80, 81, 82, 83, 84, 85, 88, 90, 91, 93, 94, 95, 97, 98, 100, 101, 102, 104, 105, 107, 108, 109, 111, 112, 114, 115, 116, 118, 119, 121, 122, 123, 125, 126, 128, 129, 130, 132, 133, 135, 136, 137, 139, 140, 142, 143, 144, 146, 147, 149, 150, 151, 153, 154, 156, 157, 158, 160, 161, 163, 164, 165, 167, 168, 170, 171, 172, 174, 175, 177, 178, 179, 181, 182, 184, 185, 186, 189, 190, 191, 193, 194, 196, 197, 198, 201, 202, 203, 206, 207] addrs_ok [110, 103])) w) = some (.next, (.body (behindTheImports PySem.Challenge.rw_wn0111_02.row.prog) hdEnv, ⟨213, 0, 224, 63⟩), true, openGood viewP [Str.ofString "Whitespace"], Hook.val (kmHook hd0.heap_1 [2, 3, 15, 17, 18, 20, 21, 32, 34, 35, 37, 38, 39, 41, 42, 44, 45, 46, 48, 49, 51, 52, 53, 55, 56, 58, 59, 60, 62, 63, 65, 66, 67, 69, 70, 72, 73, 74, 76, 77, 79, 80, 81, 82, 83, 84, 85, 88, 90, 91, 93, 94, 95, 97, 98, 100, 101, 102, 104, 105, 107, 108, 109, 111, 112, 114, 115, 116, 118, 119, 121, 122, 123, 125, 126, 128, 129, 130, 132, 133, 135, 136, 137, 139, 140, 142, 143, 144, 146, 147, 149, 150, 151, 153, 154, 156, 157, 158, 160, 161, 163, 164, 165, 167, 168, 170, 171, 172, 174, 175, 177, 178, 179, 181, 182, 184, 185, 186, 189, 190, 191, 193, 194, 196, 197, 198, 201, 202, 203, 206, 207] addrs_ok [110, 103]) w)
theorem left_f (w : World) : hdFin (w.withFollow "special-get-raises" false) := by
  intro os
  unfold looksAt
  rw [PySem.W.Fast.te10110043849684766642, PySem.W.Fast.te14364793385576792824, PySem.W.Fast.te4187177175401517315]
  kernel_rfl
theorem left_t (w : World) : hdFin (w.withFollow "special-get-raises" true) := by
  intro os
  unfold looksAt
  rw [PySem.W.Fast.te10110043849684766642, PySem.W.Fast.te14364793385576792824, PySem.W.Fast.te4187177175401517315]
  kernel_rfl
section
local macro_rules
  | `(tactic| k_head) => do
    let hw := Lean.mkIdent `hw
    let hc := Lean.mkIdent `hc
    `(tactic| refine holds_open (q := viewP) (loose := [Str.ofString "Whitespace"]) (Xt := fun s => xlAt viewP [] s && recOk (RowW.records PySem.Challenge.rw_wn0111_02.row.toRowW) s) (XP := XL viewP []) (Yf := Hook.obs (kmHook hd0.heap_1 [2, 3, 15, 17, 18, 20, 21, 32, 34, 35, 37, 38, 39, 41, 42, 44, 45, 46, 48, 49, 51, 52, 53, 55, 56, 58, 59, 60, 62, 63, 65, 66, 67, 69, 70, 72, 73, 74, 76, 77, 79, 80, 81, 82, 83, 84, 85, 88, 90, 91, 93, 94, 95, 97, 98, 100, 101, 102, 104, 105, 107, 108, 109, 111, 112, 114, 115, 116, 118, 119, 121, 122, 123, 125, 126, 128, 129, 130, 132, 133, 135, 136, 137, 139, 140, 142, 143, 144, 146, 147, 149, 150, 151, 153, 154, 156, 157, 158, 160, 161, 163, 164, 165, 167, 168, 170, 171, 172, 174, 175, 177, 178, 179, 181, 182, 184, 185, 186, 189, 190, 191, 193, 194, 196, 197, 198, 201, 202, 203, 206, 207] addrs_ok [110, 103])) (Ya := Hook.val (kmHook hd0.heap_1 [2, 3, 15, 17, 18, 20, 21, 32, 34, 35, 37, 38, 39, 41, 42, 44, 45, 46, 48, 49, 51, 52, 53, 55, 56, 58, 59, 60, 62, 63, 65, 66, 67, 69, 70, 72, 73, 74, 76, 77, 79, 80, 81, 82, 83, 84, 85, 88, 90, 91, 93, 94, 95, 97, 98, 100, 101, 102, 104, 105, 107, 108, 109, 111, 112, 114, 115, 116, 118, 119, 121, 122, 123, 125, 126, 128, 129, 130, 132, 133, 135, 136, 137, 139, 140, 142, 143, 144, 146, 147, 149, 150, 151, 153, 154, 156, 157, 158, 160, 161, 163, 164, 165, 167, 168, 170, 171, 172, 174, 175, 177, 178, 179, 181, 182, 184, 185, 186, 189, 190, 191, 193, 194, 196, 197, 198, 201, 202, 203, 206, 207] addrs_ok [110, 103])) (YP := Hook.says (kmHook hd0.heap_1 [2, 3, 15, 17, 18, 20, 21, 32, 34, 35, 37, 38, 39, 41, 42, 44, 45, 46, 48, 49, 51, 52, 53, 55, 56, 58, 59, 60, 62, 63, 65, 66, 67, 69, 70, 72, 73, 74, 76, 77, 79, 80, 81, 82, 83, 84, 85, 88, 90, 91, 93, 94, 95, 97, 98, 100, 101, 102, 104, 105, 107, 108, 109, 111, 112, 114, 115, 116, 118, 119, 121, 122, 123, 125, 126, 128, 129, 130, 132, 133, 135, 136, 137, 139, 140, 142, 143, 144, 146, 147, 149, 150, 151, 153, 154, 156, 157, 158, 160, 161, 163, 164, 165, 167, 168, 170, 171, 172, 174, 175, 177, 178, 179, 181, 182, 184, 185, 186, 189, 190, 191, 193, 194, 196, 197, 198, 201, 202, 203, 206, 207] addrs_ok [110, 103])) (N := 2430) (left_T hd_boot hd_size hd_pre hd_blk (by decide) fun w => byRow2 (P := hdFin) "special-get-raises" left_f left_t w) (Hook.of (kmHook hd0.heap_1 [2, 3, 15, 17, 18, 20, 21, 32, 34, 35, 37, 38, 39, 41, 42, 44, 45, 46, 48, 49, 51, 52, 53, 55, 56, 58, 59, 60, 62, 63, 65, 66, 67, 69, 70, 72, 73, 74, 76, 77, 79, 80, 81, 82, 83, 84, 85, 88, 90, 91, 93, 94, 95, 97, 98, 100, 101, 102, 104, 105, 107, 108, 109, 111, 112, 114, 115, 116, 118, 119, 121, 122, 123, 125, 126, 128, 129, 130, 132, 133, 135, 136, 137, 139, 140, 142, 143, 144, 146, 147, 149, 150, 151, 153, 154, 156, 157, 158, 160, 161, 163, 164, 165, 167, 168, 170, 171, 172, 174, 175, 177, 178, 179, 181, 182, 184, 185, 186, 189, 190, 191, 193, 194, 196, 197, 198, 201, 202, 203, 206, 207] addrs_ok [110, 103])) (Hook.keeps (kmHook hd0.heap_1 [2, 3, 15, 17, 18, 20, 21, 32, 34, 35, 37, 38, 39, 41, 42, 44, 45, 46, 48, 49, 51, 52, 53, 55, 56, 58, 59, 60, 62, 63, 65, 66, 67, 69, 70, 72, 73, 74, 76, 77, 79, 80, 81, 82, 83, 84, 85, 88, 90, 91, 93, 94, 95, 97, 98, 100, 101, 102, 104, 105, 107, 108, 109, 111, 112, 114, 115, 116, 118, 119, 121, 122, 123, 125, 126, 128, 129, 130, 132, 133, 135, 136, 137, 139, 140, 142, 143, 144, 146, 147, 149, 150, 151, 153, 154, 156, 157, 158, 160, 161, 163, 164, 165, 167, 168, 170, 171, 172, 174, 175, 177, 178, 179, 181, 182, 184, 185, 186, 189, 190, 191, 193, 194, 196, 197, 198, 201, 202, 203, 206, 207] addrs_ok [110, 103])) (fun s e => xl_of s (Bool.and_eq_true_iff.mp e).1) XL.keeps (by rfl) (by rfl) (by rfl) (fun s e => recFacts_of (Bool.and_eq_true_iff.mp e).2) (by rfl) (by assumption) (by decide +kernel) ⟨rfl, rfl, rfl, rfl, rfl, by decide +kernel⟩ ?$hw ?$hc)
open_top hd2 for PySem.Challenge.rw_wn0111_02
end
end Mine
namespace Mine
noncomputable abbrev tabs2 : List Tab := [⟨114, 110, (defPos inD).line, 4, "_digits2int.<locals>.inner"⟩, ⟨107, 103, (defPos inI).line, 4, "_int2digits.<locals>.inner"⟩]
section
variable {prog : Program} {w : World} {mg mb : Str → Option Value} {h : Heap}
noncomputable abbrev P2 (prog : Program) (w : World) (mg mb : Str → Option Value) (h : Heap) : Prm := prmOf prog w (hd0.heap_1 w.params) mg mb tabs2 h
theorem def2 {x : Str} {d : Stmt} (a : Addr) {fd : FuncData} (KX : (hd0.heap_1 w.params).In h) (G : h.Ns mainGlobals mg) (e : nsIn (hd0.heap_1 w.params) mainGlobals x = some (some (.ref a))) (k : keepIn (hd0.heap_1 w.params) (.ref a) = true) (F : FnObj (P2 prog w mg mb h) a d fd) : Def (P2 prog w mg mb h) x d := ⟨a, fd, mg_of KX G e, k, F⟩
theorem boot2 {x : Str} (KX : (hd0.heap_1 w.params).In h) (G : h.Ns mainGlobals mg) (e : nsIn (hd0.heap_1 w.params) mainGlobals x = some none) : Boot (P2 prog w mg mb h) x := mg_none_of KX G e
theorem d2_5 (KX : (hd0.heap_1 w.params).In h) (G : h.Ns mainGlobals mg) : Def (P2 prog w mg mb h) "_div2n1n" (B0 5) := def2 94 KX G (by kernel_rfl) (by kernel_rfl) ⟨⟨_, _, _, rfl⟩, rfl, rfl, rfl, rfl, rfl, rfl, by kernel_rfl, rfl, rfl⟩
theorem d2_9 (KX : (hd0.heap_1 w.params).In h) (G : h.Ns mainGlobals mg) : Def (P2 prog w mg mb h) "_divmod_pos" (B0 9) := def2 122 KX G (by kernel_rfl) (by kernel_rfl) ⟨⟨_, _, _, rfl⟩, rfl, rfl, rfl, rfl, rfl, rfl, by kernel_rfl, rfl, rfl⟩
theorem d2_10 (KX : (hd0.heap_1 w.params).In h) (G : h.Ns mainGlobals mg) : Def (P2 prog w mg mb h) "int_divmod" (B0 10) := def2 129 KX G (by kernel_rfl) (by kernel_rfl) ⟨⟨_, _, _, rfl⟩, rfl, rfl, rfl, rfl, rfl, rfl, by kernel_rfl, rfl, rfl⟩
theorem d2_12 (KX : (hd0.heap_1 w.params).In h) (G : h.Ns mainGlobals mg) : Def (P2 prog w mg mb h) "_strcoll" (B0 12) := def2 136 KX G (by kernel_rfl) (by kernel_rfl) ⟨⟨_, _, _, rfl⟩, rfl, rfl, rfl, rfl, rfl, rfl, by kernel_rfl, rfl, rfl⟩
theorem d2_14 (KX : (hd0.heap_1 w.params).In h) (G : h.Ns mainGlobals mg) : Def (P2 prog w mg mb h) "_grouping_intervals" (B0 14) := def2 143 KX G (by kernel_rfl) (by kernel_rfl) ⟨⟨_, _, _, rfl⟩, rfl, rfl, rfl, rfl, rfl, rfl, by kernel_rfl, rfl, rfl⟩
theorem d2_16 (KX : (hd0.heap_1 w.params).In h) (G : h.Ns mainGlobals mg) : Def (P2 prog w mg mb h) "_law_told" (B0 16) := def2 150 KX G (by kernel_rfl) (by kernel_rfl) ⟨⟨_, _, _, rfl⟩, rfl, rfl, rfl, rfl, rfl, rfl, by kernel_rfl, rfl, rfl⟩
theorem d2_17 (KX : (hd0.heap_1 w.params).In h) (G : h.Ns mainGlobals mg) : Def (P2 prog w mg mb h) "_law_ruler" (B0 17) := def2 157 KX G (by kernel_rfl) (by kernel_rfl) ⟨⟨_, _, _, rfl⟩, rfl, rfl, rfl, rfl, rfl, rfl, by kernel_rfl, rfl, rfl⟩
theorem d2_18 (KX : (hd0.heap_1 w.params).In h) (G : h.Ns mainGlobals mg) : Def (P2 prog w mg mb h) "_law_worth" (B0 18) := def2 164 KX G (by kernel_rfl) (by kernel_rfl) ⟨⟨_, _, _, rfl⟩, rfl, rfl, rfl, rfl, rfl, rfl, by kernel_rfl, rfl, rfl⟩
theorem d2_19 (KX : (hd0.heap_1 w.params).In h) (G : h.Ns mainGlobals mg) : Def (P2 prog w mg mb h) "_law_lowest" (B0 19) := def2 171 KX G (by kernel_rfl) (by kernel_rfl) ⟨⟨_, _, _, rfl⟩, rfl, rfl, rfl, rfl, rfl, rfl, by kernel_rfl, rfl, rfl⟩
theorem d2_20 (KX : (hd0.heap_1 w.params).In h) (G : h.Ns mainGlobals mg) : Def (P2 prog w mg mb h) "_law_climb" (B0 20) := def2 178 KX G (by kernel_rfl) (by kernel_rfl) ⟨⟨_, _, _, rfl⟩, rfl, rfl, rfl, rfl, rfl, rfl, by kernel_rfl, rfl, rfl⟩
theorem d2_21 (KX : (hd0.heap_1 w.params).In h) (G : h.Ns mainGlobals mg) : Def (P2 prog w mg mb h) "_law_fall" (B0 21) := def2 185 KX G (by kernel_rfl) (by kernel_rfl) ⟨⟨_, _, _, rfl⟩, rfl, rfl, rfl, rfl, rfl, rfl, by kernel_rfl, rfl, rfl⟩
theorem d2_22 (KX : (hd0.heap_1 w.params).In h) (G : h.Ns mainGlobals mg) : Def (P2 prog w mg mb h) "_law_holds" (B0 22) := def2 190 KX G (by kernel_rfl) (by kernel_rfl) ⟨⟨_, _, _, rfl⟩, rfl, rfl, rfl, rfl, rfl, rfl, by kernel_rfl, rfl, rfl⟩
theorem d2_23 (KX : (hd0.heap_1 w.params).In h) (G : h.Ns mainGlobals mg) : Def (P2 prog w mg mb h) "_law_turned" (B0 23) := def2 197 KX G (by kernel_rfl) (by kernel_rfl) ⟨⟨_, _, _, rfl⟩, rfl, rfl, rfl, rfl, rfl, rfl, by kernel_rfl, rfl, rfl⟩
theorem d2_24 (KX : (hd0.heap_1 w.params).In h) (G : h.Ns mainGlobals mg) : Def (P2 prog w mg mb h) "_law_both" (B0 24) := def2 202 KX G (by kernel_rfl) (by kernel_rfl) ⟨⟨_, _, _, rfl⟩, rfl, rfl, rfl, rfl, rfl, rfl, by kernel_rfl, rfl, rfl⟩
theorem fn_law (w : World) (prog : Program) (mg mb : Str → Option Value) (h : Heap) : ∃ fd, FnObj (P2 prog w mg mb h) 207 (B0 25) fd := ⟨_, ⟨_, _, _, rfl⟩, rfl, rfl, rfl, rfl, rfl, rfl, by kernel_rfl, rfl, rfl⟩
theorem ci2 (KX : (hd0.heap_1 w.params).In h) (G : h.Ns mainGlobals mg) : DefC (P2 prog w mg mb h) "_int2digits" (B0 7) 107 "_int2digits" := ⟨108, _, mg_of KX G (by kernel_rfl), by kernel_rfl, ⟨⟨_, _, _, rfl⟩, rfl, rfl, rfl, rfl, rfl, rfl, by kernel_rfl, rfl, rfl⟩, rfl, rfl⟩
theorem cd2 (KX : (hd0.heap_1 w.params).In h) (G : h.Ns mainGlobals mg) : DefC (P2 prog w mg mb h) "_digits2int" (B0 8) 114 "_digits2int" := ⟨115, _, mg_of KX G (by kernel_rfl), by kernel_rfl, ⟨⟨_, _, _, rfl⟩, rfl, rfl, rfl, rfl, rfl, rfl, by kernel_rfl, rfl, rfl⟩, rfl, rfl⟩
theorem divP2 (KX : (hd0.heap_1 w.params).In h) (G : h.Ns mainGlobals mg) : DivP (P2 prog w mg mb h) where
  div2 := d2_5 KX G
  lim := ⟨_, mg_of KX G (by rfl)⟩
  i2d := ⟨⟨107, 103, (defPos inI).line, 4, "_int2digits.<locals>.inner"⟩, ci2 KX G, ⟨.tail _ (.head _), fun t' ht e => by rcases ht with _ | ⟨_, _ | ⟨_, q⟩⟩ <;> first | rfl | (cases e) | (cases q), rfl, rfl, rfl⟩⟩
  d2i := ⟨⟨114, 110, (defPos inD).line, 4, "_digits2int.<locals>.inner"⟩, cd2 KX G, ⟨.head _, fun t' ht e => by rcases ht with _ | ⟨_, _ | ⟨_, q⟩⟩ <;> first | rfl | (cases e) | (cases q), rfl, rfl, rfl⟩⟩
  dpos := d2_9 KX G
  idm := d2_10 KX G
  bdivmod := boot2 KX G (by kernel_rfl)
  blen := boot2 KX G (by kernel_rfl)
  brev := boot2 KX G (by kernel_rfl)
theorem told2 (KX : (hd0.heap_1 w.params).In h) (G : h.Ns mainGlobals mg) : ToldP (P2 prog w mg mb h) where
  group := d2_14 KX G
  told := d2_16 KX G
  cmax := ⟨_, mg_of KX G (by rfl)⟩
  len := boot2 KX G (by kernel_rfl)
theorem ws2 (KX : (hd0.heap_1 w.params).In h) (G : h.Ns mainGlobals mg) : WsP (P2 prog w mg mb h) 83 where
  ck := ⟨by kernel_rfl, by kernel_rfl, by kernel_rfl, by kernel_rfl, by kernel_rfl⟩
  at' := mg_of KX G (by kernel_rfl)
  keep := by kernel_rfl
  makes := by kernel_rfl
  init := ⟨38, _, by kernel_rfl, by kernel_rfl, ⟨⟨_, _, _, rfl⟩, rfl, rfl, rfl, rfl, rfl, rfl, by kernel_rfl, rfl, rfl⟩⟩
  free := fun x hx => by
    rcases hx with _ | ⟨_, _ | ⟨_, _ | ⟨_, _ | ⟨_, _ | ⟨_, q⟩⟩⟩⟩⟩
    · exact ⟨by kernel_rfl, by kernel_rfl⟩
    · exact ⟨by kernel_rfl, by kernel_rfl⟩
    · exact ⟨by kernel_rfl, by kernel_rfl⟩
    · exact ⟨by kernel_rfl, by kernel_rfl⟩
    · exact ⟨by kernel_rfl, by kernel_rfl⟩
    · cases q
  reads := by kernel_rfl
  S := ⟨_, _, rfl, rfl⟩
  T := ⟨_, _, rfl, rfl⟩
  len := boot2 KX G (by kernel_rfl)
  tuple := boot2 KX G (by kernel_rfl)
theorem lawP2 (KX : (hd0.heap_1 w.params).In h) (G : h.Ns mainGlobals mg) : LawP (P2 prog w mg mb h) 83 where
  ws := ws2 KX G
  div := divP2 KX G
  told := told2 KX G
  range := boot2 KX G (by kernel_rfl)
  indent := ⟨52, _, by kernel_rfl, by kernel_rfl, by kernel_rfl, ⟨⟨_, _, _, rfl⟩, rfl, rfl, rfl, rfl, rfl, rfl, by kernel_rfl, rfl, rfl⟩⟩
theorem bootP2 (KX : (hd0.heap_1 w.params).In h) (G : h.Ns mainGlobals mg) : BootP (P2 prog w mg mb h) := ⟨boot2 KX G (by kernel_rfl), boot2 KX G (by kernel_rfl), boot2 KX G (by kernel_rfl)⟩
theorem lawD2 (KX : (hd0.heap_1 w.params).In h) (G : h.Ns mainGlobals mg) : LawD (P2 prog w mg mb h) where
  climb := d2_20 KX G
  fall := d2_21 KX G
  holds := d2_22 KX G
  worth := d2_18 KX G
  turned := d2_23 KX G
  coll := d2_12 KX G
  both := d2_24 KX G
  lowest := d2_19 KX G
  ruler := d2_17 KX G
  enum := boot2 KX G (by kernel_rfl)
  chr := boot2 KX G (by kernel_rfl)
  int := boot2 KX G (by kernel_rfl)
end
theorem binds_law2 : Binds (B0 25) ["script"] := by
  intro fd h1 h2 h3 vs hl
  obtain ⟨x, q, pr, b, sc, g, c, d, k, _⟩ := fd
  simp only at h1 h2 h3
  subst h1 h2 h3
  obtain ⟨u, rfl⟩ := len1 hl
  rfl
theorem all2 {prog p0 : Program} {w : World} {mg mb : Str → Option Value} {loose : List Str} {mean mean' : ExcName → Option Value} {c : ClaimW} {cl : Str → Option Addr} {args : List WData} {s₁ : Shared} {fa la : Addr} {vs : List Value} {script : List Int}
    (hmg : mg "law" = some (.ref fa)) (hT : TabsAt [(114, 110), (107, 103)] s₁.heap) (KX : (hd0.heap_1 w.params).In s₁.heap) (T : Top p0 loose mean mg mb s₁.heap) (hg : s₁.gens = #[]) (hn : ∀ cls, c.raises args cls = false) (hp : c.post args (.bool true) args = true)
    (hL : s₁.heap.IsList la vs.toArray) (hI : IntsAre vs script) (hlen : script.length ≤ 63) :
    wpAny (model prog w) callerA (call (.ref fa) [.ref la]) (fun v s' => GoodWG c cl mean' args s₁ (.ok (.ret v)) s') (fun e s' => GoodWG c cl mean' args s₁ (.error e) s') s₁ := by
  have e1 : mg "law" = some (.ref 207) := mg_of KX T.g (by kernel_rfl)
  have : fa = 207 := by rw [e1] at hmg; injection hmg with h; injection h with h; exact h.symm
  subst this
  obtain ⟨fd, F⟩ := fn_law w prog mg mb s₁.heap
  refine law_head (tabs := tabs2) hT KX (by kernel_rfl) T hg hn hp F ⟨rfl, by decide, by rfl, ⟨rfl, rfl, rfl⟩, by decide⟩ binds_law2 hL hI fun p X Z env A s S rm _ _ => ?_
  refine wpAny_mono (law_true p (lawP2 KX T.g) (bootP2 KX T.g) (lawD2 KX T.g) hlen S (room_le rm (by decide))) (fun f s' ⟨v, e, st, r⟩ => ⟨v, e, st, by subst r; exact rd_bool⟩) fun _ _ y => y
end Mine
theorem PySem.Challenge.cw_wn0111_02_holds : PySem.Challenge.rw_wn0111_02.Holds :=
  Mine.hd2 (by
  w_strict (
  k_fill
  intro w s₀ s₁ mg mb G Y fa o pm cd doc dV kV ho hd hcd hD hmg hg args vals as hpre hlay hrd hwl hlo
  have KX := km_in_of Y
  km_tabs Y
  refine Ground.open G ?_
  intro T B D TE TW
  try (refine guard_noD D (by decide +kernel) ?_; clear D)
  km_lay T hmg ho hd cd
  wrow_args hpre hlay hrd hwl hlo)
  refine Mine.all2 hmg hT9 KX T hg (fun _ => rfl) (by kernel_rfl) (by assumption) (by assumption) (by omega))

