import PyProof.Rows.All
import Wide.All
import OpenK.AllK
import Wide.FinOn
import PySem.Challenge.RW_sn0120_01
open PySem PySem.W PyProof.Rows
set_option Elab.async false
set_option maxRecDepth 100000
set_option linter.all false
set_option genSizeOf false
set_option genInjectivity false
namespace Mine


noncomputable abbrev Part := Addr → Option Obj
noncomputable def Part.le (P P' : Part) : Prop := ∀ b o, P b = some o → P' b = some o
theorem Part.le_refl (P : Part) : P.le P := fun _ _ e => e
theorem Part.le_trans {P Q R : Part} (a : P.le Q) (b : Q.le R) : P.le R := fun x o e => b x o (a x o e)
noncomputable def KeptIn (P : Part) (h : Heap) : Prop := ∀ b o, P b = some o → h.get? b = some o
noncomputable def Part.put (P : Part) (a : Addr) (o : Obj) : Part := fun b => if b = a then some o else P b
theorem Part.put_le {P : Part} {a : Addr} {o : Obj} (h : P a = none) : P.le (P.put a o) := fun b o' e => by
  unfold Part.put
  by_cases hb : b = a
  · subst hb; rw [h] at e; cases e
  · rw [if_neg hb]; exact e
theorem Part.put_self {P : Part} {a : Addr} {o : Obj} : P.put a o a = some o := if_pos rfl
theorem Part.put_other {P : Part} {a b : Addr} {o : Obj} (h : b ≠ a) : P.put a o b = P b := if_neg h

mutual
inductive Rep (P : Part) : Value → PyData → Prop
  | none : Rep P .none .none
  | bool (b) : Rep P (.bool b) (.bool b)
  | int (i t) : Rep P (.int i t) (.int i)
  | str (x t) : Rep P (.str x t) (.str x)
  | list {a o vs n xs} : P a = some o → o.cls = .type "list" → o.data = .seq vs n → RepL P vs.toList xs → Rep P (.ref a) (.list xs)
  | tuple {a o vs n xs} : P a = some o → o.cls = .type "tuple" → o.data = .seq vs n → RepL P vs.toList xs → Rep P (.ref a) (.tuple xs)
inductive RepL (P : Part) : List Value → List PyData → Prop
  | nil : RepL P [] []
  | cons {v vs d ds} : Rep P v d → RepL P vs ds → RepL P (v :: vs) (d :: ds)
end

mutual
theorem Rep.mono {P P' : Part} (hle : P.le P') : ∀ {v : Value} {d : PyData}, Rep P v d → Rep P' v d
  | _, _, .none => .none
  | _, _, .bool b => .bool b
  | _, _, .int i t => .int i t
  | _, _, .str x t => .str x t
  | _, _, .list h1 h2 h3 h4 => .list (hle _ _ h1) h2 h3 (RepL.mono hle h4)
  | _, _, .tuple h1 h2 h3 h4 => .tuple (hle _ _ h1) h2 h3 (RepL.mono hle h4)
theorem RepL.mono {P P' : Part} (hle : P.le P') : ∀ {vs : List Value} {ds : List PyData}, RepL P vs ds → RepL P' vs ds
  | _, _, .nil => .nil
  | _, _, .cons h1 h2 => .cons (Rep.mono hle h1) (RepL.mono hle h2)
end

mutual
theorem Rep.reads {P : Part} {h : Heap} (k : KeptIn P h) : ∀ {v : Value} {d : PyData}, Rep P v d → ∃ as, Reads h v d as
  | _, _, .none => ⟨_, .none⟩
  | _, _, .bool b => ⟨_, .bool b⟩
  | _, _, .int i t => ⟨_, .int i t⟩
  | _, _, .str x t => ⟨_, .str x t⟩
  | _, _, .list h1 h2 h3 h4 => let ⟨_, r⟩ := RepL.reads k h4; ⟨_, .list (k _ _ h1) h2 h3 r⟩
  | _, _, .tuple h1 h2 h3 h4 => let ⟨_, r⟩ := RepL.reads k h4; ⟨_, .tuple (k _ _ h1) h2 h3 r⟩
theorem RepL.reads {P : Part} {h : Heap} (k : KeptIn P h) : ∀ {vs : List Value} {ds : List PyData}, RepL P vs ds → ∃ as, ReadsAll h vs ds as
  | _, _, .nil => ⟨_, .nil⟩
  | _, _, .cons h1 h2 => let ⟨_, r1⟩ := Rep.reads k h1; let ⟨_, r2⟩ := RepL.reads k h2; ⟨_, .cons r1 r2⟩
end

theorem RepL.length {P : Part} {vs : List Value} {ds : List PyData} (h : RepL P vs ds) : vs.length = ds.length := by
  induction vs generalizing ds with
  | nil => cases h; rfl
  | cons v r ih => cases h with | cons _ h2 => simp [ih h2]
theorem RepL.append {P : Part} {vs vs' : List Value} {ds ds' : List PyData} (h : RepL P vs ds) (h' : RepL P vs' ds') : RepL P (vs ++ vs') (ds ++ ds') := by
  induction vs generalizing ds with
  | nil => cases h; exact h'
  | cons v r ih => cases h with | cons h1 h2 => exact .cons h1 (ih h2)
theorem RepL.split {P : Part} {vs : List Value} {ds ds' : List PyData} (h : RepL P vs (ds ++ ds')) : ∃ us us', vs = us ++ us' ∧ RepL P us ds ∧ RepL P us' ds' := by
  induction ds generalizing vs with
  | nil => exact ⟨[], vs, rfl, .nil, h⟩
  | cons d r ih =>
    cases h with
    | cons h1 h2 =>
      obtain ⟨us, us', e, a, b⟩ := ih h2
      exact ⟨_ :: us, us', by rw [e]; rfl, .cons h1 a, b⟩
theorem RepL.get {P : Part} {vs : List Value} {ds : List PyData} (h : RepL P vs ds) {i : Nat} {d : PyData} (hd : ds[i]? = some d) : ∃ v, vs[i]? = some v ∧ Rep P v d := by
  induction vs generalizing ds i with
  | nil => cases h; simp at hd
  | cons v r ih =>
    cases h with
    | cons h1 h2 =>
      cases i with
      | zero => simp at hd; subst hd; exact ⟨v, by simp, h1⟩
      | succ j => obtain ⟨u, e, q⟩ := ih h2 (i := j) (by simpa using hd); exact ⟨u, by simpa using e, q⟩
theorem RepL.get_none {P : Part} {vs : List Value} {ds : List PyData} (h : RepL P vs ds) {i : Nat} (hd : ds[i]? = none) : vs[i]? = none := by
  have := h.length
  simp at hd ⊢
  omega
theorem RepL.drop {P : Part} {vs : List Value} {ds : List PyData} (h : RepL P vs ds) (n : Nat) : RepL P (vs.drop n) (ds.drop n) := by
  induction n generalizing vs ds with
  | zero => simpa using h
  | succ n ih =>
    cases h with
    | nil => simpa using RepL.nil
    | cons h1 h2 => simpa using ih h2
theorem RepL.take {P : Part} {vs : List Value} {ds : List PyData} (h : RepL P vs ds) (n : Nat) : RepL P (vs.take n) (ds.take n) := by
  induction n generalizing vs ds with
  | zero => simpa using RepL.nil
  | succ n ih =>
    cases h with
    | nil => simpa using RepL.nil
    | cons h1 h2 => simpa using RepL.cons h1 (ih h2)

/-- what a name of the frame may hold -/
inductive AV where
  | d (x : PyData)
  | own
  | di (f : Int → Option PyData)
  | ds (f : Str → Option PyData)

noncomputable def OptRep (P : Part) : Option Value → Option PyData → Prop
  | none, none => True
  | some v, some d => Rep P v d
  | _, _ => False
theorem OptRep.mono {P P' : Part} (hle : P.le P') : ∀ {a : Option Value} {b : Option PyData}, OptRep P a b → OptRep P' a b
  | none, none, _ => trivial
  | some _, some _, h => Rep.mono hle h


/-- the defs of the text, its numbers, its table of marks -/
noncomputable def funs : List (Str × Arguments × List Stmt × Scope) := PySem.Challenge.pw_sn0120_01.main.body.filterMap fun
  | .FunctionDef n a b _ _ _ sc _ _ _ => some (n, a, b, sc)
  | _ => none
noncomputable def consts : List (Str × Int) := PySem.Challenge.pw_sn0120_01.main.body.filterMap fun
  | .Assign [.Name x _] (.Constant (.int i) _ _) _ => some (x, i)
  | _ => none
noncomputable def exacts : List (Str × Int) := PySem.Challenge.pw_sn0120_01.main.body.flatMap fun
  | .Assign [.Name _ _] (.Dict ks vs _) _ => (ks.zip vs).filterMap fun
    | (some (.Constant (.str x) _ _), .Name y _) => (consts.lookup y).map fun i => (x, i)
    | _ => none
  | _ => []
noncomputable def exactF (x : Str) : Option PyData := (exacts.lookup x).map .int
/-- the program, the world, the names of its top -/
structure Gl where
  prog : Program
  w : World
  mg : Str → Option Value
  mb : Str → Option Value
  exA : Addr
  exQ : Str → Option Value

noncomputable def RepA (g : Gl) (P : Part) (ow : Option Addr) (v : Value) : AV → Prop
  | .d x => Rep P v x
  | .own => ∃ a, ow = some a ∧ v = .ref a
  | .di f => ∃ a, v = .ref a ∧ (a == sysModules) = false ∧ ∃ q, (∀ h, KeptIn P h → h.MapOf (intKind g.prog g.w) a q) ∧ ∀ k, OptRep P (q k) (f k)
  | .ds f => ∃ a, v = .ref a ∧ (a == sysModules) = false ∧ ∃ q, (∀ h, KeptIn P h → h.MapOf (PySem.strKind g.prog g.w) a q) ∧ ∀ k, OptRep P (q k) (f k)
theorem RepA.mono {g : Gl} {P P' : Part} {ow : Option Addr} (hle : P.le P') {v : Value} {av : AV} (h : RepA g P ow v av) : RepA g P' ow v av := by
  cases av with
  | d x => exact Rep.mono hle h
  | own => exact h
  | di f => obtain ⟨a, e, n, q, h1, h2⟩ := h; exact ⟨a, e, n, q, fun h' k => h1 h' fun b o e => k b o (hle b o e), fun k => (h2 k).mono hle⟩
  | ds f => obtain ⟨a, e, n, q, h1, h2⟩ := h; exact ⟨a, e, n, q, fun h' k => h1 h' fun b o e => k b o (hle b o e), fun k => (h2 k).mono hle⟩
noncomputable def AV.plain : AV → Bool
  | .own => false
  | _ => true
theorem RepA.plain {g : Gl} {P : Part} {ow ow' : Option Addr} {v : Value} {av : AV} (hp : av.plain = true) (h : RepA g P ow v av) : RepA g P ow' v av := by
  cases av with
  | own => cases hp
  | _ => exact h

structure St where
  vars : List (Str × AV)
  own : Option (Str × List PyData) := none

/-- the written top of the text, seen from the heap -/
structure GB (g : Gl) (h : Heap) : Prop where
  gns : h.Ns mainGlobals g.mg
  bns : h.Ns builtinsNs g.mb
  nl : h.NoLimit
  sm : ∃ mm, h.Ns sysModules mm
  fns : ∀ d ∈ funs, ∃ a o pm code doc, g.mg d.1 = some (.ref a) ∧ h.get? a = some o ∧ o.data = .func (Calls.docDef d.1 d.2.1 d.2.2.1 d.2.2.2 pm code doc) ∧ h.CodeRec code d.1
  cs : ∀ d ∈ consts, ∃ t, g.mg d.1 = some (.int d.2 t)
  bi : ∀ x ∈ (["len", "min", "max", "sum", "enumerate"] : List Str), g.mg x = none ∧ g.mb x = bootBuiltins x
  ex : g.mg "EXACT_TOKEN_TYPES" = some (.ref g.exA) ∧ (g.exA == sysModules) = false ∧ h.MapOf (PySem.strKind g.prog g.w) g.exA g.exQ ∧ ∀ k P, OptRep P (g.exQ k) (exactF k)
noncomputable def Glo (g : Gl) (P : Part) : Prop := ∀ h, KeptIn P h → GB g h
theorem Glo.mono {g : Gl} {P P' : Part} (hle : P.le P') (G : Glo g P) : Glo g P' := fun h k => G h fun b o e => k b o (hle b o e)

/-- a frame of the law's defs, and the room around it -/
structure Cx where
  g : Gl
  A : Around
  nm : Str
  sc : Scope
  L : Addr
  fa : Addr
  cd : Value
  room : Nat
noncomputable abbrev Cx.env (c : Cx) : Env := envOf c.nm c.sc c.L c.fa c.cd
noncomputable abbrev Cx.M (c : Cx) : Model := model c.g.prog c.g.w
structure Cx.Ok (c : Cx) : Prop where
  kind : c.sc.kind = .function
  hd : c.A.handled = none
  depth : c.A.depth + c.room < recursionLimit
  units : c.A.units + 8 * c.room + 200 < cLine

noncomputable def OwnOk (P : Part) (L : Addr) (m : Str → Option Value) (h : Heap) : Option (Str × List PyData) → Option Addr → Prop
  | none, none => True
  | some (x, ds), some a => m x = some (.ref a) ∧ a ≠ L ∧ P a = none ∧ ∃ vs : List Value, h.PlainList a vs.toArray ∧ RepL P vs ds
  | _, _ => False

structure Hd (c : Cx) (P : Part) (ow : Option Addr) (σ : St) (h : Heap) : Prop where
  kept : KeptIn P h
  offL : P c.L = none
  glo : Glo c.g P
  vars : ∃ m, h.Ns c.L m ∧ (∀ p ∈ σ.vars, p.2.plain = true ∧ ∃ v, m p.1 = some v ∧ RepA c.g P none v p.2) ∧ OwnOk P c.L m h σ.own ow

structure Step (L : Addr) (P : Part) (ow : Option Addr) (h : Heap) (P' : Part) (ow' : Option Addr) (h' : Heap) : Prop where
  keep : ∀ b o, h.get? b = some o → b ≠ L → ow ≠ some b → h'.get? b = some o
  le : P.le P'
  new : ∀ b o, P' b = some o → P b = some o ∨ ow = some b ∨ h.get? b = none
  own : ∀ a, ow' = some a → ow = some a ∨ h.get? a = none
  live : (h'.get? L).isSome = true

theorem Hd.live {c : Cx} {P : Part} {ow : Option Addr} {σ : St} {h : Heap} (H : Hd c P ow σ h) : (h.get? c.L).isSome = true := by
  obtain ⟨m, ⟨o, es, ep, e, _⟩, _⟩ := H.vars
  rw [e]; rfl
theorem Hd.ow_ne {c : Cx} {P : Part} {ow : Option Addr} {σ : St} {h : Heap} (H : Hd c P ow σ h) : ow ≠ some c.L := by
  obtain ⟨m, _, _, h3⟩ := H.vars
  intro e; subst e
  cases hs : σ.own with
  | none => rw [hs] at h3; exact h3
  | some p => obtain ⟨x, ds⟩ := p; rw [hs] at h3; exact h3.2.1 rfl
theorem Step.refl {L : Addr} {h : Heap} (P : Part) (ow : Option Addr) (hl : (h.get? L).isSome = true) : Step L P ow h P ow h := ⟨fun _ _ e _ _ => e, P.le_refl, fun _ _ e => .inl e, fun _ e => .inl e, hl⟩
theorem Step.trans {L : Addr} {P P₁ P₂ : Part} {ow ow₁ ow₂ : Option Addr} {h h₁ h₂ : Heap} (x : Step L P ow h P₁ ow₁ h₁) (y : Step L P₁ ow₁ h₁ P₂ ow₂ h₂) : Step L P ow h P₂ ow₂ h₂ :=
  have back : ∀ b, h₁.get? b = none → ow = some b ∨ h.get? b = none := fun b q => by
    cases e : h.get? b with
    | none => exact .inr rfl
    | some o =>
      refine .inl (Classical.byContradiction fun hn => ?_)
      have hb : b ≠ L := by rintro rfl; have := x.live; rw [q] at this; cases this
      rw [x.keep b o e hb hn] at q; cases q
  { keep := fun b o e hL ho => y.keep b o (x.keep b o e hL ho) hL fun e1 => by
      rcases x.own b e1 with q | q
      · exact ho q
      · rw [e] at q; cases q
    le := Part.le_trans x.le y.le
    new := fun b o e => by
      rcases y.new b o e with q | q | q
      · exact x.new b o q
      · rcases x.own b q with r | r
        · exact .inr (.inl r)
        · exact .inr (.inr r)
      · exact .inr (back b q)
    own := fun a e => by
      rcases y.own a e with q | q
      · exact x.own a q
      · exact back a q
    live := y.live }

noncomputable def Same (s s' : Shared) : Prop := s' = { s with heap := s'.heap, toks := s'.toks }
theorem Same.refl (s : Shared) : Same s s := rfl
theorem Same.trans {s s₁ s₂ : Shared} (x : Same s s₁) (y : Same s₁ s₂) : Same s s₂ := by
  unfold Same at *; rw [y, x]
theorem Same.mk (s : Shared) (h : Heap) (t : Nat) : Same s { s with heap := h, toks := t } := rfl

noncomputable abbrev NoE : Value → Shared → Prop := fun _ _ => False

section
variable {α β α' β' : Type}

noncomputable def PostE (c : Cx) (R : Part → Option Addr → Heap → α → β → Prop) (P : Part) (ow : Option Addr) (s : Shared) (K : β → St → Prop) : α → Shared → Prop :=
  fun v s' => ∃ P' σ' b, Same s s' ∧ Hd c P' ow σ' s'.heap ∧ Step c.L P ow s.heap P' ow s'.heap ∧ R P' ow s'.heap v b ∧ K b σ'
noncomputable def RunE (c : Cx) (R : Part → Option Addr → Heap → α → β → Prop) (t : Sem α) (σ : St) (K : β → St → Prop) : Prop :=
  c.Ok → ∀ s P ow, Hd c P ow σ s.heap → wpAny c.M c.A t (PostE c R P ow s K) NoE s

theorem PostE.here {c : Cx} {R : Part → Option Addr → Heap → α → β → Prop} {P : Part} {ow : Option Addr} {s : Shared} {K : β → St → Prop} {v : α} {s' : Shared} {P' : Part} {σ' : St} {b : β}
    (hs : Same s s') (H : Hd c P' ow σ' s'.heap) (S : Step c.L P ow s.heap P' ow s'.heap) (r : R P' ow s'.heap v b) (k : K b σ') : PostE c R P ow s K v s' := ⟨P', σ', b, hs, H, S, r, k⟩
theorem PostE.trans {c : Cx} {R : Part → Option Addr → Heap → α → β → Prop} {P P₁ : Part} {ow : Option Addr} {s s₁ s₂ : Shared} {K : β → St → Prop} {v : α}
    (hs : Same s s₁) (S : Step c.L P ow s.heap P₁ ow s₁.heap) (p : PostE c R P₁ ow s₁ K v s₂) : PostE c R P ow s K v s₂ := by
  obtain ⟨P', σ', b, h1, h2, h3, h4, h5⟩ := p
  exact ⟨P', σ', b, hs.trans h1, h2, S.trans h3, h4, h5⟩

/-- first t, then what f makes of its value -/
theorem seqE {c : Cx} {R : Part → Option Addr → Heap → α → β → Prop} {R' : Part → Option Addr → Heap → α' → β' → Prop} {t : Sem α} {f : α → Sem α'} {σ : St} {K₁ : β → St → Prop} {K : β' → St → Prop}
    {s : Shared} {P : Part} {ow : Option Addr} (h1 : RunE c R t σ K₁) (ok : c.Ok) (H : Hd c P ow σ s.heap)
    (next : ∀ v s₁ P₁ σ₁ b, Same s s₁ → Hd c P₁ ow σ₁ s₁.heap → Step c.L P ow s.heap P₁ ow s₁.heap → R P₁ ow s₁.heap v b → K₁ b σ₁ → wpAny c.M c.A (f v) (PostE c R' P₁ ow s₁ K) NoE s₁) :
    wpAny c.M c.A t (fun v s₁ => wpAny c.M c.A (f v) (PostE c R' P ow s K) NoE s₁) NoE s := by
  refine wpAny_mono (h1 ok s P ow H) (fun v s₁ p => ?_) fun _ _ e => e
  obtain ⟨P₁, σ₁, b, a1, a2, a3, a4, a5⟩ := p
  exact wpAny_mono (next v s₁ P₁ σ₁ b a1 a2 a3 a4 a5) (fun _ _ q => q.trans a1 a3) fun _ _ e => e
theorem RunE.mono {c : Cx} {R : Part → Option Addr → Heap → α → β → Prop} {t : Sem α} {σ : St} {K K' : β → St → Prop} (h : RunE c R t σ K) (k : ∀ b σ', K b σ' → K' b σ') : RunE c R t σ K' :=
  fun ok s P ow H => wpAny_mono (h ok s P ow H) (fun _ _ ⟨P', σ', b, a1, a2, a3, a4, a5⟩ => ⟨P', σ', b, a1, a2, a3, a4, k _ _ a5⟩) fun _ _ e => e
end

noncomputable def RV (g : Gl) : Part → Option Addr → Heap → Value → AV → Prop := fun P ow _ v av => RepA g P ow v av
noncomputable def RB : Part → Option Addr → Heap → Bool → Bool → Prop := fun _ _ _ v b => v = b
noncomputable def RU : Part → Option Addr → Heap → Unit → Unit → Prop := fun _ _ _ _ _ => True
inductive RepAs (g : Gl) (P : Part) (ow : Option Addr) : List Value → List AV → Prop
  | nil : RepAs g P ow [] []
  | cons {v vs a as} : RepA g P ow v a → RepAs g P ow vs as → RepAs g P ow (v :: vs) (a :: as)
theorem RepAs.mono {g : Gl} {P P' : Part} {ow : Option Addr} (hle : P.le P') {vs : List Value} {as : List AV} (h : RepAs g P ow vs as) : RepAs g P' ow vs as := by
  induction h with
  | nil => exact .nil
  | cons h1 _ ih => exact .cons (h1.mono hle) ih
noncomputable def RL (g : Gl) : Part → Option Addr → Heap → List Value → List AV → Prop := fun P ow _ vs as => RepAs g P ow vs as
noncomputable abbrev Ev (c : Cx) (e : Expr) (σ : St) (K : AV → St → Prop) : Prop := RunE c (RV c.g) (eval e c.env) σ K
noncomputable abbrev EvT (c : Cx) (e : Expr) (σ : St) (K : Bool → St → Prop) : Prop := RunE c RB (isTrue e c.env (eval e c.env)) σ K
noncomputable abbrev EvL (c : Cx) (ts : List (Bool × Sem Value)) (σ : St) (K : List AV → St → Prop) : Prop := RunE c (RL c.g) (spliced ts) σ K

/-- a list freshly made, that a name is to own -/
noncomputable def PostN (c : Cx) (P : Part) (ow : Option Addr) (s : Shared) (K : List PyData → St → Prop) : Value → Shared → Prop :=
  fun v s' => ∃ P' σ' ds a, ∃ vs : List Value, Same s s' ∧ Hd c P' ow σ' s'.heap ∧ Step c.L P ow s.heap P' ow s'.heap ∧ (v = .ref a ∧ P' a = none ∧ a ≠ c.L ∧ ow ≠ some a ∧ s.heap.get? a = none ∧ s'.heap.PlainList a vs.toArray ∧ RepL P' vs ds) ∧ K ds σ'
theorem PostN.trans {c : Cx} {P P₁ : Part} {ow : Option Addr} {s s₁ s₂ : Shared} {K : List PyData → St → Prop} {v : Value}
    (hs : Same s s₁) (S : Step c.L P ow s.heap P₁ ow s₁.heap) (p : PostN c P₁ ow s₁ K v s₂) : PostN c P ow s K v s₂ := by
  obtain ⟨P', σ', b, a, vs, h1, h2, h3, ⟨q1, q2, q3, q4, q5, q6⟩, h5⟩ := p
  refine ⟨P', σ', b, a, vs, hs.trans h1, h2, S.trans h3, ⟨q1, q2, q3, q4, ?_, q6⟩, h5⟩
  cases e : s.heap.get? a with
  | none => rfl
  | some o => rw [S.keep a o e q3 q4] at q5; cases q5
noncomputable abbrev EvN (c : Cx) (e : Expr) (σ : St) (K : List PyData → St → Prop) : Prop :=
  c.Ok → ∀ s P ow, Hd c P ow σ s.heap → wpAny c.M c.A (eval e c.env) (PostN c P ow s K) NoE s

inductive Fl where
  | next | brk | cont
  | ret (v : AV)
noncomputable def RFl (g : Gl) (P : Part) (ow : Option Addr) : Flow → Fl → Prop
  | .next, .next => True
  | .brk, .brk => True
  | .cont, .cont => True
  | .ret v, .ret av => RepA g P ow v av
  | _, _ => False
noncomputable def PostS (c : Cx) (P : Part) (ow : Option Addr) (s : Shared) (K : Fl → St → Prop) : Flow → Shared → Prop :=
  fun v s' => ∃ P' ow' σ' b, Same s s' ∧ Hd c P' ow' σ' s'.heap ∧ Step c.L P ow s.heap P' ow' s'.heap ∧ RFl c.g P' ow' v b ∧ K b σ'
noncomputable def RunS (c : Cx) (t : Sem Flow) (σ : St) (K : Fl → St → Prop) : Prop :=
  c.Ok → ∀ s P ow, Hd c P ow σ s.heap → wpAny c.M c.A t (PostS c P ow s K) NoE s
theorem PostS.trans {c : Cx} {P P₁ : Part} {ow ow₁ : Option Addr} {s s₁ s₂ : Shared} {K : Fl → St → Prop} {v : Flow}
    (hs : Same s s₁) (S : Step c.L P ow s.heap P₁ ow₁ s₁.heap) (p : PostS c P₁ ow₁ s₁ K v s₂) : PostS c P ow s K v s₂ := by
  obtain ⟨P', ow', σ', b, h1, h2, h3, h4, h5⟩ := p
  exact ⟨P', ow', σ', b, hs.trans h1, h2, S.trans h3, h4, h5⟩
theorem RunS.mono {c : Cx} {t : Sem Flow} {σ : St} {K K' : Fl → St → Prop} (h : RunS c t σ K) (k : ∀ b σ', K b σ' → K' b σ') : RunS c t σ K' :=
  fun ok s P ow H => wpAny_mono (h ok s P ow H) (fun _ _ ⟨P', ow', σ', b, a1, a2, a3, a4, a5⟩ => ⟨P', ow', σ', b, a1, a2, a3, a4, k _ _ a5⟩) fun _ _ e => e
noncomputable abbrev Ex (c : Cx) (b : List Stmt) (σ : St) (K : Fl → St → Prop) : Prop := RunS c (execs b c.env) σ K
noncomputable abbrev Ex1 (c : Cx) (b : Stmt) (σ : St) (K : Fl → St → Prop) : Prop := RunS c (exec b c.env) σ K

/-- an expression, then a statement's rest -/
theorem seqES {α β : Type} {c : Cx} {R : Part → Option Addr → Heap → α → β → Prop} {t : Sem α} {f : α → Sem Flow} {σ : St} {K₁ : β → St → Prop} {K : Fl → St → Prop}
    {s : Shared} {P : Part} {ow : Option Addr} (h1 : RunE c R t σ K₁) (ok : c.Ok) (H : Hd c P ow σ s.heap)
    (next : ∀ v s₁ P₁ σ₁ b, Same s s₁ → Hd c P₁ ow σ₁ s₁.heap → Step c.L P ow s.heap P₁ ow s₁.heap → R P₁ ow s₁.heap v b → K₁ b σ₁ → wpAny c.M c.A (f v) (PostS c P₁ ow s₁ K) NoE s₁) :
    wpAny c.M c.A t (fun v s₁ => wpAny c.M c.A (f v) (PostS c P ow s K) NoE s₁) NoE s := by
  refine wpAny_mono (h1 ok s P ow H) (fun v s₁ p => ?_) fun _ _ e => e
  obtain ⟨P₁, σ₁, b, a1, a2, a3, a4, a5⟩ := p
  exact wpAny_mono (next v s₁ P₁ σ₁ b a1 a2 a3 a4 a5) (fun _ _ q => q.trans a1 a3) fun _ _ e => e

theorem Ex_nil {c : Cx} {σ : St} {K : Fl → St → Prop} (h : K .next σ) : Ex c [] σ K :=
  fun _ s P ow H => wpAny_execs_nil ⟨P, ow, σ, .next, Same.refl s, H, Step.refl P ow H.live, trivial, h⟩
theorem Ex_cons {c : Cx} {st : Stmt} {rest : List Stmt} {σ : St} {K : Fl → St → Prop}
    (h : Ex1 c st σ (fun f σ' => match f with | .next => Ex c rest σ' K | f => K f σ')) : Ex c (st :: rest) σ K := by
  intro ok s P ow H
  refine wpAny_execs_cons (wpAny_mono (h ok s P ow H) (fun f s₁ p => ?_) fun _ _ e => e)
  obtain ⟨P₁, ow₁, σ₁, b, a1, a2, a3, a4, a5⟩ := p
  cases f <;> cases b <;> try (exact a4.elim)
  · exact wpAny_mono (a5 ok s₁ P₁ ow₁ a2) (fun _ _ q => q.trans a1 a3) fun _ _ e => e
  · exact ⟨P₁, ow₁, σ₁, _, a1, a2, a3, a4, a5⟩
  · exact ⟨P₁, ow₁, σ₁, _, a1, a2, a3, a4, a5⟩
  · exact ⟨P₁, ow₁, σ₁, _, a1, a2, a3, a4, a5⟩

/-- a step that leaves all but the frame's dict, and that as a map -/
structure Mv (L : Addr) (h h' : Heap) : Prop where
  keep : ∀ b o, h.get? b = some o → b ≠ L → h'.get? b = some o
  ns : ∀ m, h.Ns L m → h'.Ns L m
theorem Mv.refl (L : Addr) (h : Heap) : Mv L h h := ⟨fun _ _ e _ => e, fun _ n => n⟩
theorem Mv.trans {L : Addr} {h h₁ h₂ : Heap} (x : Mv L h h₁) (y : Mv L h₁ h₂) : Mv L h h₂ := ⟨fun b o e n => y.keep b o (x.keep b o e n) n, fun m n => y.ns m (x.ns m n)⟩
theorem Mv.of_keep {L : Addr} {h h' : Heap} (k : ∀ b o, h.get? b = some o → h'.get? b = some o) : Mv L h h' := ⟨fun b o e _ => k b o e, fun _ n => n.keeps k⟩
theorem Mv.push {L : Addr} (h : Heap) (o : Obj) : Mv L h (h.push o) := .of_keep fun _ _ e => Heap.get?_push_of_some _ e
noncomputable def allOf (h : Heap) (L : Addr) : List (Addr × Obj) := (List.range h.objs.size).filterMap fun b => if b = L then none else (h.get? b).map fun o => (b, o)
theorem mem_allOf {h : Heap} {L b : Addr} {o : Obj} (e : h.get? b = some o) (n : b ≠ L) : (b, o) ∈ allOf h L :=
  List.mem_filterMap.mpr ⟨b, List.mem_range.mpr (Heap.lt_size e), by rw [if_neg n, e]; rfl⟩
theorem news_allOf (h : Heap) (L : Addr) : News {} L h (allOf h L) := by
  intro p hp
  obtain ⟨b, _, e⟩ := List.mem_filterMap.mp hp
  by_cases hb : b = L
  · rw [if_pos hb] at e; cases e
  · rw [if_neg hb] at e
    cases hg : h.get? b with
    | none => rw [hg] at e; cases e
    | some o => rw [hg] at e; cases e; exact ⟨hg, hb, rfl⟩
theorem fr_all {h : Heap} {L : Addr} {m : Str → Option Value} (n : h.Ns L m) : Fr {} L h m := ⟨n, fun b o e => by simp [Heap.get?] at e, Nat.zero_le _⟩
theorem ns_unique {h : Heap} {L : Addr} {m m' : Str → Option Value} (x : h.Ns L m) (y : h.Ns L m') : m = m' := by
  obtain ⟨o, es, ep, e, d, _, f⟩ := x
  obtain ⟨o', es', ep', e', d', _, f'⟩ := y
  rw [e] at e'; cases e'
  rw [d] at d'; cases d'
  funext z; rw [← f, ← f']
theorem Mv.of_fr {h h' : Heap} {L : Addr} {m : Str → Option Value} (n : h.Ns L m) (F : Fr {} L h' m) (N : News {} L h' (allOf h L)) : Mv L h h' :=
  ⟨fun _ _ e nb => (N _ (mem_allOf e nb)).1, fun m' n' => by rw [ns_unique n' n]; exact F.ns⟩

theorem Hd.mv {c : Cx} {P : Part} {ow : Option Addr} {σ : St} {h h' : Heap} (H : Hd c P ow σ h) (v : Mv c.L h h') : Hd c P ow σ h' where
  kept := fun b o e => v.keep b o (H.kept b o e) fun hb => by subst hb; rw [H.offL] at e; cases e
  offL := H.offL
  glo := H.glo
  vars := by
    obtain ⟨m, h1, h2, h3⟩ := H.vars
    refine ⟨m, v.ns m h1, h2, ?_⟩
    cases hs : σ.own with
    | none => cases hw : ow with
      | none => trivial
      | some a => rw [hs, hw] at h3; exact h3.elim
    | some p =>
      obtain ⟨x, ds⟩ := p
      cases hw : ow with
      | none => rw [hs, hw] at h3; exact h3.elim
      | some a =>
        rw [hs, hw] at h3
        obtain ⟨q1, q2, q3, vs, q4, q5⟩ := h3
        exact ⟨q1, q2, q3, vs, q4.at fun o e => v.keep _ _ e q2, q5⟩
theorem Hd.step {c : Cx} {P : Part} {ow : Option Addr} {σ : St} {h h' : Heap} (H : Hd c P ow σ h) (v : Mv c.L h h') : Step c.L P ow h P ow h' :=
  ⟨fun b o e n _ => v.keep b o e n, P.le_refl, fun _ _ e => .inl e, fun _ e => .inl e, (H.mv v).live⟩
/-- a fresh object is taken into the lasting part -/
theorem Hd.put {c : Cx} {P : Part} {ow : Option Addr} {σ : St} {h : Heap} (H : Hd c P ow σ h) {a : Addr} {o : Obj} (e : h.get? a = some o) (hP : P a = none) (hL : a ≠ c.L) (hw : ow ≠ some a) : Hd c (P.put a o) ow σ h where
  kept := fun b o' q => by
    by_cases hb : b = a
    · subst hb; rw [Part.put_self] at q; cases q; exact e
    · rw [Part.put_other hb] at q; exact H.kept b o' q
  offL := by rw [Part.put_other (Ne.symm hL)]; exact H.offL
  glo := H.glo.mono (Part.put_le hP)
  vars := by
    obtain ⟨m, h1, h2, h3⟩ := H.vars
    refine ⟨m, h1, fun p hp => ⟨(h2 p hp).1, let ⟨v, q1, q2⟩ := (h2 p hp).2; ⟨v, q1, q2.mono (Part.put_le hP)⟩⟩, ?_⟩
    cases hs : σ.own with
    | none => cases hw' : ow with
      | none => trivial
      | some a => rw [hs, hw'] at h3; exact h3.elim
    | some p =>
      obtain ⟨x, ds⟩ := p
      cases hw' : ow with
      | none => rw [hs, hw'] at h3; exact h3.elim
      | some a' =>
        rw [hs, hw'] at h3
        obtain ⟨q1, q2, q3, vs, q4, q5⟩ := h3
        have hne : a' ≠ a := fun x => hw (by rw [hw', x])
        exact ⟨q1, q2, by rw [Part.put_other hne]; exact q3, vs, q4, q5.mono (Part.put_le hP)⟩
theorem Hd.fresh {c : Cx} {P : Part} {ow : Option Addr} {σ : St} {h : Heap} (H : Hd c P ow σ h) {a : Addr} (e : h.get? a = none) : P a = none ∧ a ≠ c.L ∧ ow ≠ some a := by
  refine ⟨?_, ?_, ?_⟩
  · cases q : P a with
    | none => rfl
    | some o => rw [H.kept a o q] at e; cases e
  · rintro rfl; have := H.live; rw [e] at this; cases this
  · rintro rfl
    obtain ⟨m, _, _, h3⟩ := H.vars
    cases hs : σ.own with
    | none => rw [hs] at h3; exact h3
    | some p => obtain ⟨x, ds⟩ := p; rw [hs] at h3; obtain ⟨_, _, _, vs, ⟨o, q⟩, _⟩ := h3; rw [q] at e; cases e
theorem fresh_size (h : Heap) : h.get? h.objs.size = none := by
  cases e : h.get? h.objs.size with
  | none => rfl
  | some o => exact absurd (Heap.lt_size e) (Nat.lt_irrefl _)

theorem PostE.mv {α β : Type} {c : Cx} {R : Part → Option Addr → Heap → α → β → Prop} {P : Part} {ow : Option Addr} {σ : St} {s : Shared} {K : β → St → Prop} {v : α} {b : β} {h' : Heap} {tk : Nat}
    (H : Hd c P ow σ s.heap) (x : Mv c.L s.heap h') (r : R P ow h' v b) (k : K b σ) : PostE c R P ow s K v { s with heap := h', toks := tk } :=
  ⟨P, σ, b, rfl, H.mv x, H.step x, r, k⟩
theorem PostE.tok {α β : Type} {c : Cx} {R : Part → Option Addr → Heap → α → β → Prop} {P : Part} {ow : Option Addr} {σ : St} {s : Shared} {K : β → St → Prop} {v : α} {b : β} {tk : Nat}
    (H : Hd c P ow σ s.heap) (r : R P ow s.heap v b) (k : K b σ) : PostE c R P ow s K v { s with toks := tk } := PostE.mv H (.refl ..) r k
theorem PostE.at {α β : Type} {c : Cx} {R : Part → Option Addr → Heap → α → β → Prop} {P : Part} {ow : Option Addr} {σ : St} {s : Shared} {K : β → St → Prop} {v : α} {b : β}
    (H : Hd c P ow σ s.heap) (r : R P ow s.heap v b) (k : K b σ) : PostE c R P ow s K v s := ⟨P, σ, b, rfl, H, Step.refl P ow H.live, r, k⟩
/-- a step that makes one object more, kept for good -/
theorem PostE.putMv {α β : Type} {c : Cx} {R : Part → Option Addr → Heap → α → β → Prop} {P : Part} {ow : Option Addr} {σ : St} {s : Shared} {K : β → St → Prop} {v : α} {b : β} {h' : Heap} {tk : Nat} {a : Addr} {o : Obj}
    (H : Hd c P ow σ s.heap) (x : Mv c.L s.heap h') (hn : s.heap.get? a = none) (ha : h'.get? a = some o) (r : R (P.put a o) ow h' v b) (k : K b σ) : PostE c R P ow s K v { s with heap := h', toks := tk } :=
  have f := H.fresh hn
  ⟨P.put a o, σ, b, rfl, (H.mv x).put ha f.1 f.2.1 f.2.2, ⟨fun b o e n _ => x.keep b o e n, Part.put_le f.1, fun b o' e => by
    by_cases hb : b = a
    · subst hb; exact .inr (.inr hn)
    · rw [Part.put_other hb] at e; exact .inl e, fun _ e => .inl e, (H.mv x).live⟩, r, k⟩
theorem PostN.mv {c : Cx} {P : Part} {ow : Option Addr} {σ : St} {s : Shared} {K : List PyData → St → Prop} {ds : List PyData} {h' : Heap} {tk : Nat} {a : Addr} {vs : List Value}
    (H : Hd c P ow σ s.heap) (x : Mv c.L s.heap h') (hn : s.heap.get? a = none) (ha : h'.PlainList a vs.toArray) (r : RepL P vs ds) (k : K ds σ) : PostN c P ow s K (.ref a) { s with heap := h', toks := tk } :=
  have f := H.fresh hn
  ⟨P, σ, ds, a, vs, rfl, H.mv x, H.step x, ⟨rfl, f.1, f.2.1, f.2.2, hn, ha, r⟩, k⟩



section
variable {c : Cx} {σ : St} {K : AV → St → Prop}

theorem mem_of_lookup {x : Str} {v : AV} : ∀ {l : List (Str × AV)}, l.lookup x = some v → (x, v) ∈ l
  | [], e => by cases e
  | (y, u) :: r, e => by
    rw [List.lookup_cons] at e
    by_cases h : (x == y) = true
    · rw [h] at e; cases e; rw [eq_of_beq h]; exact .head _
    · rw [Bool.not_eq_true] at h; rw [h] at e; exact .tail _ (mem_of_lookup e)

theorem Ev_local {x : Str} {pos : Pos} {av : AV} (hl : σ.vars.lookup x = some av) (hk : c.env.kindOf x = some .local) (hd : (x == ("__debug__" : Str)) = false) (h : K av σ) : Ev c (.Name x pos) σ K := by
  intro ok s P ow H
  obtain ⟨m, n, hv, ho⟩ := H.vars
  obtain ⟨hp, v, e, r⟩ := hv _ (mem_of_lookup hl)
  exact wpAny_Name (wpAny_loadName_local ok.kind hk n e (PostE.at H (r.plain hp) h)) hd

theorem Ev_own {x : Str} {pos : Pos} {ds : List PyData} (ho : σ.own = some (x, ds)) (hk : c.env.kindOf x = some .local) (hd : (x == ("__debug__" : Str)) = false) (h : K .own σ) : Ev c (.Name x pos) σ K := by
  intro ok s P ow H
  obtain ⟨m, n, hv, hh⟩ := H.vars
  rw [ho] at hh
  cases ow with
  | none => exact hh.elim
  | some a => exact wpAny_Name (wpAny_loadName_local ok.kind hk n hh.1 (PostE.at (b := AV.own) H ⟨a, rfl, rfl⟩ h)) hd

theorem Ev_const {x : Str} {pos : Pos} {i : Int} (hx : consts.lookup x = some i) (hk : c.env.kindOf x = some .globalImplicit) (hd : (x == ("__debug__" : Str)) = false) (h : K (.d (.int i)) σ) : Ev c (.Name x pos) σ K := by
  intro ok s P ow H
  have G := H.glo _ H.kept
  have hm : ∀ {l : List (Str × Int)}, l.lookup x = some i → (x, i) ∈ l := by
    intro l
    induction l with
    | nil => intro e; cases e
    | cons p r ih =>
      obtain ⟨y, u⟩ := p
      intro e
      rw [List.lookup_cons] at e
      by_cases h : (x == y) = true
      · rw [h] at e; cases e; rw [eq_of_beq h]; exact .head _
      · rw [Bool.not_eq_true] at h; rw [h] at e; exact .tail _ (ih e)
  obtain ⟨t, e⟩ := G.cs _ (hm hx)
  exact Calls.Name_function_global ok.kind hk (Calls.loadGlobal_global (env := c.env) G.gns e (PostE.at (b := AV.d (.int i)) H (Rep.int _ _) h)) hd

theorem Ev_exact {pos : Pos} (hk : c.env.kindOf "EXACT_TOKEN_TYPES" = some .globalImplicit) (h : K (.ds exactF) σ) : Ev c (.Name "EXACT_TOKEN_TYPES" pos) σ K := by
  intro ok s P ow H
  have G := H.glo _ H.kept
  exact Calls.Name_function_global ok.kind hk (Calls.loadGlobal_global (env := c.env) G.gns G.ex.1 (PostE.at (b := AV.ds exactF) H ⟨_, rfl, G.ex.2.1, _, fun h' k => (H.glo h' k).ex.2.2.1, fun k => G.ex.2.2.2 k P⟩ h)) (by decide)

theorem Ev_int {i : Int} {k : Nat} {pos : Pos} (h : K (.d (.int i)) σ) : Ev c (.Constant (.int i) k pos) σ K :=
  fun _ s P ow H => wpAny_Constant_int (PostE.tok (b := AV.d (.int i)) H (Rep.int _ _) h)
theorem Ev_str {x : Str} {k : Nat} {pos : Pos} (h : K (.d (.str x)) σ) : Ev c (.Constant (.str x) k pos) σ K :=
  fun _ s P ow H => Calls.Constant_str (PostE.tok (b := AV.d (.str x)) H (Rep.str _ _) h)
theorem Ev_bool {b : Bool} {k : Nat} {pos : Pos} (h : K (.d (.bool b)) σ) : Ev c (.Constant (.bool b) k pos) σ K :=
  fun _ s P ow H => wpAny_Constant_bool (PostE.at (b := AV.d (.bool b)) H (Rep.bool _) h)
theorem Ev_none {k : Nat} {pos : Pos} (h : K (.d .none) σ) : Ev c (.Constant .none k pos) σ K :=
  fun _ s P ow H => wpAny_Constant_none (PostE.at (b := AV.d .none) H Rep.none h)

/-- an operation on two values -/
noncomputable def Op2 (c : Cx) (f : Value → Value → Sem Value) (a b : AV) (σ : St) (K : AV → St → Prop) : Prop :=
  c.Ok → ∀ s P ow, Hd c P ow σ s.heap → ∀ u v, RepA c.g P ow u a → RepA c.g P ow v b → wpAny c.M c.A (f u v) (PostE c (RV c.g) P ow s K) NoE s
noncomputable def Op1 (c : Cx) (f : Value → Sem Value) (a : AV) (σ : St) (K : AV → St → Prop) : Prop :=
  c.Ok → ∀ s P ow, Hd c P ow σ s.heap → ∀ u, RepA c.g P ow u a → wpAny c.M c.A (f u) (PostE c (RV c.g) P ow s K) NoE s
/-- truth of a value -/
noncomputable def Tr (c : Cx) (a : AV) (σ : St) (K : Bool → St → Prop) : Prop :=
  c.Ok → ∀ s P ow, Hd c P ow σ s.heap → ∀ u, RepA c.g P ow u a → wpAny c.M c.A (truthy u) (PostE c RB P ow s K) NoE s

theorem Ev_BinOp {l r : Expr} {op : Operator} {pos : Pos} (h : Ev c l σ fun a σ₁ => Ev c r σ₁ fun b σ₂ => Op2 c (binaryOp op) a b σ₂ K) : Ev c (.BinOp l op r pos) σ K := by
  intro ok s P ow H
  refine wpAny_BinOp (wpAny_mono (h ok s P ow H) (fun u s₁ p => ?_) fun _ _ e => e)
  obtain ⟨P₁, σ₁, a, e₁, H₁, S₁, r₁, k₁⟩ := p
  refine wpAny_mono (k₁ ok s₁ P₁ ow H₁) (fun v s₂ p => ?_) fun _ _ e => e
  obtain ⟨P₂, σ₂, b, e₂, H₂, S₂, r₂, k₂⟩ := p
  exact wpAny_mono (k₂ ok s₂ P₂ ow H₂ u v (RepA.mono S₂.le r₁) r₂) (fun _ _ q => q.trans (e₁.trans e₂) (S₁.trans S₂)) fun _ _ e => e

theorem Ev_Compare {l r : Expr} {op : CmpOp} {pos : Pos} (hm : behindInMarks op r = false) (h : Ev c l σ fun a σ₁ => Ev c r σ₁ fun b σ₂ => Op2 c (compareOp op) a b σ₂ K) : Ev c (.Compare l [op] [r] pos) σ K := by
  intro ok s P ow H
  refine wpAny_Compare1 (wpAny_mono (h ok s P ow H) (fun u s₁ p => ?_) fun _ _ e => e) hm
  obtain ⟨P₁, σ₁, a, e₁, H₁, S₁, r₁, k₁⟩ := p
  refine wpAny_mono (k₁ ok s₁ P₁ ow H₁) (fun v s₂ p => ?_) fun _ _ e => e
  obtain ⟨P₂, σ₂, b, e₂, H₂, S₂, r₂, k₂⟩ := p
  exact wpAny_mono (k₂ ok s₂ P₂ ow H₂ u v (RepA.mono S₂.le r₁) r₂) (fun _ _ q => q.trans (e₁.trans e₂) (S₁.trans S₂)) fun _ _ e => e

theorem Ev_UnaryOp {x : Expr} {op : UnaryOp} {pos : Pos} (h : Ev c x σ fun a σ₁ => Op1 c (unaryOp op) a σ₁ K) : Ev c (.UnaryOp op x pos) σ K := by
  intro ok s P ow H
  refine wpAny_UnaryOp (wpAny_mono (h ok s P ow H) (fun u s₁ p => ?_) fun _ _ e => e)
  obtain ⟨P₁, σ₁, a, e₁, H₁, S₁, r₁, k₁⟩ := p
  exact wpAny_mono (k₁ ok s₁ P₁ ow H₁ u r₁) (fun _ _ q => q.trans e₁ S₁) fun _ _ e => e

section
variable {T : Bool → St → Prop}
theorem EvT_Compare {l r : Expr} {op : CmpOp} {pos : Pos} (hm : behindInMarks op r = false) (h : Ev c l σ fun a σ₁ => Ev c r σ₁ fun b σ₂ => Op2 c (compareOp op) a b σ₂ fun q σ₃ => Tr c q σ₃ T) : EvT c (.Compare l [op] [r] pos) σ T := by
  intro ok s P ow H
  refine wpAny_isTrue_Compare1 (wpAny_mono (h ok s P ow H) (fun u s₁ p => ?_) fun _ _ e => e) hm
  obtain ⟨P₁, σ₁, a, e₁, H₁, S₁, r₁, k₁⟩ := p
  refine wpAny_mono (k₁ ok s₁ P₁ ow H₁) (fun v s₂ p => ?_) fun _ _ e => e
  obtain ⟨P₂, σ₂, b, e₂, H₂, S₂, r₂, k₂⟩ := p
  refine wpAny_mono (k₂ ok s₂ P₂ ow H₂ u v (RepA.mono S₂.le r₁) r₂) (fun q s₃ p => ?_) fun _ _ e => e
  obtain ⟨P₃, σ₃, b, e₃, H₃, S₃, r₃, k₃⟩ := p
  exact wpAny_mono (k₃ ok s₃ P₃ ow H₃ q r₃) (fun _ _ q => q.trans (e₁.trans (e₂.trans e₃)) (S₁.trans (S₂.trans S₃))) fun _ _ e => e
theorem EvT_value {e : Expr} (ht : isTrue e c.env (eval e c.env) = (do let v ← eval e c.env; standAt e.pos; holding [v] (truthy v))) (h : Ev c e σ fun a σ₁ => Tr c a σ₁ T) : EvT c e σ T := by
  intro ok s P ow H
  refine wpAny_isTrue_value (wpAny_mono (h ok s P ow H) (fun u s₁ p => ?_) fun _ _ e => e) ht
  obtain ⟨P₁, σ₁, a, e₁, H₁, S₁, r₁, k₁⟩ := p
  exact wpAny_mono (k₁ ok s₁ P₁ ow H₁ u r₁) (fun _ _ q => q.trans e₁ S₁) fun _ _ e => e
theorem EvT_Name {x : Str} {pos : Pos} (h : Ev c (.Name x pos) σ fun a σ₁ => Tr c a σ₁ T) : EvT c (.Name x pos) σ T := EvT_value rfl h
theorem EvT_Call {f : Expr} {as : List Expr} {ks : List Keyword} {pos : Pos} (h : Ev c (.Call f as ks pos) σ fun a σ₁ => Tr c a σ₁ T) : EvT c (.Call f as ks pos) σ T := EvT_value rfl h
theorem EvT_Not {x : Expr} {pos : Pos} (h : EvT c x σ fun b σ₁ => T (!b) σ₁) : EvT c (.UnaryOp .Not x pos) σ T := by
  intro ok s P ow H
  refine wpAny_isTrue_Not (wpAny_mono (h ok s P ow H) (fun u s₁ p => ?_) fun _ _ e => e)
  obtain ⟨P₁, σ₁, a, e₁, H₁, S₁, r₁, k₁⟩ := p
  exact ⟨P₁, σ₁, !a, e₁, H₁, S₁, by rw [r₁]; rfl, k₁⟩
noncomputable abbrev EvA (c : Cx) (op : BoolOp) (xs : List Expr) (σ : St) (T : Bool → St → Prop) : Prop := RunE c RB (allTrue op xs c.env) σ T
theorem EvT_BoolOp {op : BoolOp} {xs : List Expr} {pos : Pos} (h : EvA c op xs σ T) : EvT c (.BoolOp op xs pos) σ T :=
  fun ok s P ow H => wpAny_isTrue_BoolOp (h ok s P ow H)
theorem EvA_and_nil (h : T true σ) : EvA c .And [] σ T := fun _ _ _ _ H => wpAny_allTrue_And_nil (PostE.at H rfl h)
theorem EvA_or_nil (h : T false σ) : EvA c .Or [] σ T := fun _ _ _ _ H => wpAny_allTrue_Or_nil (PostE.at H rfl h)
theorem EvA_and {x : Expr} {xs : List Expr} (h : EvT c x σ fun b σ₁ => if b then EvA c .And xs σ₁ T else T false σ₁) : EvA c .And (x :: xs) σ T := by
  intro ok s P ow H
  refine wpAny_allTrue_And_cons (wpAny_mono (h ok s P ow H) (fun u s₁ p => ?_) fun _ _ e => e)
  obtain ⟨P₁, σ₁, a, e₁, H₁, S₁, r₁, k₁⟩ := p
  have r₁ : u = a := r₁
  subst r₁
  cases u with
  | true => exact wpAny_mono (k₁ ok s₁ P₁ ow H₁) (fun _ _ q => q.trans e₁ S₁) fun _ _ e => e
  | false => exact ⟨P₁, σ₁, false, e₁, H₁, S₁, rfl, k₁⟩
theorem EvA_or {x : Expr} {xs : List Expr} (h : EvT c x σ fun b σ₁ => if b then T true σ₁ else EvA c .Or xs σ₁ T) : EvA c .Or (x :: xs) σ T := by
  intro ok s P ow H
  refine wpAny_allTrue_Or_cons (wpAny_mono (h ok s P ow H) (fun u s₁ p => ?_) fun _ _ e => e)
  obtain ⟨P₁, σ₁, a, e₁, H₁, S₁, r₁, k₁⟩ := p
  have r₁ : u = a := r₁
  subst r₁
  cases u with
  | false => exact wpAny_mono (k₁ ok s₁ P₁ ow H₁) (fun _ _ q => q.trans e₁ S₁) fun _ _ e => e
  | true => exact ⟨P₁, σ₁, true, e₁, H₁, S₁, rfl, k₁⟩
end

theorem Ev_And {x y : Expr} {pos : Pos} (h : Ev c x σ fun a σ₁ => Tr c a σ₁ fun t σ₂ => if t then Ev c y σ₂ K else K a σ₂) : Ev c (.BoolOp .And [x, y] pos) σ K := by
  intro ok s P ow H
  refine wpAny_And2 (wpAny_mono (h ok s P ow H) (fun u s₁ p => ?_) fun _ _ e => e)
  obtain ⟨P₁, σ₁, a, e₁, H₁, S₁, r₁, k₁⟩ := p
  refine wpAny_mono (k₁ ok s₁ P₁ ow H₁ u r₁) (fun t s₂ p => ?_) fun _ _ e => e
  obtain ⟨P₂, σ₂, b, e₂, H₂, S₂, r₂, k₂⟩ := p
  have r₂ : t = b := r₂
  subst r₂
  cases t with
  | true => exact wpAny_mono (k₂ ok s₂ P₂ ow H₂) (fun _ _ q => q.trans (e₁.trans e₂) (S₁.trans S₂)) fun _ _ e => e
  | false => exact ⟨P₂, σ₂, a, e₁.trans e₂, H₂, S₁.trans S₂, RepA.mono S₂.le r₁, k₂⟩
theorem Ev_Or {x y : Expr} {pos : Pos} (h : Ev c x σ fun a σ₁ => Tr c a σ₁ fun t σ₂ => if t then K a σ₂ else Ev c y σ₂ K) : Ev c (.BoolOp .Or [x, y] pos) σ K := by
  intro ok s P ow H
  refine wpAny_Or2 (wpAny_mono (h ok s P ow H) (fun u s₁ p => ?_) fun _ _ e => e)
  obtain ⟨P₁, σ₁, a, e₁, H₁, S₁, r₁, k₁⟩ := p
  refine wpAny_mono (k₁ ok s₁ P₁ ow H₁ u r₁) (fun t s₂ p => ?_) fun _ _ e => e
  obtain ⟨P₂, σ₂, b, e₂, H₂, S₂, r₂, k₂⟩ := p
  have r₂ : t = b := r₂
  subst r₂
  cases t with
  | false => exact wpAny_mono (k₂ ok s₂ P₂ ow H₂) (fun _ _ q => q.trans (e₁.trans e₂) (S₁.trans S₂)) fun _ _ e => e
  | true => exact ⟨P₂, σ₂, a, e₁.trans e₂, H₂, S₁.trans S₂, RepA.mono S₂.le r₁, k₂⟩
theorem Ev_IfExp {t x y : Expr} {pos : Pos} (h : EvT c t σ fun b σ₁ => if b then Ev c x σ₁ K else Ev c y σ₁ K) : Ev c (.IfExp t x y pos) σ K := by
  intro ok s P ow H
  refine wpAny_IfExp (wpAny_mono (h ok s P ow H) (fun u s₁ p => ?_) fun _ _ e => e)
  obtain ⟨P₁, σ₁, a, e₁, H₁, S₁, r₁, k₁⟩ := p
  have r₁ : u = a := r₁
  subst r₁
  cases u <;> exact wpAny_mono (k₁ ok s₁ P₁ ow H₁) (fun _ _ q => q.trans e₁ S₁) fun _ _ e => e

/-- displays -/
theorem EvL_nil {K : List AV → St → Prop} (h : K [] σ) : EvL c [] σ K := fun _ _ _ _ H => Calls.spliced_nil (PostE.at H .nil h)
theorem EvL_cons {x : Expr} {rest : List (Bool × Sem Value)} {K : List AV → St → Prop} (h : Ev c x σ fun a σ₁ => EvL c rest σ₁ fun as σ₂ => K (a :: as) σ₂) : EvL c ((false, eval x c.env) :: rest) σ K := by
  intro ok s P ow H
  refine Calls.spliced_cons (wpAny_mono (h ok s P ow H) (fun u s₁ p => ?_) fun _ _ e => e)
  obtain ⟨P₁, σ₁, a, e₁, H₁, S₁, r₁, k₁⟩ := p
  refine wpAny_mono (k₁ ok s₁ P₁ ow H₁) (fun v s₂ p => ?_) fun _ _ e => e
  obtain ⟨P₂, σ₂, b, e₂, H₂, S₂, r₂, k₂⟩ := p
  exact ⟨P₂, σ₂, a :: b, e₁.trans e₂, H₂, S₁.trans S₂, .cons (RepA.mono S₂.le r₁) r₂, k₂⟩
noncomputable def datas : List AV → Option (List PyData)
  | [] => some []
  | .d x :: r => (datas r).map (x :: ·)
  | _ :: _ => none
theorem RepAs.data {g : Gl} {P : Part} {ow : Option Addr} : ∀ {vs : List Value} {as : List AV} {ds : List PyData}, RepAs g P ow vs as → datas as = some ds → RepL P vs ds
  | _, _, _, .nil, e => by cases e; exact .nil
  | _, .d x :: r, ds, .cons h1 h2, e => by
    unfold datas at e
    cases hr : datas r with
    | none => rw [hr] at e; cases e
    | some q => rw [hr] at e; cases e; exact .cons h1 (h2.data hr)
  | _, .own :: _, _, .cons _ _, e => by cases e
  | _, .di _ :: _, _, .cons _ _, e => by cases e
  | _, .ds _ :: _, _, .cons _ _, e => by cases e
theorem RepAs.length {g : Gl} {P : Part} {ow : Option Addr} {vs : List Value} {as : List AV} (h : RepAs g P ow vs as) : vs.length = as.length := by
  induction h with
  | nil => rfl
  | cons _ _ ih => simp [ih]

theorem Ev_Tuple {es : List Expr} {k : Nat} {pos : Pos} (h : EvL c (backTo pos (starEach es c.env)) σ fun as σ₁ => as.length ≤ sizeLine ∧ ∃ ds, datas as = some ds ∧ K (.d (.tuple ds)) σ₁) : Ev c (.Tuple es k pos) σ K := by
  intro ok s P ow H
  refine wpAny_Tuple (wpAny_mono (h ok s P ow H) (fun vs s₁ p => ?_) fun _ _ e => e)
  obtain ⟨P₁, σ₁, as, e₁, H₁, S₁, r₁, hs, ds, hd, k₁⟩ := p
  refine ⟨by rw [RepAs.length r₁]; exact hs, ?_⟩
  have f := H₁.fresh (fresh_size _)
  exact PostE.trans e₁ S₁ (PostE.putMv (b := AV.d (.tuple ds)) H₁ (.push ..) (fresh_size _) (Heap.get?_push_size _ rfl) (Rep.tuple (n := 0) Part.put_self rfl rfl ((r₁.data hd).mono (Part.put_le f.1))) k₁)
theorem Ev_List {es : List Expr} {pos : Pos} (h : EvL c (backTo pos (starEach es c.env)) σ fun as σ₁ => as.length ≤ sizeLine ∧ ∃ ds, datas as = some ds ∧ K (.d (.list ds)) σ₁) : Ev c (.List es pos) σ K := by
  intro ok s P ow H
  refine wpAny_List (wpAny_mono (h ok s P ow H) (fun vs s₁ p => ?_) fun _ _ e => e)
  obtain ⟨P₁, σ₁, as, e₁, H₁, S₁, r₁, hs, ds, hd, k₁⟩ := p
  refine ⟨by rw [RepAs.length r₁]; exact hs, ?_⟩
  have f := H₁.fresh (fresh_size _)
  exact PostE.trans e₁ S₁ (PostE.putMv (b := AV.d (.list ds)) H₁ (.push ..) (fresh_size _) (Heap.get?_push_size _ rfl) (Rep.list (n := 0) Part.put_self rfl rfl ((r₁.data hd).mono (Part.put_le f.1))) k₁)
end

theorem EvN_List {c : Cx} {σ : St} {K : List PyData → St → Prop} {es : List Expr} {pos : Pos} (h : EvL c (backTo pos (starEach es c.env)) σ fun as σ₁ => as.length ≤ sizeLine ∧ ∃ ds, datas as = some ds ∧ K ds σ₁) : EvN c (.List es pos) σ K := by
  intro ok s P ow H
  refine wpAny_List (wpAny_mono (h ok s P ow H) (fun vs s₁ p => ?_) fun _ _ e => e)
  obtain ⟨P₁, σ₁, as, e₁, H₁, S₁, r₁, hs, ds, hd, k₁⟩ := p
  refine ⟨by rw [RepAs.length r₁]; exact hs, ?_⟩
  exact PostN.trans e₁ S₁ (PostN.mv (tk := s₁.toks) H₁ (.push ..) (fresh_size _) ⟨_, Heap.get?_push_size _ rfl⟩ (r₁.data hd) k₁)


theorem Rep.int_inv {P : Part} {v : Value} {i : Int} (r : Rep P v (.int i)) : ∃ t, v = .int i t := by cases r; exact ⟨_, rfl⟩
theorem Rep.str_inv {P : Part} {v : Value} {x : Str} (r : Rep P v (.str x)) : ∃ t, v = .str x t := by cases r; exact ⟨_, rfl⟩
theorem Rep.bool_inv {P : Part} {v : Value} {b : Bool} (r : Rep P v (.bool b)) : v = .bool b := by cases r; rfl
theorem Rep.none_inv {P : Part} {v : Value} (r : Rep P v .none) : v = .none := by cases r; rfl
theorem Rep.list_inv {P : Part} {v : Value} {xs : List PyData} (r : Rep P v (.list xs)) : ∃ a o n, ∃ vs : List Value, v = .ref a ∧ P a = some o ∧ o.cls = .type "list" ∧ o.data = .seq vs.toArray n ∧ RepL P vs xs := by
  cases r with | list h1 h2 h3 h4 => exact ⟨_, _, _, _, rfl, h1, h2, by rw [h3], h4⟩
theorem Rep.tuple_inv {P : Part} {v : Value} {xs : List PyData} (r : Rep P v (.tuple xs)) : ∃ a o n, ∃ vs : List Value, v = .ref a ∧ P a = some o ∧ o.cls = .type "tuple" ∧ o.data = .seq vs.toArray n ∧ RepL P vs xs := by
  cases r with | tuple h1 h2 h3 h4 => exact ⟨_, _, _, _, rfl, h1, h2, by rw [h3], h4⟩

/-- a list to read: a lasting one, or the one that a name owns -/
noncomputable def AsList (σ : St) : AV → Option (List PyData)
  | .d (.list xs) => some xs
  | .own => σ.own.map (·.2)
  | _ => none
theorem asList {c : Cx} {P : Part} {ow : Option Addr} {σ : St} {h : Heap} (H : Hd c P ow σ h) {v : Value} {av : AV} {xs : List PyData} (r : RepA c.g P ow v av) (e : AsList σ av = some xs) :
    ∃ a, ∃ vs : List Value, v = .ref a ∧ h.IsList a vs.toArray ∧ RepL P vs xs := by
  cases av with
  | d x =>
    cases x <;> try cases e
    obtain ⟨a, o, n, vs, e1, e2, e3, e4, e5⟩ := Rep.list_inv r
    exact ⟨a, vs, e1, ⟨o, H.kept _ _ e2, e3, n, e4⟩, e5⟩
  | own =>
    obtain ⟨a, e1, e2⟩ := r
    obtain ⟨m, _, _, h3⟩ := H.vars
    cases hs : σ.own with
    | none => simp [AsList, hs] at e
    | some p =>
      obtain ⟨x, ds⟩ := p
      simp [AsList, hs] at e; subst e
      rw [hs, e1] at h3
      obtain ⟨_, _, _, vs, q4, q5⟩ := h3
      exact ⟨a, vs, e2, q4.isList, q5⟩
  | di f => cases e
  | ds f => cases e

section
variable {c : Cx} {σ : St} {K : AV → St → Prop}

theorem add_i {i j : Int} (h : K (.d (.int (i + j))) σ) : Op2 c (binaryOp .Add) (.d (.int i)) (.d (.int j)) σ K := by
  intro ok s P ow H u v ru rv
  obtain ⟨t, rfl⟩ := Rep.int_inv ru; obtain ⟨t', rfl⟩ := Rep.int_inv rv
  exact add_int (PostE.tok (b := AV.d (.int (i + j))) H (Rep.int _ _) h)
theorem sub_i {i j : Int} (h : K (.d (.int (i - j))) σ) : Op2 c (binaryOp .Sub) (.d (.int i)) (.d (.int j)) σ K := by
  intro ok s P ow H u v ru rv
  obtain ⟨t, rfl⟩ := Rep.int_inv ru; obtain ⟨t', rfl⟩ := Rep.int_inv rv
  exact PyProof.Rows.sub_int (PostE.tok (b := AV.d (.int (i - j))) H (Rep.int _ _) h)
theorem mul2_i {j : Int} (h : K (.d (.int (2 * j))) σ) : Op2 c (binaryOp .Mult) (.d (.int 2)) (.d (.int j)) σ K := by
  intro ok s P ow H u v ru rv
  obtain ⟨t, rfl⟩ := Rep.int_inv ru; obtain ⟨t', rfl⟩ := Rep.int_inv rv
  exact PyProof.Rows.mul_int (hm := IntMulOk.of_left (by decide)) (PostE.tok (b := AV.d (.int (2 * j))) H (Rep.int _ _) h)
theorem mod_i {i j : Int} (hj : 0 < j) (h : K (.d (.int (i % j))) σ) : Op2 c (binaryOp .Mod) (.d (.int i)) (.d (.int j)) σ K := by
  intro ok s P ow H u v ru rv
  obtain ⟨t, rfl⟩ := Rep.int_inv ru; obtain ⟨t', rfl⟩ := Rep.int_inv rv
  refine mod_int' (by omega) ?_
  rw [Int.fmod_eq_emod_of_nonneg _ (Int.le_of_lt hj)]
  exact PostE.tok (b := AV.d (.int (i % j))) H (Rep.int _ _) h
theorem div_i {i j : Int} (hj : 0 < j) (hs : Builtin.divisionGoesByPylong i j = false) (h : K (.d (.int (i / j))) σ) : Op2 c (binaryOp .FloorDiv) (.d (.int i)) (.d (.int j)) σ K := by
  intro ok s P ow H u v ru rv
  obtain ⟨t, rfl⟩ := Rep.int_inv ru; obtain ⟨t', rfl⟩ := Rep.int_inv rv
  refine floordiv_int (by omega) ?_ (.inl hs)
  rw [Int.fdiv_eq_ediv_of_nonneg _ (Int.le_of_lt hj)]
  exact PostE.tok (b := AV.d (.int (i / j))) H (Rep.int _ _) h
theorem add_s {x y : Str} (hs : x.length + y.length ≤ sizeLine) (h : K (.d (.str (x ++ y))) σ) : Op2 c (binaryOp .Add) (.d (.str x)) (.d (.str y)) σ K := by
  intro ok s P ow H u v ru rv
  obtain ⟨t, rfl⟩ := Rep.str_inv ru; obtain ⟨t', rfl⟩ := Rep.str_inv rv
  exact PyProof.Rows.add_str (fun t' tk => PostE.tok (b := AV.d (.str (x ++ y))) H (Rep.str _ _) h) hs
theorem neg_i {i : Int} (h : K (.d (.int (-i))) σ) : Op1 c (unaryOp .USub) (.d (.int i)) σ K := by
  intro ok s P ow H u ru
  obtain ⟨t, rfl⟩ := Rep.int_inv ru
  exact PyProof.Rows.neg_int (PostE.tok (b := AV.d (.int (-i))) H (Rep.int _ _) h)

theorem lt_i {i j : Int} (h : K (.d (.bool (decide (i < j)))) σ) : Op2 c (compareOp .Lt) (.d (.int i)) (.d (.int j)) σ K := by
  intro ok s P ow H u v ru rv
  obtain ⟨t, rfl⟩ := Rep.int_inv ru; obtain ⟨t', rfl⟩ := Rep.int_inv rv
  exact PyProof.Rows.lt_int (PostE.at (b := AV.d (.bool _)) H (Rep.bool _) h)
theorem le_i {i j : Int} (h : K (.d (.bool (decide (i ≤ j)))) σ) : Op2 c (compareOp .LtE) (.d (.int i)) (.d (.int j)) σ K := by
  intro ok s P ow H u v ru rv
  obtain ⟨t, rfl⟩ := Rep.int_inv ru; obtain ⟨t', rfl⟩ := Rep.int_inv rv
  exact PyProof.Rows.le_int (PostE.at (b := AV.d (.bool _)) H (Rep.bool _) h)
theorem gt_i {i j : Int} (h : K (.d (.bool (decide (j < i)))) σ) : Op2 c (compareOp .Gt) (.d (.int i)) (.d (.int j)) σ K := by
  intro ok s P ow H u v ru rv
  obtain ⟨t, rfl⟩ := Rep.int_inv ru; obtain ⟨t', rfl⟩ := Rep.int_inv rv
  exact PyProof.Rows.gt_int (PostE.at (b := AV.d (.bool _)) H (Rep.bool _) h)
theorem ge_i {i j : Int} (h : K (.d (.bool (decide (j ≤ i)))) σ) : Op2 c (compareOp .GtE) (.d (.int i)) (.d (.int j)) σ K := by
  intro ok s P ow H u v ru rv
  obtain ⟨t, rfl⟩ := Rep.int_inv ru; obtain ⟨t', rfl⟩ := Rep.int_inv rv
  exact PyProof.Rows.ge_int (PostE.at (b := AV.d (.bool _)) H (Rep.bool _) h)
theorem eq_i {i j : Int} (h : K (.d (.bool (decide (i = j)))) σ) : Op2 c (compareOp .Eq) (.d (.int i)) (.d (.int j)) σ K := by
  intro ok s P ow H u v ru rv
  obtain ⟨t, rfl⟩ := Rep.int_inv ru; obtain ⟨t', rfl⟩ := Rep.int_inv rv
  refine PyProof.Rows.eq_int ?_
  rw [show (i == j) = decide (i = j) from rfl]
  exact PostE.at (b := AV.d (.bool _)) H (Rep.bool _) h
theorem ne_i {i j : Int} (h : K (.d (.bool (decide (i ≠ j)))) σ) : Op2 c (compareOp .NotEq) (.d (.int i)) (.d (.int j)) σ K := by
  intro ok s P ow H u v ru rv
  obtain ⟨t, rfl⟩ := Rep.int_inv ru; obtain ⟨t', rfl⟩ := Rep.int_inv rv
  refine PyProof.Rows.ne_int ?_
  rw [show (i != j) = decide (i ≠ j) by simp [bne, Bool.beq_eq_decide_eq]]
  exact PostE.at (b := AV.d (.bool _)) H (Rep.bool _) h
theorem eq_s {x y : Str} (h : K (.d (.bool (x == y))) σ) : Op2 c (compareOp .Eq) (.d (.str x)) (.d (.str y)) σ K := by
  intro ok s P ow H u v ru rv
  obtain ⟨t, rfl⟩ := Rep.str_inv ru; obtain ⟨t', rfl⟩ := Rep.str_inv rv
  exact PyProof.Rows.eq_str (PostE.at (b := AV.d (.bool _)) H (Rep.bool _) h)
theorem in_s {x y : Str} (h : K (.d (.bool !(Builtin.Str.occurrences x y 0 x.length 1).isEmpty)) σ) : Op2 c (compareOp .In) (.d (.str y)) (.d (.str x)) σ K := by
  intro ok s P ow H u v ru rv
  obtain ⟨t, rfl⟩ := Rep.str_inv ru; obtain ⟨t', rfl⟩ := Rep.str_inv rv
  exact PyProof.Rows.in_str (PostE.at (b := AV.d (.bool _)) H (Rep.bool _) h)
theorem OptRep.some_iff {P : Part} {a : Option Value} {b : Option PyData} (h : OptRep P a b) : a.isSome = b.isSome := by
  cases a <;> cases b <;> first | rfl | exact h.elim
theorem in_di {i : Int} {f : Int → Option PyData} (h : K (.d (.bool (f i).isSome)) σ) : Op2 c (compareOp .In) (.d (.int i)) (.di f) σ K := by
  intro ok s P ow H u v ru rv
  obtain ⟨t, rfl⟩ := Rep.int_inv ru; obtain ⟨a, rfl, n, q, h1, h2⟩ := rv
  refine wpAny_in_of (intKind_is c.g.prog c.g.w i t) n (h1 _ H.kept) ?_
  rw [(h2 i).some_iff]
  exact PostE.tok (b := AV.d (.bool _)) H (Rep.bool _) h
theorem notIn_di {i : Int} {f : Int → Option PyData} (h : K (.d (.bool (!(f i).isSome))) σ) : Op2 c (compareOp .NotIn) (.d (.int i)) (.di f) σ K := by
  intro ok s P ow H u v ru rv
  obtain ⟨t, rfl⟩ := Rep.int_inv ru; obtain ⟨a, rfl, n, q, h1, h2⟩ := rv
  refine wpAny_notIn_of (intKind_is c.g.prog c.g.w i t) n (h1 _ H.kept) ?_
  rw [(h2 i).some_iff]
  exact PostE.tok (b := AV.d (.bool _)) H (Rep.bool _) h
theorem notIn_ds {x : Str} {f : Str → Option PyData} (h : K (.d (.bool (!(f x).isSome))) σ) : Op2 c (compareOp .NotIn) (.d (.str x)) (.ds f) σ K := by
  intro ok s P ow H u v ru rv
  obtain ⟨t, rfl⟩ := Rep.str_inv ru; obtain ⟨a, rfl, n, q, h1, h2⟩ := rv
  refine wpAny_notIn_of (PySem.strKind_is c.g.prog c.g.w x t) n (h1 _ H.kept) ?_
  rw [(h2 x).some_iff]
  exact PostE.tok (b := AV.d (.bool _)) H (Rep.bool _) h

/-- lists put together: the sum lasts, or is owned -/
theorem add_core {x y : AV} {xs ys : List PyData} (ok : c.Ok) {s : Shared} {P : Part} {ow : Option Addr} (H : Hd c P ow σ s.heap) {u v : Value} (ru : RepA c.g P ow u x) (rv : RepA c.g P ow v y)
    (hx : AsList σ x = some xs) (hy : AsList σ y = some ys) (hs : xs.length + ys.length ≤ sizeLine) {Q : Value → Shared → Prop}
    (h : ∀ (vs : List Value) h', RepL P vs (xs ++ ys) → Mv c.L s.heap h' → h'.get? s.heap.objs.size = some { cls := .type "list", data := .seq vs.toArray } → Q (.ref s.heap.objs.size) { s with heap := h' }) :
    wpAny c.M c.A (binaryOp .Add u v) Q NoE s := by
  obtain ⟨a, us, rfl, ha, ra⟩ := asList H ru hx
  obtain ⟨b, vs, rfl, hb, rb⟩ := asList H rv hy
  obtain ⟨m, n, _, _⟩ := H.vars
  refine add_arrays (fr_all n) (news_allOf _ _) ha hb (fun h' F N => ?_) (by simpa [ra.length, rb.length] using hs)
  refine h (us ++ vs) h' (ra.append rb) (Mv.of_fr n F fun p hp => N p (.tail _ hp)) ?_
  exact (N _ (.head _)).1
theorem add_l {x y : AV} {xs ys : List PyData} (hx : AsList σ x = some xs) (hy : AsList σ y = some ys) (hs : xs.length + ys.length ≤ sizeLine) (h : K (.d (.list (xs ++ ys))) σ) : Op2 c (binaryOp .Add) x y σ K := by
  intro ok s P ow H u v ru rv
  refine add_core ok H ru rv hx hy hs fun vs h' r m e => ?_
  have f := H.fresh (fresh_size _)
  exact PostE.putMv (b := AV.d (.list (xs ++ ys))) (tk := s.toks) H m (fresh_size _) e (Rep.list (n := 0) Part.put_self rfl rfl (RepL.mono (Part.put_le f.1) r)) h
/-- an operation whose value a name is to own -/
noncomputable def Op2N (c : Cx) (f : Value → Value → Sem Value) (a b : AV) (σ : St) (K : List PyData → St → Prop) : Prop :=
  c.Ok → ∀ s P ow, Hd c P ow σ s.heap → ∀ u v, RepA c.g P ow u a → RepA c.g P ow v b → wpAny c.M c.A (f u v) (PostN c P ow s K) NoE s
theorem addN {K : List PyData → St → Prop} {x y : AV} {xs ys : List PyData} (hx : AsList σ x = some xs) (hy : AsList σ y = some ys) (hs : xs.length + ys.length ≤ sizeLine) (h : K (xs ++ ys) σ) : Op2N c (binaryOp .Add) x y σ K := by
  intro ok s P ow H u v ru rv
  refine add_core ok H ru rv hx hy hs fun vs h' r m e => ?_
  exact PostN.mv (tk := s.toks) H m (fresh_size _) ⟨0, e⟩ r h
theorem EvN_BinOp {K : List PyData → St → Prop} {l r : Expr} {op : Operator} {pos : Pos} (h : Ev c l σ fun a σ₁ => Ev c r σ₁ fun b σ₂ => Op2N c (binaryOp op) a b σ₂ K) : EvN c (.BinOp l op r pos) σ K := by
  intro ok s P ow H
  refine wpAny_BinOp (wpAny_mono (h ok s P ow H) (fun u s₁ p => ?_) fun _ _ e => e)
  obtain ⟨P₁, σ₁, a, e₁, H₁, S₁, r₁, k₁⟩ := p
  refine wpAny_mono (k₁ ok s₁ P₁ ow H₁) (fun v s₂ p => ?_) fun _ _ e => e
  obtain ⟨P₂, σ₂, b, e₂, H₂, S₂, r₂, k₂⟩ := p
  exact wpAny_mono (k₂ ok s₂ P₂ ow H₂ u v (RepA.mono S₂.le r₁) r₂) (fun _ _ q => q.trans (e₁.trans e₂) (S₁.trans S₂)) fun _ _ e => e

section
variable {T : Bool → St → Prop}
theorem tr_b {b : Bool} (h : T b σ) : Tr c (.d (.bool b)) σ T := by
  intro ok s P ow H u ru
  rw [Rep.bool_inv ru]
  exact wpAny_truthy_bool (PostE.at H rfl h)
theorem tr_s {x : Str} (hx : x.length < 2 ^ 63) (h : T (decide (x.length ≠ 0)) σ) : Tr c (.d (.str x)) σ T := by
  intro ok s P ow H u ru
  obtain ⟨t, rfl⟩ := Rep.str_inv ru
  refine PySem.P.truthy_str (by omega) ?_
  refine PostE.tok (b := decide (x.length ≠ 0)) H ?_ h
  show ((x.length : Int) != 0) = _
  by_cases e : x.length = 0 <;> simp [e]
theorem tr_l {a : AV} {xs : List PyData} (ha : AsList σ a = some xs) (hx : xs.length < 2 ^ 63) (h : T (!xs.isEmpty) σ) : Tr c a σ T := by
  intro ok s P ow H u ru
  obtain ⟨l, vs, rfl, hl, r⟩ := asList H ru ha
  refine wpAny_truthy_list hl (by simp [r.length]; omega) ?_
  refine PostE.tok (b := !xs.isEmpty) H ?_ h
  show (!vs.toArray.isEmpty) = _
  have := r.length
  cases vs <;> cases xs <;> simp_all
end
end


section
variable {c : Cx} {σ : St} {K : AV → St → Prop}

/-- an item read -/
noncomputable def Sub (c : Cx) (a b : AV) (σ : St) (K : AV → St → Prop) : Prop :=
  c.Ok → ∀ s P ow, Hd c P ow σ s.heap → ∀ u v, RepA c.g P ow u a → RepA c.g P ow v b → SubscriptOn c.M c.A u v (PostE c (RV c.g) P ow s K) NoE s
theorem Ev_Subscript {value slice : Expr} {pos : Pos} (hs : ∀ o i, subscripted slice false o i = operate [o, i] (getItem o i))
    (h : Ev c value σ fun a σ₁ => Ev c slice σ₁ fun b σ₂ => Sub c a b σ₂ K) : Ev c (.Subscript value slice pos) σ K := by
  intro ok s P ow H
  rw [eval_Subscript]
  refine wpAny_bind (wpAny_mono (h ok s P ow H) (fun o s₁ p => wpAny_bind (wpAny_holding ?_)) fun _ _ x => x)
  obtain ⟨P₁, σ₁, a, e₁, H₁, S₁, r₁, k₁⟩ := p
  refine wpAny_mono (k₁ ok s₁ P₁ ow H₁) (fun i s₂ p => wpAny_bind (wpAny_standAt ?_)) fun _ _ x => x
  obtain ⟨P₂, σ₂, b, e₂, H₂, S₂, r₂, k₂⟩ := p
  obtain ⟨T, id, hl, hT, hg⟩ := k₂ ok s₂ P₂ ow H₂ o i (RepA.mono S₂.le r₁) r₂
  refine wpAny_bind ?_
  rw [getitemInPython_of_ne hT.not_modules]
  refine wpAny_bind (wpAny_specialOf hT hl ?_)
  have fin : wpAny c.M c.A (operate [o, i] (getItem o i)) (fun r s₃ => wpAny c.M c.A (letTemporaryGo value o r >>= fun _ => pure r) (PostE c (RV c.g) P ow s K) NoE s₃) NoE s₂ :=
    wpAny_operating (wpAny_mono hg (fun r s₃ h₃ => wpAny_bind (wpAny_letTemporaryGo (wpAny_pure (h₃.trans (e₁.trans e₂) (S₁.trans S₂))))) fun _ _ x => x)
  refine wpAny_pure ?_
  rw [hs]
  exact wpAny_bind fin

theorem sub_l {a : AV} {xs : List PyData} {i : Int} {x : PyData} (ha : AsList σ a = some xs) (h0 : 0 ≤ i) (h1 : i < 2 ^ 63) (hx : xs[i.toNat]? = some x) (h : K (.d x) σ) : Sub c a (.d (.int i)) σ K := by
  intro ok s P ow H u v ru rv
  obtain ⟨l, vs, rfl, hl, r⟩ := asList H ru ha
  obtain ⟨t, rfl⟩ := Rep.int_inv rv
  obtain ⟨y, e, q⟩ := r.get hx
  exact ⟨"list", _, slot_list_getitem.lookup, hl.typeIs, wpAny_getItem_list hl h0 h1 (by simpa using e) (PostE.at (b := AV.d x) H q h)⟩
theorem sub_ln {a : AV} {xs : List PyData} {k : Nat} {x : PyData} {n : Int} (ha : AsList σ a = some xs) (hn : n = -((k : Int) + 1)) (h1 : k < 1000) (hk : k < xs.length) (hx : xs[xs.length - 1 - k]? = some x) (h : K (.d x) σ) : Sub c a (.d (.int n)) σ K := by
  intro ok s P ow H u v ru rv
  obtain ⟨l, vs, rfl, hl, r⟩ := asList H ru ha
  obtain ⟨t, rfl⟩ := Rep.int_inv rv
  obtain ⟨y, e, q⟩ := r.get hx
  have hlen := r.length
  refine ⟨"list", _, slot_list_getitem.lookup, hl.typeIs, wpAny_getItem_list_neg hl (by omega) (by simp; omega) (by omega) ?_ (PostE.at (b := AV.d x) H q h)⟩
  have : (n + (vs.toArray.size : Int)).toNat = xs.length - 1 - k := by simp; omega
  rw [this]; simpa using e
theorem sub_t {xs : List PyData} {i : Int} {j : Nat} {x : PyData} (hi : i = (j : Int)) (h1 : j < 1000000) (hx : xs[j]? = some x) (h : K (.d x) σ) : Sub c (.d (.tuple xs)) (.d (.int i)) σ K := by
  intro ok s P ow H u v ru rv
  obtain ⟨a, o, n, vs, rfl, e2, e3, e4, r⟩ := Rep.tuple_inv ru
  obtain ⟨t, rfl⟩ := Rep.int_inv rv
  obtain ⟨y, e, q⟩ := r.get hx
  have hT : IsTup s.heap a vs.toArray := ⟨o, H.kept _ _ e2, e3, n, e4⟩
  have hlt : j < vs.length := (List.getElem?_eq_some_iff.mp e).1
  refine ⟨"tuple", _, PySem.F.slot_tuple_getitem.lookup, ⟨o, H.kept _ _ e2, e3⟩, getItem_tuple hT (by omega) (by omega) (j := j) ?_ (by simpa using e) (PostE.at (b := AV.d x) H q h)⟩
  subst hi
  simp [seqIndex?]; omega
theorem sub_s {x : Str} {i : Int} {ch : Nat} (h0 : 0 ≤ i) (h1 : i < 2 ^ 62) (hx : x.cps.toList[i.toNat]? = some ch) (h : K (.d (.str ⟨#[ch]⟩)) σ) : Sub c (.d (.str x)) (.d (.int i)) σ K := by
  intro ok s P ow H u v ru rv
  obtain ⟨t, rfl⟩ := Rep.str_inv ru
  obtain ⟨t', rfl⟩ := Rep.int_inv rv
  have hlt : i.toNat < x.cps.size := by simpa using (List.getElem?_eq_some_iff.mp hx).1
  refine ⟨"str", _, PySem.F.slot_str_getitem.lookup, typeIs_str _ _ _, PyProof.Rows.getItem_str (c := ch) ?_ ?_ (PostE.tok (b := AV.d (.str ⟨#[ch]⟩)) H (Rep.str _ _) h)⟩
  · rw [Bool.or_eq_false_iff]
    exact ⟨decide_eq_false (by omega), decide_eq_false (by omega)⟩
  · have : seqIndex? i x.length = some i.toNat := by
      show seqIndex? i x.cps.size = _
      unfold seqIndex?
      have : ¬ i < 0 := by omega
      simp [this]; omega
    rw [this]
    simpa using hx
theorem sub_di {i : Int} {f : Int → Option PyData} {x : PyData} (hx : f i = some x) (h : K (.d x) σ) : Sub c (.di f) (.d (.int i)) σ K := by
  intro ok s P ow H u v ru rv
  obtain ⟨t, rfl⟩ := Rep.int_inv rv; obtain ⟨a, rfl, n, q, h1, h2⟩ := ru
  have hm := h1 _ H.kept
  have h3 := h2 i
  rw [hx] at h3
  cases hq : q i with
  | none => rw [hq] at h3; exact h3.elim
  | some y =>
    rw [hq] at h3
    exact ⟨"dict", _, PySem.F.slot_dict_getitem.lookup, hm.typeIs, wpAny_getItem_of (intKind_is c.g.prog c.g.w i t) hm hq (PostE.tok (b := AV.d x) H h3 h)⟩

/-- slices -/
theorem slice_core {value : Expr} {lower upper : Option Expr} {p pos : Pos} (Po : Part → Option Addr → Shared → Value → Shared → Prop)
    (tr : ∀ {P P₁ ow s s₁ v s₂}, Same s s₁ → Step c.L P ow s.heap P₁ ow s₁.heap → Po P₁ ow s₁ v s₂ → Po P ow s v s₂)
    (hv : ∀ o r, letTemporaryGo value o r = pure ())
    (h : Ev c value σ fun a σ₁ => RunE c (RV c.g) (evalPart lower c.env) σ₁ fun lo σ₂ => RunE c (RV c.g) (evalPart upper c.env) σ₂ fun hi σ₃ =>
      ∃ xs : List PyData, AsList σ₃ a = some xs ∧ xs.length ≤ sizeLine ∧ ∃ l u : Option Int, (lo = .d (match l with | some i => .int i | none => .none)) ∧ (hi = .d (match u with | some i => .int i | none => .none)) ∧ 
      ∀ s P ow, Hd c P ow σ₃ s.heap → ∀ (vs : List Value), RepL P vs xs → ∀ h', Mv c.L s.heap h' → ∀ a', s.heap.get? a' = none → h'.get? a' = some { cls := .type "list", data := .seq (slicePick vs.toArray l u none) } →
        Po P ow s (.ref a') { s with heap := h' }) : c.Ok → ∀ s P ow, Hd c P ow σ s.heap → wpAny c.M c.A (eval (.Subscript value (.Slice lower upper none p) pos) c.env) (Po P ow s) NoE s := by
  intro ok s P ow H
  refine wpAny_Subscript_list_slice (wpAny_mono (h ok s P ow H) (fun o s₁ p => ?_) fun _ _ x => x) hv
  obtain ⟨P₁, σ₁, a, e₁, H₁, S₁, r₁, k₁⟩ := p
  refine wpAny_mono (k₁ ok s₁ P₁ ow H₁) (fun vl s₂ p => ?_) fun _ _ x => x
  obtain ⟨P₂, σ₂, lo, e₂, H₂, S₂, r₂, k₂⟩ := p
  refine wpAny_mono (k₂ ok s₂ P₂ ow H₂) (fun vu s₃ p => ?_) fun _ _ x => x
  obtain ⟨P₃, σ₃, hi, e₃, H₃, S₃, r₃, xs, hx, hz, l, u, rfl, rfl, k₃⟩ := p
  obtain ⟨ad, vs, rfl, hl, r⟩ := asList H₃ (RepA.mono (Part.le_trans S₂.le S₃.le) r₁) hx
  have hpl : IsPart vl l := by
    cases l with
    | none => rw [Rep.none_inv (show Rep _ vl .none from r₂)]; exact .none
    | some i => obtain ⟨t, rfl⟩ := Rep.int_inv (show Rep _ vl (.int i) from r₂); exact .int _ _
  have hpu : IsPart vu u := by
    cases u with
    | none => rw [Rep.none_inv (show Rep _ vu .none from r₃)]; exact .none
    | some i => obtain ⟨t, rfl⟩ := Rep.int_inv (show Rep _ vu (.int i) from r₃); exact .int _ _
  refine ⟨ad, vs.toArray, l, u, rfl, hl, by simpa [r.length] using hz, hpl, hpu, ?_⟩
  refine tr (e₁.trans (e₂.trans e₃)) (S₁.trans (S₂.trans S₃)) (k₃ s₃ P₃ ow H₃ vs r _ ((Mv.push ..).trans (Mv.push ..)) _ ?_ ?_)
  · cases e : s₃.heap.get? (s₃.heap.objs.size + 1) with
    | none => rfl
    | some o => exact absurd (Heap.lt_size e) (Nat.not_lt.mpr (Nat.le_succ _))
  · have h1 := Heap.get?_push_size (s₃.heap.push { cls := .type "slice", data := .fields #[vl, vu, .none] }) (o := { cls := .type "list", data := .seq (slicePick vs.toArray l u none) }) rfl
    rw [Heap.size_push] at h1
    exact h1
theorem part_none {K : AV → St → Prop} (h : K (.d .none) σ) : RunE c (RV c.g) (evalPart none c.env) σ K := fun _ s P ow H => wpAny_evalPart_none (PostE.at (b := AV.d .none) H Rep.none h)
theorem part_some {e : Expr} {K : AV → St → Prop} (h : Ev c e σ K) : RunE c (RV c.g) (evalPart (some e) c.env) σ K := fun ok s P ow H => wpAny_evalPart_some (h ok s P ow H)

theorem slice_end {xs ys : List PyData} {l u : Option Int} (hy : ∀ P (vs : List Value), RepL P vs xs → ∃ ws : List Value, slicePick vs.toArray l u none = ws.toArray ∧ RepL P ws ys) (h : K (.d (.list ys)) σ) :
    ∀ s P ow, Hd c P ow σ s.heap → ∀ (vs : List Value), RepL P vs xs → ∀ h', Mv c.L s.heap h' → ∀ a', s.heap.get? a' = none → h'.get? a' = some { cls := .type "list", data := .seq (slicePick vs.toArray l u none) } →
        PostE c (RV c.g) P ow s K (.ref a') { s with heap := h' } := by
  intro s P ow H vs r h' m a' hn he
  obtain ⟨ws, e, q⟩ := hy P vs r
  rw [e] at he
  exact PostE.putMv (b := AV.d (.list ys)) (tk := s.toks) H m hn he (Rep.list (n := 0) Part.put_self rfl rfl (RepL.mono (Part.put_le (H.fresh hn).1) q)) h
theorem slice_endN {K : List PyData → St → Prop} {xs ys : List PyData} {l u : Option Int} (hy : ∀ P (vs : List Value), RepL P vs xs → ∃ ws : List Value, slicePick vs.toArray l u none = ws.toArray ∧ RepL P ws ys) (h : K ys σ) :
    ∀ s P ow, Hd c P ow σ s.heap → ∀ (vs : List Value), RepL P vs xs → ∀ h', Mv c.L s.heap h' → ∀ a', s.heap.get? a' = none → h'.get? a' = some { cls := .type "list", data := .seq (slicePick vs.toArray l u none) } →
        PostN c P ow s K (.ref a') { s with heap := h' } := by
  intro s P ow H vs r h' m a' hn he
  obtain ⟨ws, e, q⟩ := hy P vs r
  rw [e] at he
  exact PostN.mv (tk := s.toks) H m hn ⟨0, he⟩ q h
theorem pick_upto {xs : List PyData} {k : Int} (hk : 0 ≤ k) : ∀ P (vs : List Value), RepL P vs xs → ∃ ws : List Value, slicePick vs.toArray none (some k) none = ws.toArray ∧ RepL P ws (xs.take k.toNat) := by
  intro P vs r
  obtain ⟨n, rfl⟩ : ∃ n : Nat, k = n := ⟨k.toNat, by omega⟩
  exact ⟨vs.take n, by simpa using slicePick_upto' vs.toArray n, by simpa using r.take n⟩
theorem pick_from {xs : List PyData} {k : Int} (hk : 0 ≤ k) : ∀ P (vs : List Value), RepL P vs xs → ∃ ws : List Value, slicePick vs.toArray (some k) none none = ws.toArray ∧ RepL P ws (xs.drop k.toNat) := by
  intro P vs r
  obtain ⟨n, rfl⟩ : ∃ n : Nat, k = n := ⟨k.toNat, by omega⟩
  exact ⟨vs.drop n, by simpa using slicePick_from' vs.toArray n, by simpa using r.drop n⟩
theorem pick_butLast {xs : List PyData} : ∀ P (vs : List Value), RepL P vs xs → ∃ ws : List Value, slicePick vs.toArray none (some (-1)) none = ws.toArray ∧ RepL P ws (xs.take (xs.length - 1)) := by
  intro P vs r
  refine ⟨vs.take (xs.length - 1), ?_, r.take _⟩
  have := slicePick_butLast vs.toArray 1 (Nat.le_refl _)
  simpa [r.length] using this

/-- the shape of a slice's bounds -/
noncomputable def isLo (l : Option Int) (a : AV) : Prop := a = .d (match l with | some i => .int i | none => .none)
theorem Ev_slice {value : Expr} {lower upper : Option Expr} {p pos : Pos} (hv : ∀ o r, letTemporaryGo value o r = pure ())
    (h : Ev c value σ fun a σ₁ => RunE c (RV c.g) (evalPart lower c.env) σ₁ fun lo σ₂ => RunE c (RV c.g) (evalPart upper c.env) σ₂ fun hi σ₃ =>
      ∃ xs : List PyData, AsList σ₃ a = some xs ∧ xs.length ≤ sizeLine ∧ ∃ l u : Option Int, isLo l lo ∧ isLo u hi ∧ ∃ ys : List PyData,
        (∀ P (vs : List Value), RepL P vs xs → ∃ ws : List Value, slicePick vs.toArray l u none = ws.toArray ∧ RepL P ws ys) ∧ K (.d (.list ys)) σ₃) : Ev c (.Subscript value (.Slice lower upper none p) pos) σ K :=
  slice_core (fun P ow s => PostE c (RV c.g) P ow s K) (fun a b c => PostE.trans a b c) hv (RunE.mono h fun _ _ h => RunE.mono h fun _ _ h => RunE.mono h fun _ _ ⟨xs, h1, h2, l, u, h3, h4, ys, h5, h6⟩ => ⟨xs, h1, h2, l, u, h3, h4, slice_end h5 h6⟩)
theorem EvN_slice {K : List PyData → St → Prop} {value : Expr} {lower upper : Option Expr} {p pos : Pos} (hv : ∀ o r, letTemporaryGo value o r = pure ())
    (h : Ev c value σ fun a σ₁ => RunE c (RV c.g) (evalPart lower c.env) σ₁ fun lo σ₂ => RunE c (RV c.g) (evalPart upper c.env) σ₂ fun hi σ₃ =>
      ∃ xs : List PyData, AsList σ₃ a = some xs ∧ xs.length ≤ sizeLine ∧ ∃ l u : Option Int, isLo l lo ∧ isLo u hi ∧ ∃ ys : List PyData,
        (∀ P (vs : List Value), RepL P vs xs → ∃ ws : List Value, slicePick vs.toArray l u none = ws.toArray ∧ RepL P ws ys) ∧ K ys σ₃) : EvN c (.Subscript value (.Slice lower upper none p) pos) σ K :=
  slice_core (fun P ow s => PostN c P ow s K) (fun a b c => PostN.trans a b c) hv (RunE.mono h fun _ _ h => RunE.mono h fun _ _ h => RunE.mono h fun _ _ ⟨xs, h1, h2, l, u, h3, h4, ys, h5, h6⟩ => ⟨xs, h1, h2, l, u, h3, h4, slice_endN h5 h6⟩)
end


/-- a def of the text as a function on data -/
noncomputable def Con (g : Gl) (n : Str) (room : Nat) (args : List AV) (r : PyData) : Prop :=
  ∀ (A : Around) (s : Shared) (P : Part) (vs : List Value) (a : Addr), A.handled = none → A.depth + room < recursionLimit → A.units + 8 * room + 200 < cLine → Glo g P → KeptIn P s.heap → RepAs g P none vs args → g.mg n = some (.ref a) →
    wpAny (model g.prog g.w) A (call (.ref a) vs) (fun v s' => ∃ P', Same s s' ∧ (∀ b o, s.heap.get? b = some o → s'.heap.get? b = some o) ∧ P.le P' ∧ (∀ b o, P' b = some o → P b = some o ∨ s.heap.get? b = none) ∧ KeptIn P' s'.heap ∧ Rep P' v r) NoE s

/-- a def that gives back one of some data -/
noncomputable def ConX (g : Gl) (n : Str) (room : Nat) (args : List AV) (R : PyData → Prop) : Prop :=
  ∀ (A : Around) (s : Shared) (P : Part) (vs : List Value) (a : Addr), A.handled = none → A.depth + room < recursionLimit → A.units + 8 * room + 200 < cLine → Glo g P → KeptIn P s.heap → RepAs g P none vs args → g.mg n = some (.ref a) →
    wpAny (model g.prog g.w) A (call (.ref a) vs) (fun v s' => ∃ P', Same s s' ∧ (∀ b o, s.heap.get? b = some o → s'.heap.get? b = some o) ∧ P.le P' ∧ (∀ b o, P' b = some o → P b = some o ∨ s.heap.get? b = none) ∧ KeptIn P' s'.heap ∧ ∃ r, Rep P' v r ∧ R r) NoE s
theorem ConX.con {g : Gl} {n : Str} {room : Nat} {args : List AV} {r : PyData} (C : ConX g n room args fun x => x = r) : Con g n room args r := fun A s P vs a h1 h2 h3 h4 h5 h6 h7 =>
  wpAny_mono (C A s P vs a h1 h2 h3 h4 h5 h6 h7) (fun _ _ ⟨P', q1, q2, q3, q4, q5, _, q6, rfl⟩ => ⟨P', q1, q2, q3, q4, q5, q6⟩) fun _ _ e => e

theorem RepAs.plain {g : Gl} {P : Part} {ow ow' : Option Addr} {vs : List Value} {as : List AV} (hp : as.all AV.plain = true) (h : RepAs g P ow vs as) : RepAs g P ow' vs as := by
  induction h with
  | nil => exact .nil
  | cons h1 _ ih => rw [List.all_cons, Bool.and_eq_true] at hp; exact .cons (h1.plain hp.1) (ih hp.2)

theorem Hd.called {c : Cx} {P P' : Part} {ow : Option Addr} {σ : St} {h h' : Heap} (H : Hd c P ow σ h) (k : ∀ b o, h.get? b = some o → h'.get? b = some o) (le : P.le P') (new : ∀ b o, P' b = some o → P b = some o ∨ h.get? b = none) (kp : KeptIn P' h') :
    Hd c P' ow σ h' ∧ Step c.L P ow h P' ow h' := by
  have hoff : P' c.L = none := by
    cases e : P' c.L with
    | none => rfl
    | some o =>
      rcases new _ _ e with q | q
      · rw [H.offL] at q; cases q
      · have := H.live; rw [q] at this; cases this
  have H' := H.mv (Mv.of_keep (L := c.L) k)
  refine ⟨⟨kp, hoff, H.glo.mono le, ?_⟩, fun b o e _ _ => k b o e, le, fun b o e => (new b o e).elim .inl fun q => .inr (.inr q), fun _ e => .inl e, H'.live⟩
  obtain ⟨m, h1, h2, h3⟩ := H'.vars
  refine ⟨m, h1, fun p hp => ⟨(h2 p hp).1, let ⟨v, q1, q2⟩ := (h2 p hp).2; ⟨v, q1, q2.mono le⟩⟩, ?_⟩
  cases hs : σ.own with
  | none => cases hw : ow with
    | none => trivial
    | some a => rw [hs, hw] at h3; exact h3.elim
  | some p =>
    obtain ⟨x, ds⟩ := p
    cases hw : ow with
    | none => rw [hs, hw] at h3; exact h3.elim
    | some a =>
      have h0 := H.vars
      obtain ⟨m0, _, _, h30⟩ := h0
      rw [hs, hw] at h3 h30
      obtain ⟨q1, q2, q3, vs, q4, q5⟩ := h3
      obtain ⟨_, _, _, _, ⟨_, live⟩, _⟩ := h30
      refine ⟨q1, q2, ?_, vs, q4, q5.mono le⟩
      cases e : P' a with
      | none => rfl
      | some o =>
        rcases new _ _ e with q | q
        · rw [q3] at q; cases q
        · rw [live] at q; cases q

theorem fn_at {g : Gl} {P : Part} {h : Heap} (G : Glo g P) (k : KeptIn P h) {f : Str} {d} (hd : (f, d) ∈ funs) : ∃ a o fd, g.mg f = some (.ref a) ∧ h.get? a = some o ∧ o.data = .func fd := by
  obtain ⟨a, o, pm, code, doc, h1, h2, h3, _⟩ := (G h k).fns _ hd
  exact ⟨a, o, _, h1, h2, h3⟩

section
variable {c : Cx} {σ : St} {K : AV → St → Prop}

theorem callTrees {f : Str} {p pos : Pos} {es : List Expr} {d} (hd : (f, d) ∈ funs) (hk : c.env.kindOf f = some .globalImplicit) (hdb : (f == ("__debug__" : Str)) = false)
    {Ks : List AV → St → Prop} (h : (backTo pos (starEach es c.env) = [] ∧ Ks [] σ) ∨ (∃ x r, backTo pos (starEach es c.env) = (false, x) :: r) ∧ EvL c (backTo pos (starEach es c.env)) σ Ks)
    (done : c.Ok → ∀ s P ow σ₁ as, Hd c P ow σ₁ s.heap → ∀ vs a, RepAs c.g P ow vs as → Ks as σ₁ → c.g.mg f = some (.ref a) → wpAny c.M c.A (call (.ref a) vs) (PostE c (RV c.g) P ow s K) NoE s) :
    Ev c (.Call (.Name f p) es [] pos) σ K := by
  intro ok s P ow H
  obtain ⟨a, o, fd, h1, h2, h3⟩ := fn_at H.glo H.kept hd
  have G := H.glo _ H.kept
  refine wpAny_Call_NameR (Calls.Name_function_global ok.kind hk (Calls.loadGlobal_global (env := c.env) G.gns h1 ?_) hdb)
  have fin : ∀ vs s₁, PostE c (RL c.g) P ow s Ks vs s₁ → (s₁.heap.get? a = some o ∧ o.data = .func fd) ∧ wpAny c.M c.A (call (.ref a) ([] ++ vs) []) (PostE c (RV c.g) P ow s K) NoE s₁ := by
    intro vs s₁ p
    obtain ⟨P₁, σ₁, as, e₁, H₁, S₁, r₁, k₁⟩ := p
    have hne : a ≠ c.L ∧ ow ≠ some a := by
      constructor
      · rintro rfl
        obtain ⟨m, ⟨o', es', ep, e, d', _⟩, _⟩ := H.vars
        rw [h2] at e; cases e; rw [h3] at d'; cases d'
      · rintro rfl
        obtain ⟨m, _, _, h4⟩ := H.vars
        cases hs : σ.own with
        | none => rw [hs] at h4; exact h4
        | some z => obtain ⟨x, ds⟩ := z; rw [hs] at h4; obtain ⟨_, _, _, vs, ⟨n, q⟩, _⟩ := h4; rw [h2] at q; cases q; cases h3
    refine ⟨⟨S₁.keep _ _ h2 hne.1 hne.2, h3⟩, ?_⟩
    exact wpAny_mono (done ok s₁ P₁ ow σ₁ as H₁ vs a r₁ k₁ h1) (fun _ _ q => q.trans e₁ S₁) fun _ _ e => e
  refine Calls.callWith_function (o := o) (fd := fd) ?_
  rcases h with ⟨e, k⟩ | ⟨⟨x, r, e⟩, hh⟩
  · rw [e]
    exact PySem.evalArgs_none (fin [] s (PostE.at H .nil k))
  · have hh := hh ok s P ow H
    rw [e] at hh ⊢
    exact Calls.evalArgs_plain (wpAny_mono hh (fun vs s₁ p => fin vs s₁ p) fun _ _ e => e)

theorem con_step {f : Str} {as : List AV} {r : PyData} {k : Nat} (C : Con c.g f k as r) (hk : k ≤ c.room) (hp : as.all AV.plain = true) (h : K (.d r) σ) :
    c.Ok → ∀ s P ow, Hd c P ow σ s.heap → ∀ vs a, RepAs c.g P ow vs as → c.g.mg f = some (.ref a) → wpAny c.M c.A (call (.ref a) vs) (PostE c (RV c.g) P ow s K) NoE s := by
  intro ok s P ow H vs a r₁ e
  have h1 := ok.depth
  have h2 := ok.units
  refine wpAny_mono (C c.A s P vs a ok.hd (by omega) (by omega) H.glo H.kept (r₁.plain hp) e) (fun v s' p => ?_) fun _ _ e => e
  obtain ⟨P', q1, q2, q3, q4, q5, q6⟩ := p
  have z := H.called q2 q3 q4 q5
  exact ⟨P', σ, .d r, q1, z.1, z.2, q6, h⟩

theorem con_stepX {f : Str} {as : List AV} {R : PyData → Prop} {k : Nat} (C : ConX c.g f k as R) (hk : k ≤ c.room) (hp : as.all AV.plain = true) (h : ∀ r, R r → K (.d r) σ) :
    c.Ok → ∀ s P ow, Hd c P ow σ s.heap → ∀ vs a, RepAs c.g P ow vs as → c.g.mg f = some (.ref a) → wpAny c.M c.A (call (.ref a) vs) (PostE c (RV c.g) P ow s K) NoE s := by
  intro ok s P ow H vs a r₁ e
  have h1 := ok.depth
  have h2 := ok.units
  refine wpAny_mono (C c.A s P vs a ok.hd (by omega) (by omega) H.glo H.kept (r₁.plain hp) e) (fun v s' p => ?_) fun _ _ e => e
  obtain ⟨P', q1, q2, q3, q4, q5, r, q6, q7⟩ := p
  have z := H.called q2 q3 q4 q5
  exact ⟨P', σ, .d r, q1, z.1, z.2, q6, h r q7⟩

noncomputable def AV.seen (σ : St) : AV → AV
  | .own => match σ.own with
    | some p => .d (.list p.2)
    | none => .own
  | a => a
noncomputable def scalar : PyData → Bool
  | .none | .bool _ | .int _ | .str _ => true
  | _ => false
theorem Rep.scalar {P P' : Part} {v : Value} {d : PyData} (r : Rep P v d) (h : scalar d = true) : Rep P' v d := by
  cases r with
  | none => exact .none
  | bool b => exact .bool b
  | int i t => exact .int i t
  | str x t => exact .str x t
  | list => cases h
  | tuple => cases h
/-- a call that is lent the owned list and hands back a plain value -/
theorem con_lent {f : Str} {as : List AV} {r : PyData} {k : Nat} (C : Con c.g f k (as.map (AV.seen σ)) r) (hk : k ≤ c.room) (hr : scalar r = true) (h : K (.d r) σ) :
    c.Ok → ∀ s P ow, Hd c P ow σ s.heap → ∀ vs a, RepAs c.g P ow vs as → c.g.mg f = some (.ref a) → wpAny c.M c.A (call (.ref a) vs) (PostE c (RV c.g) P ow s K) NoE s := by
  intro ok s P ow H vs a r₁ e
  have h1 := ok.depth
  have h2 := ok.units
  obtain ⟨P₁, hle, hkp, hra⟩ : ∃ P₁ : Part, P.le P₁ ∧ KeptIn P₁ s.heap ∧ RepAs c.g P₁ none vs (as.map (AV.seen σ)) := by
    obtain ⟨m, _, _, h4⟩ := H.vars
    cases hs : σ.own with
    | none =>
      cases hw : ow with
      | some b => rw [hs, hw] at h4; exact h4.elim
      | none =>
        subst hw
        refine ⟨P, P.le_refl, H.kept, ?_⟩
        have : ∀ a : AV, AV.seen σ a = a := fun a => by cases a <;> simp [AV.seen, hs]
        rw [show as.map (AV.seen σ) = as from by rw [show AV.seen σ = id from funext this]; exact List.map_id _]
        exact r₁
    | some p =>
      obtain ⟨x, ds⟩ := p
      cases hw : ow with
      | none => rw [hs, hw] at h4; exact h4.elim
      | some b =>
        subst hw
        rw [hs] at h4
        obtain ⟨q1, q2, q3, us, ⟨n, q4⟩, q5⟩ := h4
        refine ⟨P.put b { cls := .type "list", data := .seq us.toArray n }, Part.put_le q3, (fun b' o' e' => ?_), ?_⟩
        · by_cases hb : b' = b
          · subst hb; rw [Part.put_self] at e'; cases e'; exact q4
          · rw [Part.put_other hb] at e'; exact H.kept _ _ e'
        · clear C
          induction r₁ with
          | nil => exact .nil
          | @cons _ _ av _ ra _ ih =>
            refine .cons ?_ ih
            cases av with
            | d x => exact Rep.mono (Part.put_le q3) ra
            | own =>
              obtain ⟨a', e1, rfl⟩ := ra
              cases e1
              have : AV.seen σ .own = .d (.list ds) := by simp [AV.seen, hs]
              show RepA _ _ _ _ (AV.seen σ .own)
              rw [this]
              exact Rep.list (n := n) Part.put_self rfl rfl (RepL.mono (Part.put_le q3) q5)
            | di f => exact RepA.mono (av := .di f) (Part.put_le q3) (RepA.plain (av := .di f) rfl ra)
            | ds f => exact RepA.mono (av := .ds f) (Part.put_le q3) (RepA.plain (av := .ds f) rfl ra)
  refine wpAny_mono (C c.A s P₁ vs a ok.hd (by omega) (by omega) (H.glo.mono hle) hkp hra e) (fun v s' p => ?_) fun _ _ e => e
  obtain ⟨P', q1, q2, q3, q4, q5, q6⟩ := p
  have m := Mv.of_keep (L := c.L) q2
  exact ⟨P, σ, .d r, q1, H.mv m, H.step m, Rep.scalar (d := r) q6 hr, h⟩

theorem Ev_call {f : Str} {p pos : Pos} {es : List Expr} {d} (hd : (f, d) ∈ funs) (hk : c.env.kindOf f = some .globalImplicit) (hdb : (f == ("__debug__" : Str)) = false)
    (hn : ∃ x r, backTo pos (starEach es c.env) = (false, x) :: r)
    (h : EvL c (backTo pos (starEach es c.env)) σ fun as σ₁ => ∃ k r, Con c.g f k as r ∧ k ≤ c.room ∧ as.all AV.plain = true ∧ K (.d r) σ₁) : Ev c (.Call (.Name f p) es [] pos) σ K :=
  callTrees hd hk hdb (.inr ⟨hn, h⟩) fun ok s P ow σ₁ as H vs a r ⟨k, q, C, hkr, hp, hK⟩ e => con_step C hkr hp hK ok s P ow H vs a r e
theorem Ev_callX {f : Str} {p pos : Pos} {es : List Expr} {d} {R : PyData → Prop} (hd : (f, d) ∈ funs) (hk : c.env.kindOf f = some .globalImplicit) (hdb : (f == ("__debug__" : Str)) = false)
    (hn : ∃ x r, backTo pos (starEach es c.env) = (false, x) :: r)
    (h : EvL c (backTo pos (starEach es c.env)) σ fun as σ₁ => ∃ k, ConX c.g f k as R ∧ k ≤ c.room ∧ as.all AV.plain = true ∧ ∀ r, R r → K (.d r) σ₁) : Ev c (.Call (.Name f p) es [] pos) σ K :=
  callTrees hd hk hdb (.inr ⟨hn, h⟩) fun ok s P ow σ₁ as H vs a r ⟨k, C, hkr, hp, hK⟩ e => con_stepX C hkr hp hK ok s P ow H vs a r e
theorem Ev_call0 {f : Str} {p pos : Pos} {d} {k : Nat} {r : PyData} (hd : (f, d) ∈ funs) (hk : c.env.kindOf f = some .globalImplicit) (hdb : (f == ("__debug__" : Str)) = false)
    (C : Con c.g f k [] r) (hkr : k ≤ c.room) (hK : K (.d r) σ) : Ev c (.Call (.Name f p) [] [] pos) σ K :=
  callTrees (Ks := fun as σ₁ => as = [] ∧ σ₁ = σ) hd hk hdb (.inl ⟨rfl, rfl, rfl⟩) fun ok s P ow σ₁ as H vs a r ⟨e1, e2⟩ e => by
    subst e1; subst e2; exact con_step C hkr rfl hK ok s P ow H vs a r e
theorem Ev_callL {f : Str} {p pos : Pos} {es : List Expr} {d} (hd : (f, d) ∈ funs) (hk : c.env.kindOf f = some .globalImplicit) (hdb : (f == ("__debug__" : Str)) = false)
    (hn : ∃ x r, backTo pos (starEach es c.env) = (false, x) :: r)
    (h : EvL c (backTo pos (starEach es c.env)) σ fun as σ₁ => ∃ k r, Con c.g f k (as.map (AV.seen σ₁)) r ∧ k ≤ c.room ∧ scalar r = true ∧ K (.d r) σ₁) : Ev c (.Call (.Name f p) es [] pos) σ K :=
  callTrees hd hk hdb (.inr ⟨hn, h⟩) fun ok s P ow σ₁ as H vs a r ⟨k, q, C, hkr, hp, hK⟩ e => con_lent C hkr hp hK ok s P ow H vs a r e

/-- a built-in function of plain arguments -/
noncomputable def BCall (c : Cx) (f : Value) (as : List AV) (σ : St) (K : AV → St → Prop) : Prop :=
  c.Ok → ∀ s P ow, Hd c P ow σ s.heap → ∀ vs, RepAs c.g P ow vs as → wpAny c.M c.A (call f vs) (PostE c (RV c.g) P ow s K) NoE s
theorem Ev_bi {x : Str} {id : String} {p pos : Pos} {es : List Expr} (hx : x ∈ (["len", "min", "max", "sum", "enumerate"] : List Str)) (hb : bootBuiltins x = some (.builtin id)) (hk : c.env.kindOf x = some .globalImplicit) (hdb : (x == ("__debug__" : Str)) = false)
    (hn : ∃ x r, backTo pos (starEach es c.env) = (false, x) :: r) (hpl : (backTo pos (starEach es c.env)).any (·.1) = false)
    (h : EvL c (backTo pos (starEach es c.env)) σ fun as σ₁ => BCall c (.builtin id) as σ₁ K) : Ev c (.Call (.Name x p) es [] pos) σ K := by
  intro ok s P ow H
  have G := H.glo _ H.kept
  have b := G.bi x hx
  refine wpAny_Call_NameR (Calls.Name_function_global ok.kind hk (Calls.loadGlobal_builtin (env := c.env) G.gns b.1 G.bns (b.2.trans hb) ?_) hdb)
  refine Calls.callWith_builtin hpl ?_
  obtain ⟨y, r, e⟩ := hn
  have hh := h ok s P ow H
  rw [e] at hh ⊢
  refine Calls.evalArgs_plain (wpAny_mono hh (fun vs s₁ p => ?_) fun _ _ e => e)
  obtain ⟨P₁, σ₁, as, e₁, H₁, S₁, r₁, k₁⟩ := p
  exact wpAny_mono (k₁ ok s₁ P₁ ow H₁ vs r₁) (fun _ _ q => q.trans e₁ S₁) fun _ _ e => e
theorem len_l {a : AV} {xs : List PyData} (ha : AsList σ a = some xs) (hx : xs.length < 2 ^ 63) (h : K (.d (.int xs.length)) σ) : BCall c (.builtin "len") [a] σ K := by
  intro ok s P ow H vs rs
  cases rs with
  | cons r rest =>
    cases rest
    obtain ⟨l, us, rfl, hl, q⟩ := asList H r ha
    refine len_list hl (by simp [q.length]; omega) ?_
    have e : (us.toArray.size : Int) = xs.length := by simp [q.length]
    rw [e]
    exact PostE.tok (b := AV.d (.int xs.length)) H (Rep.int _ _) h
theorem len_s {x : Str} (hx : x.length < 2 ^ 63) (h : K (.d (.int x.length)) σ) : BCall c (.builtin "len") [.d (.str x)] σ K := by
  intro ok s P ow H vs rs
  cases rs with
  | cons r rest =>
    cases rest
    obtain ⟨t, rfl⟩ := Rep.str_inv r
    exact PySem.P.len_str (by omega) (PostE.tok (b := AV.d (.int x.length)) H (Rep.int _ _) h)
theorem min_2 {i j : Int} (h : K (.d (.int (min i j))) σ) : BCall c (.builtin "min") [.d (.int i), .d (.int j)] σ K := by
  intro ok s P ow H vs rs
  cases rs with
  | cons r rest =>
    cases rest with
    | cons r' rest =>
      cases rest
      obtain ⟨t, rfl⟩ := Rep.int_inv r; obtain ⟨t', rfl⟩ := Rep.int_inv r'
      refine min_two_ints ok.hd fun h' tk k => ?_
      have e : ∃ u, (if j < i then Value.int j t' else Value.int i t) = Value.int (min i j) u := by
        by_cases q : j < i
        · exact ⟨t', by rw [if_pos q, Int.min_eq_right (Int.le_of_lt q)]⟩
        · exact ⟨t, by rw [if_neg q, Int.min_eq_left (Int.not_lt.mp q)]⟩
      obtain ⟨u, e⟩ := e
      rw [e]
      exact PostE.mv (b := AV.d (.int (min i j))) H (Mv.of_keep k) (Rep.int _ _) h
theorem max_2 {i j : Int} (h : K (.d (.int (max i j))) σ) : BCall c (.builtin "max") [.d (.int i), .d (.int j)] σ K := by
  intro ok s P ow H vs rs
  cases rs with
  | cons r rest =>
    cases rest with
    | cons r' rest =>
      cases rest
      obtain ⟨t, rfl⟩ := Rep.int_inv r; obtain ⟨t', rfl⟩ := Rep.int_inv r'
      refine max_two_ints ok.hd fun h' tk k => ?_
      have e : ∃ u, (if j > i then Value.int j t' else Value.int i t) = Value.int (max i j) u := by
        by_cases q : j > i
        · exact ⟨t', by rw [if_pos q, Int.max_eq_right (Int.le_of_lt q)]⟩
        · exact ⟨t, by rw [if_neg q, Int.max_eq_left (Int.not_lt.mp q)]⟩
      obtain ⟨u, e⟩ := e
      rw [e]
      exact PostE.mv (b := AV.d (.int (max i j))) H (Mv.of_keep k) (Rep.int _ _) h

/-- a method of a plain type -/
theorem Ev_meth {T id : String} {name : Str} {o : Expr} {as : List Expr} {apos pos : Pos} (hbase : attributeBase o name c.env (eval o c.env) = eval o c.env)
    (hfew : ((backTo pos (starEach as c.env)).all (fun x => !x.1) && (backToKw pos (keywordEach [] c.env)).all (fun x => x.1.isSome) && decide (as.length + ([] : List Keyword).length + (if ([] : List Keyword).isEmpty then 0 else 1) < 30)) = true)
    (hline : (apos.endLine == pos.line) = true) (hA : PlainAttrs T) (hS : Slot T name id) (hT : typeOf (.builtin id) = pure (.type "method_descriptor"))
    (hpl : (backTo pos (starEach as c.env)).any (·.1) = false)
    {Ks : AV → List AV → St → Prop}
    (h : Ev c o σ fun av σ₁ => (∀ (s : Shared) P ow, Hd c P ow σ₁ s.heap → ∀ u, RepA c.g P ow u av → s.TypeIs u T ∧ ∀ a, u = Value.ref a → ∃ ob : Obj, s.heap.get? a = some ob ∧ ob.dict = none) ∧
      ((backTo pos (starEach as c.env) = [] ∧ Ks av [] σ₁) ∨ (∃ x r, backTo pos (starEach as c.env) = (false, x) :: r) ∧ EvL c (backTo pos (starEach as c.env)) σ₁ (Ks av)))
    (done : c.Ok → ∀ s P ow σ₁ av bs, Hd c P ow σ₁ s.heap → ∀ u vs, RepA c.g P ow u av → RepAs c.g P ow vs bs → Ks av bs σ₁ → wpAny c.M c.A (call (.builtin id) (u :: vs)) (PostE c (RV c.g) P ow s K) NoE s) :
    Ev c (.Call (.Attribute o name apos) as [] pos) σ K := by
  intro ok s P ow H
  refine wpAny_Call_method_late hbase hfew hline rfl (wpAny_mono (h ok s P ow H) (fun u s₁ p => ?_) fun _ _ e => e)
  obtain ⟨P₁, σ₁, av, e₁, H₁, S₁, r₁, ht, k₁⟩ := p
  have tt := ht s₁ P₁ ow H₁ u r₁
  refine ⟨T, id, hA, hS, hT, tt.1, tt.2, Calls.callWith_builtin hpl ?_⟩
  have fin : ∀ vs s₂, PostE c (RL c.g) P₁ ow s₁ (Ks av) vs s₂ → wpAny c.M c.A (call (.builtin id) ([u] ++ vs) []) (PostE c (RV c.g) P ow s K) NoE s₂ := by
    intro vs s₂ p
    obtain ⟨P₂, σ₂, bs, e₂, H₂, S₂, r₂, k₂⟩ := p
    exact wpAny_mono (done ok s₂ P₂ ow σ₂ av bs H₂ u vs (RepA.mono S₂.le r₁) r₂ k₂) (fun _ _ q => q.trans (e₁.trans e₂) (S₁.trans S₂)) fun _ _ e => e
  rcases k₁ with ⟨e, k⟩ | ⟨⟨x, r, e⟩, hh⟩
  · rw [e]
    exact PySem.evalArgs_none (fin [] s₁ (PostE.at H₁ .nil k))
  · have hh := hh ok s₁ P₁ ow H₁
    rw [e] at hh ⊢
    exact Calls.evalArgs_plain (wpAny_mono hh (fun vs s₂ p => fin vs s₂ p) fun _ _ e => e)
end


noncomputable def dropVar (x : Str) (l : List (Str × AV)) : List (Str × AV) := l.filter fun p => !(p.1 == x)
noncomputable def dropOwn (x : Str) : Option (Str × List PyData) → Option (Str × List PyData)
  | some (y, ds) => if y == x then none else some (y, ds)
  | none => none
noncomputable def St.set (σ : St) (x : Str) (av : AV) : St := { vars := (x, av) :: dropVar x σ.vars, own := dropOwn x σ.own }
noncomputable def St.setOwn (σ : St) (x : Str) (ds : List PyData) : St := { vars := dropVar x σ.vars, own := some (x, ds) }
noncomputable def St.freeze (σ : St) : St := match σ.own with
  | some (x, ds) => { vars := (x, .d (.list ds)) :: dropVar x σ.vars, own := none }
  | none => σ

theorem mem_dropVar {x : Str} {l : List (Str × AV)} {p : Str × AV} (h : p ∈ dropVar x l) : p ∈ l ∧ p.1 ≠ x := by
  unfold dropVar at h
  rw [List.mem_filter] at h
  refine ⟨h.1, fun e => ?_⟩
  rw [e] at h; simp at h

section
variable {c : Cx} {σ : St}

theorem local_plain (ok : c.Ok) : (c.env.scope.kind == .class || (c.env.scope.kind == .module && c.env.locals != c.env.globals)) = false := by
  show (c.sc.kind == .class || (c.sc.kind == .module && _)) = false
  rw [ok.kind]; rfl
theorem ns_live {h : Heap} {L : Addr} {m : Str → Option Value} (n : h.Ns L m) : (h.get? L).isSome = true := by
  obtain ⟨o, es, ep, e, r⟩ := n; rw [e]; rfl
theorem kept_but {P : Part} {h h' : Heap} {L : Addr} (k : KeptIn P h) (hP : P L = none) (kp : ∀ b o, h.get? b = some o → b ≠ L → h'.get? b = some o) : KeptIn P h' :=
  fun b o e => kp b o (k b o e) fun q => by subst q; rw [hP] at e; cases e

theorem store_wp {x : Str} {v : Value} {av : AV} (ok : c.Ok) {s : Shared} {P : Part} {ow : Option Addr} (hk : c.env.kindOf x = some .local) (H : Hd c P ow σ s.heap) (r : RepA c.g P ow v av) (hp : av.plain = true) {Q : Unit → Shared → Prop} {E : Value → Shared → Prop}
    (h : ∀ h' tk ow', Hd c P ow' (σ.set x av) h' → Step c.L P ow s.heap P ow' h' → Q () { s with heap := h', toks := tk }) : wpAny c.M c.A (storeName c.env x v) Q E s := by
  obtain ⟨m, n, hv, ho⟩ := H.vars
  refine wpAny_storeName_local hk n (fun h' n' sb => ?_) (local_plain ok)
  have kp : ∀ b o, s.heap.get? b = some o → b ≠ c.L → h'.get? b = some o := fun b o e hb => (sb.2 b hb).trans e
  have live : (h'.get? c.L).isSome = true := ns_live n'
  have kept := kept_but H.kept H.offL kp
  have hvars : ∀ p ∈ (σ.set x av).vars, p.2.plain = true ∧ ∃ u, (if p.1 = x then some v else m p.1) = some u ∧ RepA c.g P none u p.2 := by
    intro p hp'
    rcases List.mem_cons.mp hp' with e | e
    · subst e; exact ⟨hp, v, if_pos rfl, r.plain hp⟩
    · have q := mem_dropVar e
      obtain ⟨a1, u, a2, a3⟩ := hv p q.1
      exact ⟨a1, u, by rw [if_neg q.2]; exact a2, a3⟩
  have fin : ∀ ow', (∀ a, ow' = some a → ow = some a) → OwnOk P c.L (fun y => if y = x then some v else m y) h' (dropOwn x σ.own) ow' → Q () { s with heap := h', toks := s.toks + 1 } := fun ow' hw ho' =>
    h h' _ ow' ⟨kept, H.offL, H.glo, _, n', hvars, ho'⟩ ⟨fun b o e n _ => kp b o e n, P.le_refl, fun _ _ e => .inl e, fun a e => .inl (hw a e), live⟩
  cases hs : σ.own with
  | none =>
    exact fin none (fun a e => by cases e) (by rw [hs]; trivial)
  | some z =>
    obtain ⟨y, ds⟩ := z
    cases hw : ow with
    | none => rw [hs, hw] at ho; exact ho.elim
    | some a =>
      rw [hs, hw] at ho
      obtain ⟨q1, q2, q3, vs, q4, q5⟩ := ho
      by_cases hy : (y == x) = true
      · exact fin none (fun a e => by cases e) (by rw [hs]; simp only [dropOwn, hy, if_true]; trivial)
      · refine fin (some a) (fun b e => by rw [hw]; exact e) ?_
        rw [hs]
        rw [Bool.not_eq_true] at hy
        simp only [dropOwn, hy]
        exact ⟨(if_neg (fun e => by rw [e, beq_self_eq_true] at hy; cases hy)).trans q1, q2, q3, vs, q4.at fun o e => kp _ _ e q2, q5⟩

theorem storeOwn_wp {x : Str} {ds : List PyData} (ok : c.Ok) {s : Shared} {P : Part} {ow : Option Addr} {a : Addr} {vs : List Value} (hk : c.env.kindOf x = some .local) (H : Hd c P ow σ s.heap)
    (p1 : P a = none) (p2 : a ≠ c.L) (p4 : s.heap.PlainList a vs.toArray) (p5 : RepL P vs ds) {Q : Unit → Shared → Prop}
    (h : ∀ h' tk, Hd c P (some a) (σ.setOwn x ds) h' → (∀ b o, s.heap.get? b = some o → b ≠ c.L → h'.get? b = some o) → Q () { s with heap := h', toks := tk }) : wpAny c.M c.A (storeName c.env x (.ref a)) Q NoE s := by
  obtain ⟨m, n, hv, ho⟩ := H.vars
  refine wpAny_storeName_local hk n (fun h' n' sb => ?_) (local_plain ok)
  have kp : ∀ b o, s.heap.get? b = some o → b ≠ c.L → h'.get? b = some o := fun b o e hb => (sb.2 b hb).trans e
  have hvars : ∀ p ∈ (σ.setOwn x ds).vars, p.2.plain = true ∧ ∃ u, (if p.1 = x then some (Value.ref a) else m p.1) = some u ∧ RepA c.g P none u p.2 := by
    intro p hp'
    have q := mem_dropVar hp'
    obtain ⟨a1, u, a2, a3⟩ := hv p q.1
    exact ⟨a1, u, by rw [if_neg q.2]; exact a2, a3⟩
  exact h h' _ ⟨kept_but H.kept H.offL kp, H.offL, H.glo, _, n', hvars, if_pos rfl, p2, p1, vs, p4.at fun o e => kp _ _ e p2, p5⟩ kp
end

section
variable {c : Cx} {σ : St} {K : Fl → St → Prop}

theorem Ex1_Assign {x : Str} {pos' pos : Pos} {value : Expr} (hk : c.env.kindOf x = some .local) (hs : swapsWith value (some (.Name x pos')) pos.line c.env = pure false)
    (h : Ev c value σ fun a σ₁ => a.plain = true ∧ K .next (σ₁.set x a)) : Ex1 c (.Assign [.Name x pos'] value pos) σ K := by
  intro ok s P ow H
  refine wpAny_Assign_Name (wpAny_mono (h ok s P ow H) (fun v s₁ p => ?_) fun _ _ e => e) hs
  obtain ⟨P₁, σ₁, a, e₁, H₁, S₁, r₁, hp, k₁⟩ := p
  refine store_wp ok hk H₁ r₁ hp fun h' tk ow' H' S' => ?_
  exact ⟨P₁, ow', _, .next, e₁.trans rfl, H', S₁.trans S', trivial, k₁⟩
theorem Ex1_AssignN {x : Str} {pos' pos : Pos} {value : Expr} (hk : c.env.kindOf x = some .local) (hs : swapsWith value (some (.Name x pos')) pos.line c.env = pure false)
    (h : EvN c value σ fun ds σ₁ => K .next (σ₁.setOwn x ds)) : Ex1 c (.Assign [.Name x pos'] value pos) σ K := by
  intro ok s P ow H
  refine wpAny_Assign_Name (wpAny_mono (h ok s P ow H) (fun v s₁ p => ?_) fun _ _ e => e) hs
  obtain ⟨P₁, σ₁, ds, a, vs, e₁, H₁, S₁, ⟨rfl, p1, p2, p3, pf, p4, p5⟩, k₁⟩ := p
  refine storeOwn_wp ok hk H₁ p1 p2 p4 p5 fun h' tk H' kp => ?_
  refine ⟨P₁, some a, _, .next, e₁.trans rfl, H', ⟨fun b o e nb nw => kp b o (S₁.keep b o e nb nw) nb, S₁.le, S₁.new, fun b e => by cases e; exact .inr pf, H'.live⟩, trivial, k₁⟩

theorem Ex1_Aug {x : Str} {pos' pos : Pos} {value : Expr} {i : Int} (hk : c.env.kindOf x = some .local) (hl : σ.vars.lookup x = some (.d (.int i)))
    (h : Ev c value σ fun a σ₁ => ∃ j, a = .d (.int j) ∧ K .next (σ₁.set x (.d (.int (i + j))))) : Ex1 c (.AugAssign (.Name x pos') .Add value pos) σ K := by
  intro ok s P ow H
  obtain ⟨m, n, hv, ho⟩ := H.vars
  obtain ⟨hp, v, e, r⟩ := hv _ (mem_of_lookup hl)
  refine wpAny_AugAssign_Name (wpAny_loadName_local ok.kind hk n e (wpAny_mono (h ok s P ow H) (fun v s₁ p => ?_) fun _ _ e => e))
  obtain ⟨t, rfl⟩ := Rep.int_inv r
  obtain ⟨P₁, σ₁, a, e₁, H₁, S₁, r₁, j, rfl, k₁⟩ := p
  obtain ⟨t', rfl⟩ := Rep.int_inv r₁
  refine wpAny_iadd_int ?_
  refine store_wp (s := { s₁ with toks := s₁.toks + 1 }) (av := .d (.int (i + j))) ok hk H₁ (Rep.int _ _) rfl fun h' tk ow' H' S' => ?_
  exact ⟨P₁, ow', _, .next, e₁.trans rfl, H', S₁.trans S', trivial, k₁⟩

theorem Ex1_If {t : Expr} {b o : List Stmt} {pos : Pos} (h : EvT c t σ fun q σ₁ => if q then Ex c b σ₁ K else Ex c o σ₁ K) : Ex1 c (.If t b o pos) σ K := by
  intro ok s P ow H
  refine wpAny_If (wpAny_mono (h ok s P ow H) (fun u s₁ p => ?_) fun _ _ e => e)
  obtain ⟨P₁, σ₁, a, e₁, H₁, S₁, r₁, k₁⟩ := p
  have r₁ : u = a := r₁
  subst r₁
  cases u <;> exact wpAny_mono (k₁ ok s₁ P₁ ow H₁) (fun _ _ q => q.trans e₁ S₁) fun _ _ e => e

theorem Ex1_Return {e : Expr} {pos : Pos} (h : Ev c e σ fun a σ₁ => K (.ret a) σ₁) : Ex1 c (.Return (some e) pos) σ K := by
  intro ok s P ow H
  refine wpAny_Return_some (wpAny_mono (h ok s P ow H) (fun u s₁ p => ?_) fun _ _ e => e)
  obtain ⟨P₁, σ₁, a, e₁, H₁, S₁, r₁, k₁⟩ := p
  exact ⟨P₁, ow, σ₁, .ret a, e₁, H₁, S₁, r₁, k₁⟩
theorem Ex1_Expr {e : Expr} {pos : Pos} (hs : swapsWith e none pos.line c.env = pure false) (hi : interactive c.env = false) (h : Ev c e σ fun _ σ₁ => K .next σ₁) : Ex1 c (.Expr e pos) σ K := by
  intro ok s P ow H
  refine wpAny_Expr_any (wpAny_mono (h ok s P ow H) (fun u s₁ p => ?_) fun _ _ e => e) hi hs
  obtain ⟨P₁, σ₁, a, e₁, H₁, S₁, r₁, k₁⟩ := p
  exact ⟨P₁, ow, σ₁, .next, e₁, H₁, S₁, trivial, k₁⟩

/-- the list that a name owns is changed no more -/
theorem Hd.freeze {P : Part} {ow : Option Addr} {h : Heap} {x : Str} {ds : List PyData} (H : Hd c P ow σ h) (ho : σ.own = some (x, ds)) :
    ∃ P', Hd c P' none { vars := (x, .d (.list ds)) :: dropVar x σ.vars, own := none } h ∧ Step c.L P ow h P' none h := by
  obtain ⟨m, n, hv, hw⟩ := H.vars
  rw [ho] at hw
  cases ow with
  | none => exact hw.elim
  | some a =>
    obtain ⟨q1, q2, q3, vs, ⟨k, q4⟩, q5⟩ := hw
    refine ⟨P.put a { cls := .type "list", data := .seq vs.toArray k }, ⟨?_, by rw [Part.put_other (Ne.symm q2)]; exact H.offL, H.glo.mono (Part.put_le q3), m, n, ?_, trivial⟩, ⟨fun _ _ e _ _ => e, Part.put_le q3, ?_, fun _ e => (nomatch e), H.live⟩⟩
    · intro b o e
      by_cases hb : b = a
      · subst hb; rw [Part.put_self] at e; cases e; exact q4
      · rw [Part.put_other hb] at e; exact H.kept b o e
    · intro p hp
      rcases List.mem_cons.mp hp with e | e
      · subst e; exact ⟨rfl, _, q1, Rep.list (n := k) Part.put_self rfl rfl (RepL.mono (Part.put_le q3) q5)⟩
      · obtain ⟨a1, u, a2, a3⟩ := hv p (mem_dropVar e).1
        exact ⟨a1, u, a2, a3.mono (Part.put_le q3)⟩
    · intro b o e
      by_cases hb : b = a
      · subst hb; exact .inr (.inl rfl)
      · rw [Part.put_other hb] at e; exact .inl e
theorem Ex_freeze {b : List Stmt} {x : Str} {ds : List PyData} (ho : σ.own = some (x, ds)) (h : Ex c b { vars := (x, .d (.list ds)) :: dropVar x σ.vars, own := none } K) : Ex c b σ K := by
  intro ok s P ow H
  obtain ⟨P', H', S'⟩ := H.freeze ho
  exact wpAny_mono (h ok s P' none H') (fun _ _ q => q.trans (Same.refl s) S') fun _ _ e => e
/-- names forgotten -/
theorem Hd.forget {P : Part} {ow : Option Addr} {h : Heap} {σ' : St} (H : Hd c P ow σ h) (hv : ∀ p ∈ σ'.vars, p ∈ σ.vars) (ho : σ'.own = σ.own) : Hd c P ow σ' h := by
  obtain ⟨m, n, h1, h2⟩ := H.vars
  exact ⟨H.kept, H.offL, H.glo, m, n, fun p hp => h1 p (hv p hp), by rw [ho]; exact h2⟩
theorem Ex_forget {b : List Stmt} (σ' : St) (hv : ∀ p ∈ σ'.vars, p ∈ σ.vars) (ho : σ'.own = σ.own) (h : Ex c b σ' K) : Ex c b σ K :=
  fun ok s P ow H => h ok s P ow (H.forget hv ho)

/-- a while by what holds and a measure -/
theorem Ex1_While {t : Expr} {body : List Stmt} {pos : Pos} (Inv : Nat → St → Prop) (n : Nat) (h0 : Inv n σ)
    (turn : ∀ n σ, Inv n σ → EvT c t σ fun b σ₁ => if b then Ex c body σ₁ (fun f σ₂ => match f with | .next | .cont => ∃ m, m < n ∧ Inv m σ₂ | .brk => K .next σ₂ | .ret v => K (.ret v) σ₂) else K .next σ₁) :
    Ex1 c (.While t body [] pos) σ K := by
  intro ok s P ow H
  refine wpAny_While (codeAny_whileLoop (fun n s₁ => ∃ P₁ ow₁ σ₁, Same s s₁ ∧ Hd c P₁ ow₁ σ₁ s₁.heap ∧ Step c.L P ow s.heap P₁ ow₁ s₁.heap ∧ Inv n σ₁) ?_ n ⟨P, ow, σ, Same.refl s, H, Step.refl _ _ H.live, h0⟩)
  rintro n s₁ ⟨P₁, ow₁, σ₁, e₁, H₁, S₁, i₁⟩
  refine wpAny_mono (turn n σ₁ i₁ ok s₁ P₁ ow₁ H₁) (fun b s₂ p => ?_) fun _ _ e => e.elim
  obtain ⟨P₂, σ₂, b', e₂, H₂, S₂, r₂, k₂⟩ := p
  have r₂ : b = b' := r₂
  subst r₂
  cases b with
  | false => exact wpAny_execs_nil ⟨P₂, ow₁, σ₂, .next, e₁.trans e₂, H₂, S₁.trans S₂, trivial, k₂⟩
  | true =>
    refine wpAny_mono (k₂ ok s₂ P₂ ow₁ H₂) (fun f s₃ p => ?_) fun _ _ e => e.elim
    obtain ⟨P₃, ow₃, σ₃, f', e₃, H₃, S₃, r₃, k₃⟩ := p
    have E := e₁.trans (e₂.trans e₃)
    have S := S₁.trans (S₂.trans S₃)
    cases f <;> cases f' <;> try exact r₃.elim
    · obtain ⟨m, hm, hi⟩ := k₃; exact ⟨m, hm, P₃, ow₃, σ₃, E, H₃, S, hi⟩
    · exact ⟨P₃, ow₃, σ₃, .next, E, H₃, S, trivial, k₃⟩
    · obtain ⟨m, hm, hi⟩ := k₃; exact ⟨m, hm, P₃, ow₃, σ₃, E, H₃, S, hi⟩
    · exact ⟨P₃, ow₃, σ₃, _, E, H₃, S, r₃, k₃⟩
end


theorem lookup_mem {x : Str} {v : Value} : ∀ {l : List (Str × Value)}, (l.map (·.1)).Nodup → (x, v) ∈ l → l.lookup x = some v
  | [], _, h => nomatch h
  | (y, u) :: r, nd, h => by
    rw [List.map_cons, List.nodup_cons] at nd
    rw [List.lookup_cons]
    rcases List.mem_cons.mp h with e | e
    · cases e; simp
    · have hne : x ≠ y := by rintro rfl; exact nd.1 (List.mem_map.mpr ⟨_, e, rfl⟩)
      rw [beq_eq_false_iff_ne.mpr hne]
      exact lookup_mem nd.2 e
theorem zip_rep {g : Gl} {P : Part} : ∀ {names : List Str} {vs : List Value} {as : List AV}, RepAs g P none vs as → ∀ p ∈ names.zip as, ∃ v, (p.1, v) ∈ names.zip vs ∧ RepA g P none v p.2
  | [], _, _, _, p, h => by simp at h
  | _ :: _, _, _, .nil, p, h => by simp at h
  | n :: ns, _, _, .cons h1 h2, p, h => by
    rw [List.zip_cons_cons] at h
    rcases List.mem_cons.mp h with e | e
    · subst e; exact ⟨_, by rw [List.zip_cons_cons]; exact .head _, h1⟩
    · obtain ⟨v, a, b⟩ := zip_rep h2 p e
      exact ⟨v, by rw [List.zip_cons_cons]; exact .tail _ a, b⟩

theorem con_introX {g : Gl} {n : Str} {ps : Arguments} {body : List Stmt} {sc : Scope} {room : Nat} {as : List AV} {R : PyData → Prop} (names : List Str)
    (hd : (n, ps, body, sc) ∈ funs)
    (hb : ∀ pm cd doc (vs : List Value), vs.length = as.length → bindArgs (Calls.docDef n ps body sc pm cd doc) ⟨vs, []⟩ = pure (names.zip vs))
    (hl : (names.all fun x => decide (sc.names.lookup x = some .local)) = true) (hnd : names.Nodup) (hlen : names.length = as.length) (hp : as.all AV.plain = true)
    (hco : sc.isCoroutine = false) (hgen : sc.isGenerator = false) (hk : sc.kind = .function) (hcell : ∀ x ∈ sc.names, x.2 ≠ .cell)
    (h : ∀ (A : Around) (L fa : Addr) (cd : Value), Ex ⟨g, A, n, sc, L, fa, cd, room⟩ body ⟨names.zip as, none⟩ fun f _ => ∃ r, f = .ret (.d r) ∧ R r) : ConX g n (room + 1) as R := by
  intro A s P vs a hh hdep hun G kp rs e
  obtain ⟨a', o, pm, code, doc, q1, q2, q3, q4⟩ := (G _ kp).fns _ hd
  rw [e] at q1; cases q1
  have hvl : vs.length = as.length := rs.length
  refine wpAny_call (call_plain_ret (by omega) q2 q3 (G _ kp).nl q4 (hb _ _ _ vs hvl) (fun x hx => ?_) (fun h₁ F => ?_) hco hgen hk hcell)
  · have : x.1 ∈ names := by
      obtain ⟨i, hi⟩ := List.mem_iff_getElem?.mp hx
      rw [List.getElem?_zip_eq_some] at hi
      exact List.mem_of_getElem? hi.1
    exact of_decide_eq_true (List.all_eq_true.mp hl _ this)
  · have hkeep := F.keep
    have hL : s.heap.get? s.heap.objs.size = none := fresh_size _
    have hPL : P s.heap.objs.size = none := by
      cases q : P s.heap.objs.size with
      | none => rfl
      | some o => rw [kp _ _ q] at hL; cases hL
    have H : Hd ⟨g, A.deeper (envOf n sc s.heap.objs.size a code), n, sc, s.heap.objs.size, a, code, room⟩ P none ⟨names.zip as, none⟩ h₁ := by
      refine ⟨fun b o q => hkeep b o (kp b o q), hPL, G, _, F.ns, ?_, trivial⟩
      intro p hp'
      have hpl : p.2.plain = true := by
        obtain ⟨i, hi⟩ := List.mem_iff_getElem?.mp hp'
        rw [List.getElem?_zip_eq_some] at hi
        exact List.all_eq_true.mp hp _ (List.mem_of_getElem? hi.2)
      obtain ⟨v, z1, z2⟩ := zip_rep rs p hp'
      refine ⟨hpl, v, ?_, z2⟩
      have nd : (((names.zip vs).reverse).map (·.1)).Nodup := by
        have e1 : (names.zip vs).map (·.1) = names := List.map_fst_zip (by omega)
        rw [List.map_reverse, e1]
        exact (List.reverse_perm names).nodup_iff.mpr hnd
      exact lookup_mem nd (List.mem_reverse.mpr z1)
    have ok : Cx.Ok ⟨g, A.deeper (envOf n sc s.heap.objs.size a code), n, sc, s.heap.objs.size, a, code, room⟩ :=
      ⟨hk, hh, by show A.depth + 1 + room < _; omega, by show A.units + 3 + 8 * room + 200 < _; omega⟩
    refine wpAny_mono (h (A.deeper (envOf n sc s.heap.objs.size a code)) s.heap.objs.size a code ok { s with heap := h₁, toks := s.toks + (names.zip vs).length } P none H) (fun f s' p => ?_) fun _ _ e => e
    obtain ⟨P', ow', σ', b, z1, z2, z3, z4, r, rfl, z5⟩ := p
    cases f with
    | ret v =>
      have hin : ∀ b o, s.heap.get? b = some o → b ≠ s.heap.objs.size := fun b o e q => by subst q; rw [hL] at e; cases e
      refine ⟨P', Same.trans (s₁ := { s with heap := h₁, toks := s.toks + (names.zip vs).length }) rfl z1, fun b o e => z3.keep b o (hkeep b o e) (hin b o e) (by intro q; cases q), z3.le, fun b o e => ?_, z2.kept, r, z4, z5⟩
      rcases z3.new b o e with q | q | q
      · exact .inl q
      · cases q
      · right
        cases q' : s.heap.get? b with
        | none => rfl
        | some o' => rw [hkeep _ _ q'] at q; cases q
    | next => exact z4.elim
    | brk => exact z4.elim
    | cont => exact z4.elim

theorem con_intro {g : Gl} {n : Str} {ps : Arguments} {body : List Stmt} {sc : Scope} {room : Nat} {as : List AV} {r : PyData} (names : List Str)
    (hd : (n, ps, body, sc) ∈ funs)
    (hb : ∀ pm cd doc (vs : List Value), vs.length = as.length → bindArgs (Calls.docDef n ps body sc pm cd doc) ⟨vs, []⟩ = pure (names.zip vs))
    (hl : (names.all fun x => decide (sc.names.lookup x = some .local)) = true) (hnd : names.Nodup) (hlen : names.length = as.length) (hp : as.all AV.plain = true)
    (hco : sc.isCoroutine = false) (hgen : sc.isGenerator = false) (hk : sc.kind = .function) (hcell : ∀ x ∈ sc.names, x.2 ≠ .cell)
    (h : ∀ (A : Around) (L fa : Addr) (cd : Value), Ex ⟨g, A, n, sc, L, fa, cd, room⟩ body ⟨names.zip as, none⟩ fun f _ => f = .ret (.d r)) : Con g n (room + 1) as r :=
  (con_introX (R := fun x => x = r) names hd hb hl hnd hlen hp hco hgen hk hcell fun A L fa cd => RunS.mono (h A L fa cd) fun _ _ e => ⟨r, e, rfl⟩).con

section
variable {c : Cx} {σ : St} {K : AV → St → Prop}

/-- the owned list, changed -/
theorem Hd.reown {P : Part} {a : Addr} {h h' : Heap} {x : Str} {ds ds' : List PyData} {vs' : List Value} (H : Hd c P (some a) σ h) (ho : σ.own = some (x, ds)) (sb : Heap.ExtBut a h h') (pl : h'.PlainList a vs'.toArray) (r : RepL P vs' ds') :
    Hd c P (some a) { σ with own := some (x, ds') } h' ∧ Step c.L P (some a) h P (some a) h' := by
  obtain ⟨m, n, hv, hw⟩ := H.vars
  rw [ho] at hw
  obtain ⟨q1, q2, q3, vs, q4, q5⟩ := hw
  have n' : h'.Ns c.L m := n.extBut sb (Ne.symm q2)
  refine ⟨⟨fun b o e => sb b o (fun q => by subst q; rw [q3] at e; cases e) (H.kept b o e), H.offL, H.glo, m, n', hv, q1, q2, q3, vs', pl, r⟩,
    ⟨fun b o e nb nw => sb b o (fun q => nw (by rw [q])) e, P.le_refl, fun _ _ e => .inl e, fun _ e => .inl e, ns_live n'⟩⟩
theorem own_at {P : Part} {ow : Option Addr} {h : Heap} {x : Str} {ds : List PyData} (H : Hd c P ow σ h) (ho : σ.own = some (x, ds)) : ∃ a, ow = some a ∧ ∃ vs : List Value, h.PlainList a vs.toArray ∧ RepL P vs ds := by
  obtain ⟨m, n, hv, hw⟩ := H.vars
  rw [ho] at hw
  cases ow with
  | none => exact hw.elim
  | some a => obtain ⟨q1, q2, q3, vs, q4, q5⟩ := hw; exact ⟨a, rfl, vs, q4, q5⟩
theorem own_type {x : Str} {ds : List PyData} (ho : σ.own = some (x, ds)) : ∀ (s : Shared) P ow, Hd c P ow σ s.heap → ∀ u, RepA c.g P ow u .own → s.TypeIs u "list" ∧ ∀ a, u = Value.ref a → ∃ ob : Obj, s.heap.get? a = some ob ∧ ob.dict = none := by
  intro s P ow H u r
  obtain ⟨a, e1, rfl⟩ := r
  obtain ⟨a', e2, vs, ⟨n, q⟩, _⟩ := own_at H ho
  rw [e1] at e2; cases e2
  exact ⟨⟨_, q, rfl⟩, fun b e => by cases e; exact ⟨_, q, rfl⟩⟩

/-- x.append(e): the owned list grows -/
theorem Ev_append {x : Str} {p apos pos : Pos} {e : Expr} {ds : List PyData} (ho : σ.own = some (x, ds)) (hk : c.env.kindOf x = some .local) (hd : (x == ("__debug__" : Str)) = false)
    (hfew : ((backTo pos (starEach [e] c.env)).all (fun x => !x.1) && (backToKw pos (keywordEach [] c.env)).all (fun x => x.1.isSome) && decide (([e] : List Expr).length + ([] : List Keyword).length + (if ([] : List Keyword).isEmpty then 0 else 1) < 30)) = true)
    (hline : (apos.endLine == pos.line) = true) (htr : backTo pos (starEach [e] c.env) = [(false, eval e c.env)])
    (h : Ev c e σ fun a σ₁ => ∃ d ds', a = .d d ∧ σ₁.own = some (x, ds') ∧ ds'.length < sizeLine ∧ K (.d .none) { σ₁ with own := some (x, ds' ++ [d]) }) :
    Ev c (.Call (.Attribute (.Name x p) "append" apos) [e] [] pos) σ K := by
  refine Ev_meth (T := "list") (id := "list.append") (Ks := fun av as σ₁ => av = .own ∧ ∃ d ds', as = [.d d] ∧ σ₁.own = some (x, ds') ∧ ds'.length < sizeLine ∧ K (.d .none) { σ₁ with own := some (x, ds' ++ [d]) })
    rfl hfew hline PySem.F.plainAttrs_list PySem.F.slot_list_append PySem.F.type_list_append (by rw [htr]; rfl)
    (Ev_own ho hk hd ⟨own_type ho, .inr ⟨⟨_, _, htr⟩, by rw [htr]; exact EvL_cons (RunE.mono h fun a σ₁ ⟨d, ds', h1, h2, h3, h4⟩ => EvL_nil ⟨rfl, d, ds', by rw [h1], h2, h3, h4⟩)⟩⟩) ?_
  intro ok s P ow σ₁ av bs H u vs ru rs ⟨e1, d, ds', e2, ho1, hz, hK⟩
  subst e1; subst e2
  obtain ⟨a, w1, us, pl, r⟩ := own_at H ho1
  obtain ⟨a', w2, rfl⟩ := ru
  rw [w1] at w2; cases w2
  subst w1
  cases rs with
  | cons rv rest =>
    cases rest
    rename_i v
    refine wpAny_list_append_plain pl (fun h' pl' sb => ?_) (by simp [r.length]; omega)
    have pl'' : h'.PlainList a (us ++ [v]).toArray := by simpa using pl'
    have z := H.reown ho1 sb.extBut pl'' (r.append (.cons rv .nil))
    exact ⟨P, _, .d .none, rfl, z.1, z.2, Rep.none, hK⟩

/-- x.pop(): the owned list loses its last -/
theorem Ev_pop {x : Str} {p apos pos : Pos} {ds : List PyData} {d : PyData} (ho : σ.own = some (x, ds ++ [d])) (hz : ds.length < sizeLine) (hk : c.env.kindOf x = some .local) (hd : (x == ("__debug__" : Str)) = false)
    (hline : (apos.endLine == pos.line) = true) (h : K (.d d) { σ with own := some (x, ds) }) :
    Ev c (.Call (.Attribute (.Name x p) "pop" apos) [] [] pos) σ K := by
  refine Ev_meth (T := "list") (id := "list.pop") (Ks := fun av as σ₁ => av = .own ∧ as = [] ∧ σ₁ = σ)
    rfl rfl hline PySem.F.plainAttrs_list PySem.F.slot_list_pop PySem.F.type_list_pop rfl
    (Ev_own ho hk hd ⟨own_type ho, .inl ⟨rfl, rfl, rfl, rfl⟩⟩) ?_
  intro ok s P ow σ₁ av bs H u vs ru rs ⟨e1, e2, e3⟩
  subst e1; subst e2; subst e3
  cases rs
  obtain ⟨a, w1, us, ⟨n, pl⟩, r⟩ := own_at H ho
  obtain ⟨a', w2, rfl⟩ := ru
  rw [w1] at w2; cases w2
  subst w1
  obtain ⟨ws, zs, rfl, r1, r2⟩ := r.split
  cases r2 with
  | cons r2 r3 =>
    cases r3
    rename_i v
    have hl := r1.length
    refine PySem.call_meets PySem.F.slot_list_pop ⟨_, pl, rfl⟩ PySem.F.entry_list_pop (PySem.F.args_list_pop_1 _) (PySem.MeetsSeq.list_pop_last a (ws ++ [v]).toArray n v (by simp) (by simp; omega)) ⟨pl, ?_⟩
    have er : ((ws ++ [v]).toArray.eraseIdxIfInBounds ((ws ++ [v]).toArray.size - 1)) = ws.toArray := by
      simp [Array.eraseIdxIfInBounds, List.eraseIdx_append_of_length_le]
    have upd : (s.heap.update a (Obj.mapSeq fun xs => xs.eraseIdxIfInBounds ((ws ++ [v]).toArray.size - 1))).PlainList a ws.toArray := by
      have := Heap.get?_update_self (Obj.mapSeq fun xs => xs.eraseIdxIfInBounds ((ws ++ [v]).toArray.size - 1)) pl rfl
      unfold Obj.mapSeq at this
      dsimp only at this
      rw [er] at this
      exact ⟨_, this⟩
    have z := H.reown ho (Heap.SameBut.update ..).extBut upd r1
    exact ⟨P, _, .d d, rfl, z.1, z.2, r2, h⟩
end


/-- objects that a loop keeps for itself -/
noncomputable def Guard (L : Addr) (P : Part) (ow : Option Addr) (J : List Addr) (h : Heap) : Prop := ∀ b ∈ J, P b = none ∧ b ≠ L ∧ ow ≠ some b ∧ (h.get? b).isSome = true
theorem Guard.step {L : Addr} {P P' : Part} {ow ow' : Option Addr} {J : List Addr} {h h' : Heap} (G : Guard L P ow J h) (S : Step L P ow h P' ow' h') : Guard L P' ow' J h' := by
  intro b hb
  obtain ⟨g1, g2, g3, g4⟩ := G b hb
  obtain ⟨o, ho⟩ := Option.isSome_iff_exists.mp g4
  refine ⟨?_, g2, ?_, by rw [S.keep b o ho g2 g3]; rfl⟩
  · cases e : P' b with
    | none => rfl
    | some o' =>
      rcases S.new b o' e with q | q | q
      · rw [g1] at q; cases q
      · exact absurd q g3
      · rw [ho] at q; cases q
  · intro e
    rcases S.own b e with q | q
    · exact g3 q
    · rw [ho] at q; cases q
theorem Hd.off {c : Cx} {P : Part} {ow : Option Addr} {σ : St} {h h' : Heap} {J : List Addr} (H : Hd c P ow σ h) (G : Guard c.L P ow J h) (k : ∀ b o, h.get? b = some o → b ∉ J → h'.get? b = some o) : Hd c P ow σ h' where
  kept := fun b o e => k b o (H.kept b o e) fun hb => by rw [(G b hb).1] at e; cases e
  offL := H.offL
  glo := H.glo
  vars := by
    obtain ⟨m, n, h1, h2⟩ := H.vars
    have hL : c.L ∉ J := fun hb => (G _ hb).2.1 rfl
    refine ⟨m, ?_, h1, ?_⟩
    · obtain ⟨o, es, ep, e, r⟩ := n; exact ⟨o, es, ep, k _ _ e hL, r⟩
    · cases hs : σ.own with
      | none => cases hw : ow with
        | none => trivial
        | some a => rw [hs, hw] at h2; exact h2.elim
      | some p =>
        obtain ⟨x, ds⟩ := p
        cases hw : ow with
        | none => rw [hs, hw] at h2; exact h2.elim
        | some a =>
          rw [hs, hw] at h2
          obtain ⟨q1, q2, q3, vs, q4, q5⟩ := h2
          exact ⟨q1, q2, q3, vs, q4.at fun o e => k _ _ e fun hb => (G _ hb).2.2.1 hw, q5⟩
theorem Step.off {L : Addr} {P P₁ : Part} {ow ow₁ : Option Addr} {h h₁ h₂ : Heap} {J : List Addr} (S : Step L P ow h P₁ ow₁ h₁) (hJ : ∀ b ∈ J, h.get? b = none) (hL : L ∉ J) (k : ∀ b o, h₁.get? b = some o → b ∉ J → h₂.get? b = some o) : Step L P ow h P₁ ow₁ h₂ :=
  ⟨fun b o e nb nw => k b o (S.keep b o e nb nw) fun hb => (by rw [hJ b hb] at e; cases e), S.le, S.new, S.own, by
    obtain ⟨o, e⟩ := Option.isSome_iff_exists.mp S.live; rw [k _ _ e hL]; rfl⟩
theorem Guard.off {L : Addr} {P : Part} {ow : Option Addr} {J : List Addr} {h h' : Heap} (G : Guard L P ow J h) (k : ∀ b ∈ J, (h'.get? b).isSome = true) : Guard L P ow J h' := fun b hb => ⟨(G b hb).1, (G b hb).2.1, (G b hb).2.2.1, k b hb⟩

section
variable {c : Cx} {σ : St} {K : Fl → St → Prop}

noncomputable abbrev LoopEnd (K : Fl → St → Prop) (next : St → Prop) : Fl → St → Prop := fun f σ => match f with
  | .next | .cont => next σ
  | .brk => K .next σ
  | .ret v => K (.ret v) σ

theorem Ex1_For {x : Str} {px pos : Pos} {iter : Expr} {body : List Stmt} (hk : c.env.kindOf x = some .local) (hs : ∀ v, foldedSetIterable iter c.env v = pure v) (Inv : Nat → St → Prop)
    (h : Ev c iter σ fun a σ₁ => ∃ xs, a = .d (.list xs) ∧ Inv 0 σ₁ ∧ (∀ i σ d, xs[i]? = some d → Inv i σ → Ex c body (σ.set x (.d d)) (LoopEnd K (Inv (i + 1)))) ∧ ∀ σ, Inv xs.length σ → K .next σ) :
    Ex1 c (.For (.Name x px) iter body [] pos) σ K := by
  intro ok s P ow H
  refine wpAny_For (wpAny_mono (h ok s P ow H) (fun u s₁ p => ?_) fun _ _ e => e) hs
  obtain ⟨P₁, σ₁, a, e₁, H₁, S₁, r₁, xs, rfl, i₁, turn, fin⟩ := p
  obtain ⟨l, o, n, vs, rfl, z2, z3, z4, z5⟩ := Rep.list_inv r₁
  have hl : ∀ {P₂ : Part} {h₂ : Heap}, P₁.le P₂ → KeptIn P₂ h₂ → h₂.IsList l vs.toArray := fun le k => ⟨o, k _ _ (le _ _ z2), z3, n, z4⟩
  refine wpAny_pyIter_list (hl (Part.le_refl _) H₁.kept) ?_
  have hI : s₁.heap.get? s₁.heap.objs.size = none := fresh_size _
  have fI := H₁.fresh hI
  have m₁ : Mv c.L s₁.heap (s₁.heap.push { cls := .type "list_iterator", data := .fields #[.ref l, .int 0 0] }) := .push ..
  have hI0 : s.heap.get? s₁.heap.objs.size = none := by
    cases q : s.heap.get? s₁.heap.objs.size with
    | none => rfl
    | some o' => rw [S₁.keep _ _ q fI.2.1 fI.2.2] at hI; cases hI
  refine codeAny_forLoop (fun k s' => ∃ P₂ ow₂ σ₂ i, Same s s' ∧ Hd c P₂ ow₂ σ₂ s'.heap ∧ Step c.L P ow s.heap P₂ ow₂ s'.heap ∧ P₁.le P₂ ∧ Guard c.L P₂ ow₂ [s₁.heap.objs.size] s'.heap ∧ s'.heap.IsListIter s₁.heap.objs.size l i ∧ Inv i σ₂ ∧ i ≤ xs.length ∧ k = xs.length + 1 - i)
    ?_ (xs.length + 1) ⟨P₁, ow, σ₁, 0, e₁.trans rfl, H₁.mv m₁, S₁.trans (H₁.step m₁), Part.le_refl _, ?_, ⟨_, Heap.get?_push_size _ rfl, rfl, rfl⟩, i₁, Nat.zero_le _, rfl⟩
  · rintro k s' ⟨P₂, ow₂, σ₂, i, e₂, H₂, S₂, le₂, G₂, it₂, i₂, hi, rfl⟩
    have hl₂ := hl le₂ H₂.kept
    cases hx : xs[i]? with
    | none =>
      have hlen : i = xs.length := by simp at hx; omega
      refine wpAny_pyNext_list_end ok.hd it₂ hl₂ (by simpa using z5.get_none hx) fun h₃ ex => wpAny_execs_nil ?_
      have k₃ : ∀ b o, s'.heap.get? b = some o → b ∉ [s₁.heap.objs.size] → h₃.get? b = some o := fun b o e hb => ex b o (fun q => hb (by rw [q]; exact .head _)) e
      refine ⟨P₂, ow₂, σ₂, .next, e₂.trans rfl, H₂.off G₂ k₃, S₂.off (by simpa using hI0) (by simpa using Ne.symm fI.2.1) k₃, trivial, fin _ (hlen ▸ i₂)⟩
    | some d =>
      have hlt : i < xs.length := (List.getElem?_eq_some_iff.mp hx).1
      obtain ⟨v, hv, rv⟩ := z5.get hx
      refine wpAny_pyNext_list_item it₂ hl₂ (by simpa using hv) fun h₃ it₃ sb => ?_
      have k₃ : ∀ b o, s'.heap.get? b = some o → b ∉ [s₁.heap.objs.size] → h₃.get? b = some o := fun b o e hb => (sb.2 b (fun q => hb (by rw [q]; exact .head _))).trans e
      have H₃ := H₂.off G₂ k₃
      have S₃ := S₂.off (by simpa using hI0) (by simpa using Ne.symm fI.2.1) k₃
      have live₃ : ∀ b ∈ [s₁.heap.objs.size], (h₃.get? b).isSome = true := fun b hb => by
        rw [List.mem_singleton.mp hb]; obtain ⟨o', q, _⟩ := it₃; rw [q]; rfl
      have G₃ := G₂.off live₃
      refine wpAny_assign_Name (store_wp (s := { s' with heap := h₃ }) (av := .d d) ok hk H₃ (Rep.mono le₂ rv) rfl fun h₄ tk ow₄ H₄ S₄ => ?_)
      have G₄ := Guard.step G₃ S₄
      refine wpAny_mono (turn i σ₂ d hx i₂ ok { s' with heap := h₄, toks := tk } P₂ ow₄ H₄) (fun f s₅ p => ?_) fun _ _ e => e.elim
      obtain ⟨P₅, ow₅, σ₅, f', e₅, H₅, S₅, r₅, k₅⟩ := p
      have E := e₂.trans (Same.trans (s₁ := { s' with heap := h₄, toks := tk }) rfl e₅)
      have S := S₃.trans (S₄.trans S₅)
      have again : Inv (i + 1) σ₅ → ∃ m, m < xs.length + 1 - i ∧ ∃ P₂ ow₂ σ₂ i, Same s s₅ ∧ Hd c P₂ ow₂ σ₂ s₅.heap ∧ Step c.L P ow s.heap P₂ ow₂ s₅.heap ∧ P₁.le P₂ ∧ Guard c.L P₂ ow₂ [s₁.heap.objs.size] s₅.heap ∧ s₅.heap.IsListIter s₁.heap.objs.size l i ∧ Inv i σ₂ ∧ i ≤ xs.length ∧ m = xs.length + 1 - i := fun hi' =>
        ⟨xs.length + 1 - (i + 1), by omega, P₅, ow₅, σ₅, i + 1, E, H₅, S, Part.le_trans le₂ (Part.le_trans S₄.le S₅.le), Guard.step G₄ S₅, it₃.at fun o e => S₅.keep _ _ (S₄.keep _ _ e fI.2.1 (G₃ _ (.head _)).2.2.1) fI.2.1 (G₄ _ (.head _)).2.2.1, hi', hlt, rfl⟩
      cases f <;> cases f' <;> try exact r₅.elim
      · exact again k₅
      · exact ⟨P₅, ow₅, σ₅, .next, E, H₅, S, trivial, k₅⟩
      · exact again k₅
      · exact ⟨P₅, ow₅, σ₅, _, E, H₅, S, r₅, k₅⟩
  · intro b hb
    rw [List.mem_singleton.mp hb]
    exact ⟨fI.1, fI.2.1, fI.2.2, by rw [Heap.get?_push_size _ rfl]; rfl⟩

theorem Ex1_Unpack2 {x y : Str} {px py tp pos : Pos} {k : Nat} {value : Expr} (hx : c.env.kindOf x = some .local) (hy : c.env.kindOf y = some .local)
    (hs : swapsWithSole [.Tuple [.Name x px, .Name y py] k tp] value pos.line c.env = pure false) (hw : swappedStores [.Tuple [.Name x px, .Name y py] k tp] value c.env = pure none)
    (h : Ev c value σ fun a σ₁ => ∃ d e, a = .d (.tuple [d, e]) ∧ K .next ((σ₁.set x (.d d)).set y (.d e))) : Ex1 c (.Assign [.Tuple [.Name x px, .Name y py] k tp] value pos) σ K := by
  intro ok s P ow H
  refine Assign_Tuple (wpAny_mono (h ok s P ow H) (fun u s₁ p => ?_) fun _ _ e => e) hs hw
  obtain ⟨P₁, σ₁, a, e₁, H₁, S₁, r₁, d, e, rfl, k₁⟩ := p
  obtain ⟨t, o, n, vs, rfl, z2, z3, z4, z5⟩ := Rep.tuple_inv r₁
  cases z5 with
  | cons r1 z5 =>
    cases z5 with
    | cons r2 z5 =>
      cases z5
      rename_i v1 v2
      refine wpAny_assign_Tuple ok.hd ⟨o, H₁.kept _ _ z2, z3, n, z4⟩ rfl rfl fun h₂ ex => ?_
      have m₂ : Mv c.L s₁.heap h₂ := .of_keep fun b o e => ex b o (Nat.ne_of_lt (Heap.lt_size e)) e
      have H₂ := H₁.mv m₂
      have S₂ := H₁.step m₂
      refine wpAny_assignInOrder_more (wpAny_assign_Name (store_wp (s := { s₁ with heap := h₂ }) (av := .d d) ok hx H₂ r1 rfl fun h₃ tk ow₃ H₃ S₃ => ?_))
      refine wpAny_assignInOrder_more (wpAny_assign_Name (store_wp (s := { s₁ with heap := h₃, toks := tk }) (av := .d e) ok hy H₃ r2 rfl fun h₄ tk' ow₄ H₄ S₄ => ?_))
      exact wpAny_assignInOrder_none ⟨P₁, ow₄, _, .next, e₁.trans rfl, H₄, S₁.trans (S₂.trans (S₃.trans S₄)), trivial, k₁⟩

theorem Ex1_ForEnum {xi xv : Str} {pi pv pt np cp pos : Pos} {x1 : Nat} {ie : Expr} {body : List Stmt} (hki : c.env.kindOf xi = some .local) (hkv : c.env.kindOf xv = some .local) (hke : c.env.kindOf "enumerate" = some .globalImplicit)
    (hs : ∀ v, foldedSetIterable (.Call (.Name "enumerate" np) [ie] [] cp) c.env v = pure v) (htr : backTo cp (starEach [ie] c.env) = [(false, eval ie c.env)]) (Inv : Nat → St → Prop)
    (h : Ev c ie σ fun a σ₁ => ∃ xs, a = .d (.list xs) ∧ Inv 0 σ₁ ∧ (∀ (i : Nat) σ d, xs[i]? = some d → Inv i σ → Ex c body ((σ.set xi (.d (.int i))).set xv (.d d)) (LoopEnd K (Inv (i + 1)))) ∧ ∀ σ, Inv xs.length σ → K .next σ) :
    Ex1 c (.For (.Tuple [.Name xi pi, .Name xv pv] x1 pt) (.Call (.Name "enumerate" np) [ie] [] cp) body [] pos) σ K := by
  intro ok s P ow H
  have G := H.glo _ H.kept
  have bt := G.bi "enumerate" (by decide)
  refine wpAny_For (wpAny_Call_NameR (Calls.Name_function_global ok.kind hke (Calls.loadGlobal_builtin (env := c.env) G.gns bt.1 G.bns (bt.2.trans PyProof.Rows.boot_enumerate) ?_) (by decide))) hs
  rw [htr]
  refine PySem.callWith_type rfl (Calls.evalArgs_plain (Calls.spliced_cons (wpAny_mono (h ok s P ow H) (fun u s₁ p => Calls.spliced_nil ?_) fun _ _ e => e)))
  obtain ⟨P₁, σ₁, a, e₁, H₁, S₁, r₁, xs, rfl, i₁, turn, fin⟩ := p
  obtain ⟨l, o, n, vs, rfl, z2, z3, z4, z5⟩ := Rep.list_inv r₁
  have hl : ∀ {P₂ : Part} {h₂ : Heap}, P₁.le P₂ → KeptIn P₂ h₂ → h₂.IsList l vs.toArray := fun le k => ⟨o, k _ _ (le _ _ z2), z3, n, z4⟩
  have hlN : l < s₁.heap.objs.size := Heap.lt_size (H₁.kept _ _ z2)
  refine call_enumerate_list (hl (Part.le_refl _) H₁.kept) fun h₂ en₂ it₂ hz₂ k₂ => wpAny_pyIter_enum en₂ ?_
  have hI : s₁.heap.get? s₁.heap.objs.size = none := fresh_size _
  have hE : s₁.heap.get? (s₁.heap.objs.size + 1) = none := by
    cases e : s₁.heap.get? (s₁.heap.objs.size + 1) with
    | none => rfl
    | some o => exact absurd (Heap.lt_size e) (Nat.not_lt.mpr (Nat.le_succ _))
  generalize hit : s₁.heap.objs.size = it at *
  generalize hen : it + 1 = en at *
  have hei : en ≠ it := by omega
  have fI := H₁.fresh hI
  have fE := H₁.fresh hE
  have lE : l ≠ en := by rw [← hen]; exact Nat.ne_of_lt (Nat.lt_succ_of_lt (hit ▸ hlN))
  have lI : l ≠ it := Nat.ne_of_lt (hit ▸ hlN)
  have m₂ : Mv c.L s₁.heap h₂ := .of_keep k₂
  have H₂ := H₁.mv m₂
  have off0 : ∀ b ∈ [en, it], s.heap.get? b = none := by
    have : ∀ b, s₁.heap.get? b = none → b ≠ c.L → ow ≠ some b → s.heap.get? b = none := fun b q n1 n2 => by
      cases q' : s.heap.get? b with
      | none => rfl
      | some o' => rw [S₁.keep _ _ q' n1 n2] at q; cases q
    intro b hb
    rcases List.mem_cons.mp hb with e | e
    · subst e; exact this _ hE fE.2.1 fE.2.2
    · rw [List.mem_singleton.mp e]; exact this _ hI fI.2.1 fI.2.2
  have hLJ : c.L ∉ [en, it] := by
    intro hb
    rcases List.mem_cons.mp hb with e | e
    · exact fE.2.1 e.symm
    · exact fI.2.1 (List.mem_singleton.mp e).symm
  have itOf : ∀ {h : Heap} {i : Nat}, h.IsListIter it l i → (h.get? it).isSome = true := fun q => by obtain ⟨o', e, _⟩ := q; rw [e]; rfl
  refine codeAny_forLoop_any (fun k s' => ∃ P₂ ow₂ σ₂ i old, Same s s' ∧ Hd c P₂ ow₂ σ₂ s'.heap ∧ Step c.L P ow s.heap P₂ ow₂ s'.heap ∧ P₁.le P₂ ∧ Guard c.L P₂ ow₂ [en, it] s'.heap ∧ IsEnum s'.heap en it ((i : Nat) : Int) old ∧ s'.heap.IsListIter it l i ∧ Inv i σ₂ ∧ i ≤ xs.length ∧ k = xs.length + 1 - i)
    ?_ (xs.length + 1) ⟨P₁, ow, σ₁, 0, .none, e₁.trans rfl, H₂, S₁.trans (H₁.step m₂), Part.le_refl _, ?_, en₂, it₂, i₁, Nat.zero_le _, rfl⟩
  · rintro k s' ⟨P₂, ow₂, σ₂, i, old, e₂, H₂, S₂, le₂, G₂, en₂, it₂, i₂, hi, rfl⟩
    have hl₂ := hl le₂ H₂.kept
    cases hx : xs[i]? with
    | none =>
      have hlen : i = xs.length := by simp at hx; omega
      refine wpAny_pyNext_enum_end ok.hd en₂ it₂ hl₂ (by simpa using z5.get_none hx) fun h₃ ex => wpAny_execs_nil ?_
      have k₃ : ∀ b o, s'.heap.get? b = some o → b ∉ [en, it] → h₃.get? b = some o := fun b o e hb => ex b o (fun q => hb (by rw [q]; exact .tail _ (.head _))) e
      exact ⟨P₂, ow₂, σ₂, .next, e₂.trans rfl, H₂.off G₂ k₃, S₂.off off0 hLJ k₃, trivial, fin _ (hlen ▸ i₂)⟩
    | some d =>
      have hlt : i < xs.length := (List.getElem?_eq_some_iff.mp hx).1
      obtain ⟨v, hv, rv⟩ := z5.get hx
      have gE := G₂ en (.head _)
      have gI := G₂ it (.tail _ (.head _))
      refine wpAny_pyNext_enum_item en₂ it₂ hl₂ (by simpa using hv) hei fun h₃ en₃ it₃ tp₃ hz₃ k₃ => ?_
      refine wpAny_letOwnedTupleGo_enum en₃ fun h₄ en₄ sb₄ => ?_
      have tE : s'.heap.objs.size ≠ en := fun q => by
        have := gE.2.2.2; rw [← q, fresh_size] at this; cases this
      have tp₄ : h₄.IsTuple s'.heap.objs.size #[.int i s'.toks, v] := ⟨_, (sb₄.2 _ tE).trans tp₃, rfl, _, rfl⟩
      refine wpAny_assign_Tuple ok.hd tp₄ rfl rfl fun h₅ ex₅ => ?_
      have old₅ : ∀ b o, h₄.get? b = some o → h₅.get? b = some o := fun b o e => ex₅ b o (Nat.ne_of_lt (Heap.lt_size e)) e
      have k₅ : ∀ b o, s'.heap.get? b = some o → b ∉ [en, it] → h₅.get? b = some o := fun b o e hb => by
        have h1 : b ≠ en := fun q => hb (by rw [q]; exact .head _)
        have h2 : b ≠ it := fun q => hb (by rw [q]; exact .tail _ (.head _))
        exact old₅ _ _ ((sb₄.2 b h1).trans (k₃ b o h1 h2 e))
      have H₅ := H₂.off G₂ k₅
      have S₅ := S₂.off off0 hLJ k₅
      have it₅ : h₅.IsListIter it l (i + 1) := (it₃.at fun o e => (sb₄.2 _ (Ne.symm hei)).trans e).at fun o e => old₅ _ _ e
      have en₅ : IsEnum h₅ en it ((i : Int) + 1) v := old₅ _ _ en₄
      have G₅ : Guard c.L P₂ ow₂ [en, it] h₅ := G₂.off fun b hb => by
        rcases List.mem_cons.mp hb with e | e
        · subst e; rw [en₅]; rfl
        · rw [List.mem_singleton.mp e]; exact itOf it₅
      refine wpAny_assignInOrder_more (wpAny_assign_Name (store_wp (s := { s' with heap := h₅, toks := s'.toks + 1 }) (av := .d (.int i)) ok hki H₅ (Rep.int _ _) rfl fun h₆ tk ow₆ H₆ S₆ => ?_))
      refine wpAny_assignInOrder_more (wpAny_assign_Name (store_wp (s := { s' with heap := h₆, toks := tk }) (av := .d d) ok hkv H₆ (Rep.mono le₂ rv) rfl fun h₇ tk' ow₇ H₇ S₇ => ?_))
      refine wpAny_assignInOrder_none ?_
      have G₆ := Guard.step G₅ S₆
      have G₇ := Guard.step G₆ S₇
      refine wpAny_mono (turn i σ₂ d hx i₂ ok { s' with heap := h₇, toks := tk' } P₂ ow₇ H₇) (fun f s₈ p => ?_) fun _ _ e => e.elim
      obtain ⟨P₈, ow₈, σ₈, f', e₈, H₈, S₈, r₈, k₈⟩ := p
      have E := e₂.trans (Same.trans (s₁ := { s' with heap := h₇, toks := tk' }) rfl e₈)
      have S := S₅.trans (S₆.trans (S₇.trans S₈))
      have up : ∀ b ∈ [en, it], ∀ o, h₅.get? b = some o → s₈.heap.get? b = some o := fun b hb o e =>
        S₈.keep _ _ (S₇.keep _ _ (S₆.keep _ _ e (G₅ b hb).2.1 (G₅ b hb).2.2.1) (G₅ b hb).2.1 (G₆ b hb).2.2.1) (G₅ b hb).2.1 (G₇ b hb).2.2.1
      have again : Inv (i + 1) σ₈ → ∃ m, m < xs.length + 1 - i ∧ ∃ P₂ ow₂ σ₂ i old, Same s s₈ ∧ Hd c P₂ ow₂ σ₂ s₈.heap ∧ Step c.L P ow s.heap P₂ ow₂ s₈.heap ∧ P₁.le P₂ ∧ Guard c.L P₂ ow₂ [en, it] s₈.heap ∧ IsEnum s₈.heap en it ((i : Nat) : Int) old ∧ s₈.heap.IsListIter it l i ∧ Inv i σ₂ ∧ i ≤ xs.length ∧ m = xs.length + 1 - i := fun hi' =>
        ⟨xs.length + 1 - (i + 1), by omega, P₈, ow₈, σ₈, i + 1, v, E, H₈, S, Part.le_trans le₂ (Part.le_trans S₆.le (Part.le_trans S₇.le S₈.le)), Guard.step G₇ S₈, by
          have : ((i + 1 : Nat) : Int) = (i : Int) + 1 := by push_cast; rfl
          rw [this]; exact up _ (.head _) _ en₅, it₅.at fun o e => up _ (.tail _ (.head _)) o e, hi', hlt, rfl⟩
      cases f <;> cases f' <;> try exact r₈.elim
      · exact again k₈
      · exact ⟨P₈, ow₈, σ₈, .next, E, H₈, S, trivial, k₈⟩
      · exact again k₈
      · exact ⟨P₈, ow₈, σ₈, _, E, H₈, S, r₈, k₈⟩
  · intro b hb
    rcases List.mem_cons.mp hb with e | e
    · subst e; exact ⟨fE.1, fE.2.1, fE.2.2, by rw [en₂]; rfl⟩
    · rw [List.mem_singleton.mp e]; exact ⟨fI.1, fI.2.1, fI.2.2, itOf it₂⟩
end


/-- an expression that leaves the names as they are, and its value -/
noncomputable def EvP (c : Cx) (e : Expr) (σ : St) (a : AV) : Prop := ∀ K : AV → St → Prop, K a σ → Ev c e σ K
noncomputable def TsP (c : Cx) (e : Expr) (σ : St) (b : Bool) : Prop := ∀ T : Bool → St → Prop, T b σ → EvT c e σ T
noncomputable def OpP (c : Cx) (f : Value → Value → Sem Value) (a b : AV) (σ : St) (r : AV) : Prop := ∀ K : AV → St → Prop, K r σ → Op2 c f a b σ K
noncomputable def SbP (c : Cx) (a b : AV) (σ : St) (r : AV) : Prop := ∀ K : AV → St → Prop, K r σ → Sub c a b σ K
noncomputable def EvLP (c : Cx) (ts : List (Bool × Sem Value)) (σ : St) (as : List AV) : Prop := ∀ K : List AV → St → Prop, K as σ → EvL c ts σ K

section
variable {c : Cx} {σ : St}
theorem p_local {x : Str} {pos : Pos} {a : AV} (hl : σ.vars.lookup x = some a) (hk : c.sc.names.lookup x = some .local) (hd : (x == ("__debug__" : Str)) = false) : EvP c (.Name x pos) σ a := fun _ k => Ev_local hl hk hd k
theorem p_own {x : Str} {pos : Pos} {ds : List PyData} (ho : σ.own = some (x, ds)) (hk : c.sc.names.lookup x = some .local) (hd : (x == ("__debug__" : Str)) = false) : EvP c (.Name x pos) σ .own := fun _ k => Ev_own ho hk hd k
theorem p_const {x : Str} {pos : Pos} {i : Int} (hx : consts.lookup x = some i) (hk : c.sc.names.lookup x = some .globalImplicit) (hd : (x == ("__debug__" : Str)) = false) : EvP c (.Name x pos) σ (.d (.int i)) := fun _ k => Ev_const hx hk hd k
theorem p_exact {pos : Pos} (hk : c.sc.names.lookup ("EXACT_TOKEN_TYPES" : Str) = some .globalImplicit) : EvP c (.Name "EXACT_TOKEN_TYPES" pos) σ (.ds exactF) := fun _ k => Ev_exact hk k
theorem p_int {i : Int} {k : Nat} {pos : Pos} : EvP c (.Constant (.int i) k pos) σ (.d (.int i)) := fun _ k => Ev_int k
theorem p_str {x : Str} {k : Nat} {pos : Pos} : EvP c (.Constant (.str x) k pos) σ (.d (.str x)) := fun _ k => Ev_str k
theorem p_bool {b : Bool} {k : Nat} {pos : Pos} : EvP c (.Constant (.bool b) k pos) σ (.d (.bool b)) := fun _ k => Ev_bool k
theorem p_none {k : Nat} {pos : Pos} : EvP c (.Constant .none k pos) σ (.d .none) := fun _ k => Ev_none k
theorem p_bin {l r : Expr} {op : Operator} {pos : Pos} {a b z : AV} (h1 : EvP c l σ a) (h2 : EvP c r σ b) (h3 : OpP c (binaryOp op) a b σ z) : EvP c (.BinOp l op r pos) σ z := fun _ k => Ev_BinOp (h1 _ (h2 _ (h3 _ k)))
theorem p_cmp {l r : Expr} {op : CmpOp} {pos : Pos} {a b z : AV} (h1 : EvP c l σ a) (h2 : EvP c r σ b) (h3 : OpP c (compareOp op) a b σ z) (hm : behindInMarks op r = false) : EvP c (.Compare l [op] [r] pos) σ z := fun _ k => Ev_Compare hm (h1 _ (h2 _ (h3 _ k)))
theorem p_neg {i : Int} {k : Nat} {p pos : Pos} : EvP c (.UnaryOp .USub (.Constant (.int i) k p) pos) σ (.d (.int (-i))) := fun _ k => Ev_UnaryOp (Ev_int (neg_i k))
theorem p_sub {value slice : Expr} {pos : Pos} {a b z : AV} (h1 : EvP c value σ a) (h2 : EvP c slice σ b) (h3 : SbP c a b σ z) (hs : ∀ o i, subscripted slice false o i = operate [o, i] (getItem o i)) : EvP c (.Subscript value slice pos) σ z := fun _ k => Ev_Subscript hs (h1 _ (h2 _ (h3 _ k)))
theorem p_if {t x y : Expr} {pos : Pos} {b : Bool} {d e : PyData} (h1 : TsP c t σ b) (h2 : b = true → EvP c x σ (.d d)) (h3 : b = false → EvP c y σ (.d e)) : EvP c (.IfExp t x y pos) σ (.d (bif b then d else e)) := fun _ k => Ev_IfExp (h1 _ (by
  cases b with
  | true => exact h2 rfl _ k
  | false => exact h3 rfl _ k))
theorem p_and {x y : Expr} {pos : Pos} {a b : Bool} (h1 : EvP c x σ (.d (.bool a))) (h2 : a = true → EvP c y σ (.d (.bool b))) : EvP c (.BoolOp .And [x, y] pos) σ (.d (.bool (a && b))) := fun _ k => Ev_And (h1 _ (tr_b (by
  cases a with
  | true => exact h2 rfl _ k
  | false => exact k)))
theorem p_or {x y : Expr} {pos : Pos} {a b : Bool} (h1 : EvP c x σ (.d (.bool a))) (h2 : a = false → EvP c y σ (.d (.bool b))) : EvP c (.BoolOp .Or [x, y] pos) σ (.d (.bool (a || b))) := fun _ k => Ev_Or (h1 _ (tr_b (by
  cases a with
  | true => exact k
  | false => exact h2 rfl _ k)))
theorem pl_nil : EvLP c [] σ [] := fun _ k => EvL_nil k
theorem pl_cons {x : Expr} {rest : List (Bool × Sem Value)} {a : AV} {as : List AV} (h1 : EvP c x σ a) (h2 : EvLP c rest σ as) : EvLP c ((false, eval x c.env) :: rest) σ (a :: as) := fun _ k => EvL_cons (h1 _ (h2 _ k))
theorem p_tuple {es : List Expr} {k : Nat} {pos : Pos} {as : List AV} {ds : List PyData} (h1 : EvLP c (backTo pos (starEach es c.env)) σ as) (h2 : datas as = some ds) (h3 : as.length ≤ sizeLine) : EvP c (.Tuple es k pos) σ (.d (.tuple ds)) := fun _ k => Ev_Tuple (h1 _ ⟨h3, ds, h2, k⟩)
theorem p_list {es : List Expr} {pos : Pos} {as : List AV} {ds : List PyData} (h1 : EvLP c (backTo pos (starEach es c.env)) σ as) (h2 : datas as = some ds) (h3 : as.length ≤ sizeLine) : EvP c (.List es pos) σ (.d (.list ds)) := fun _ k => Ev_List (h1 _ ⟨h3, ds, h2, k⟩)
theorem p_call {f : Str} {p pos : Pos} {es : List Expr} {ps : Arguments} {bd : List Stmt} {sc : Scope} {as : List AV} {r : PyData} {k : Nat} (h1 : EvLP c (backTo pos (starEach es c.env)) σ as) (C : Con c.g f k as r) (hkr : k ≤ c.room) (hpl : as.all AV.plain = true)
    (hd : (f, ps, bd, sc) ∈ funs) (hk : c.sc.names.lookup f = some .globalImplicit) (hdb : (f == ("__debug__" : Str)) = false) (hn : ∃ x r, backTo pos (starEach es c.env) = (false, x) :: r) : EvP c (.Call (.Name f p) es [] pos) σ (.d r) :=
  fun _ kk => Ev_call hd hk hdb hn (h1 _ ⟨k, r, C, hkr, hpl, kk⟩)
theorem p_callL {f : Str} {p pos : Pos} {es : List Expr} {ps : Arguments} {bd : List Stmt} {sc : Scope} {as : List AV} {r : PyData} {k : Nat} (h1 : EvLP c (backTo pos (starEach es c.env)) σ as) (C : Con c.g f k (as.map (AV.seen σ)) r) (hkr : k ≤ c.room) (hpl : scalar r = true)
    (hd : (f, ps, bd, sc) ∈ funs) (hk : c.sc.names.lookup f = some .globalImplicit) (hdb : (f == ("__debug__" : Str)) = false) (hn : ∃ x r, backTo pos (starEach es c.env) = (false, x) :: r) : EvP c (.Call (.Name f p) es [] pos) σ (.d r) :=
  fun _ kk => Ev_callL hd hk hdb hn (h1 _ ⟨k, r, C, hkr, hpl, kk⟩)
/-- len, min, max, sum -/
noncomputable def BcP (c : Cx) (x : Str) (as : List AV) (σ : St) (r : AV) : Prop := ∃ id, bootBuiltins x = some (.builtin id) ∧ x ∈ (["len", "min", "max", "sum", "enumerate"] : List Str) ∧ ∀ K : AV → St → Prop, K r σ → BCall c (.builtin id) as σ K
theorem p_bi {x : Str} {p pos : Pos} {es : List Expr} {as : List AV} {r : AV} (h1 : EvLP c (backTo pos (starEach es c.env)) σ as) (h2 : BcP c x as σ r) (hk : c.sc.names.lookup x = some .globalImplicit) (hdb : (x == ("__debug__" : Str)) = false)
    (hn : ∃ x r, backTo pos (starEach es c.env) = (false, x) :: r) (hpl : (backTo pos (starEach es c.env)).any (·.1) = false) : EvP c (.Call (.Name x p) es [] pos) σ r := by
  obtain ⟨id, b, m, h⟩ := h2
  exact fun _ k => Ev_bi m b hk hdb hn hpl (h1 _ (h _ k))
theorem b_len {a : AV} {xs : List PyData} (ha : AsList σ a = some xs) (hx : xs.length < 2 ^ 63) : BcP c "len" [a] σ (.d (.int xs.length)) := ⟨_, PyProof.Rows.bootS_len, by decide, fun _ k => len_l ha hx k⟩
theorem b_lens {x : Str} (hx : x.length < 2 ^ 63) : BcP c "len" [.d (.str x)] σ (.d (.int x.length)) := ⟨_, PyProof.Rows.bootS_len, by decide, fun _ k => len_s hx k⟩
theorem b_min {i j : Int} : BcP c "min" [.d (.int i), .d (.int j)] σ (.d (.int (min i j))) := ⟨_, PyProof.Rows.boot_min, by decide, fun _ k => min_2 k⟩
theorem b_max {i j : Int} : BcP c "max" [.d (.int i), .d (.int j)] σ (.d (.int (max i j))) := ⟨_, PyProof.Rows.boot_max, by decide, fun _ k => max_2 k⟩
theorem ints_are {P : Part} : ∀ {vs : List Value} {ns : List Int}, RepL P vs (ns.map .int) → IntsAre vs ns
  | _, [], h => by cases h; exact .nil
  | _, n :: r, h => by
    cases h with
    | cons h1 h2 => obtain ⟨t, rfl⟩ := Rep.int_inv h1; exact .cons _ _ (ints_are h2)
theorem b_sum {ns : List Int} : BcP c "sum" [.d (.list (ns.map .int))] σ (.d (.int ns.sum)) := ⟨_, PyProof.Rows.boot_sum, by decide, fun K k ok s P ow H vs rs => by
  cases rs with
  | cons r rest =>
    cases rest
    obtain ⟨l, us, rfl, hl, q⟩ := asList H r rfl
    have hi := ints_are q
    obtain ⟨xs, hxs⟩ := hi.allInts.items
    rw [hxs] at hl
    refine sum_intListG ok.hd hl fun h' tk t' kp => ?_
    have e : preSum (numAt xs) xs.size = ns.sum := by
      rw [preSum_eq, List.take_of_length_le (by simp), ← nums_intItems, ← hxs]
      exact congrArg List.sum hi.numsOf
    rw [e]
    exact PostE.mv (b := AV.d (.int ns.sum)) H (Mv.of_keep kp) (Rep.int _ _) k⟩

/-- tests -/
theorem t_of {e : Expr} {b : Bool} (h : EvP c e σ (.d (.bool b))) (ht : isTrue e c.env (eval e c.env) = (do let v ← eval e c.env; standAt e.pos; holding [v] (truthy v))) : TsP c e σ b := fun _ k => EvT_value ht (h _ (tr_b k))
theorem t_cmp {l r : Expr} {op : CmpOp} {pos : Pos} {a b : AV} {z : Bool} (h1 : EvP c l σ a) (h2 : EvP c r σ b) (h3 : OpP c (compareOp op) a b σ (.d (.bool z))) (hm : behindInMarks op r = false) : TsP c (.Compare l [op] [r] pos) σ z := fun _ k => EvT_Compare hm (h1 _ (h2 _ (h3 _ (tr_b k))))
theorem t_list {e : Expr} {a : AV} {xs : List PyData} (h : EvP c e σ a) (ha : AsList σ a = some xs) (hx : xs.length < 2 ^ 63) (ht : isTrue e c.env (eval e c.env) = (do let v ← eval e c.env; standAt e.pos; holding [v] (truthy v))) : TsP c e σ (!xs.isEmpty) := fun _ k => EvT_value ht (h _ (tr_l ha hx k))
theorem t_str {e : Expr} {x : Str} (h : EvP c e σ (.d (.str x))) (hx : x.length < 2 ^ 63) (ht : isTrue e c.env (eval e c.env) = (do let v ← eval e c.env; standAt e.pos; holding [v] (truthy v))) : TsP c e σ (decide (x.length ≠ 0)) := fun _ k => EvT_value ht (h _ (tr_s hx k))
theorem t_not {x : Expr} {pos : Pos} {b : Bool} (h : TsP c x σ b) : TsP c (.UnaryOp .Not x pos) σ (!b) := fun _ k => EvT_Not (h _ k)
noncomputable def AlP (c : Cx) (op : BoolOp) (xs : List Expr) (σ : St) (b : Bool) : Prop := ∀ T : Bool → St → Prop, T b σ → EvA c op xs σ T
theorem t_bool {op : BoolOp} {xs : List Expr} {pos : Pos} {b : Bool} (h : AlP c op xs σ b) : TsP c (.BoolOp op xs pos) σ b := fun _ k => EvT_BoolOp (h _ k)
theorem al_andN : AlP c .And [] σ true := fun _ k => EvA_and_nil k
theorem al_orN : AlP c .Or [] σ false := fun _ k => EvA_or_nil k
theorem al_and {x : Expr} {xs : List Expr} {a b : Bool} (h1 : TsP c x σ a) (h2 : a = true → AlP c .And xs σ b) : AlP c .And (x :: xs) σ (a && b) := fun _ k => EvA_and (h1 _ (by
  cases a with
  | true => exact h2 rfl _ k
  | false => exact k))
theorem al_or {x : Expr} {xs : List Expr} {a b : Bool} (h1 : TsP c x σ a) (h2 : a = false → AlP c .Or xs σ b) : AlP c .Or (x :: xs) σ (a || b) := fun _ k => EvA_or (h1 _ (by
  cases a with
  | true => exact k
  | false => exact h2 rfl _ k))
/-- i <= e <= j -/
theorem t_chain {l r₁ r₂ : Expr} {pos : Pos} {i j k : Int} (h1 : EvP c l σ (.d (.int i))) (h2 : EvP c r₁ σ (.d (.int j))) (h3 : EvP c r₂ σ (.d (.int k))) (hm : lastMarks [.LtE, .LtE] [r₁, r₂] = false) :
    TsP c (.Compare l [.LtE, .LtE] [r₁, r₂] pos) σ (decide (i ≤ j) && decide (j ≤ k)) := by
  intro T q ok s P ow H
  refine isTrue_chain (wpAny_mono (h1 (fun a σ' => a = .d (.int i) ∧ σ' = σ) ⟨rfl, rfl⟩ ok s P ow H) (fun u s₁ p => ?_) fun _ _ e => e) hm
  obtain ⟨P₁, σ₁, a, e₁, H₁, S₁, r₁, rfl, rfl⟩ := p
  obtain ⟨t, rfl⟩ := Rep.int_inv r₁
  refine test_link (wpAny_mono (h2 (fun a σ' => a = .d (.int j) ∧ σ' = σ₁) ⟨rfl, rfl⟩ ok s₁ P₁ ow H₁) (fun v s₂ p => ?_) fun _ _ e => e)
  obtain ⟨P₂, σ₂, b, e₂, H₂, S₂, r₂, rfl, rfl⟩ := p
  obtain ⟨t', rfl⟩ := Rep.int_inv r₂
  refine PyProof.Rows.le_int (wpAny_truthy_bool ?_)
  by_cases hij : i ≤ j
  · rw [decide_eq_true hij] at q ⊢
    simp only [if_true]
    refine test_last (wpAny_mono (h3 (fun a σ' => a = .d (.int k) ∧ σ' = σ₂) ⟨rfl, rfl⟩ ok s₂ P₂ ow H₂) (fun v s₃ p => ?_) fun _ _ e => e)
    obtain ⟨P₃, σ₃, b, e₃, H₃, S₃, r₃, rfl, rfl⟩ := p
    obtain ⟨t'', rfl⟩ := Rep.int_inv r₃
    exact PyProof.Rows.le_int (wpAny_truthy_bool ⟨P₃, σ₃, _, e₁.trans (e₂.trans e₃), H₃, S₁.trans (S₂.trans S₃), rfl, q⟩)
  · rw [decide_eq_false hij] at q ⊢
    simp only [Bool.false_eq_true, if_false]
    exact ⟨P₂, σ₂, _, e₁.trans e₂, H₂, S₁.trans S₂, rfl, q⟩

/-- operations -/
theorem o_add {i j : Int} : OpP c (binaryOp .Add) (.d (.int i)) (.d (.int j)) σ (.d (.int (i + j))) := fun _ k => add_i k
theorem o_sub {i j : Int} : OpP c (binaryOp .Sub) (.d (.int i)) (.d (.int j)) σ (.d (.int (i - j))) := fun _ k => sub_i k
theorem o_mul2 {j : Int} : OpP c (binaryOp .Mult) (.d (.int 2)) (.d (.int j)) σ (.d (.int (2 * j))) := fun _ k => mul2_i k
theorem o_mod {i j : Int} (hj : 0 < j) : OpP c (binaryOp .Mod) (.d (.int i)) (.d (.int j)) σ (.d (.int (i % j))) := fun _ k => mod_i hj k
theorem o_div {i j : Int} (hj : 0 < j) (hs : j < 1000) : OpP c (binaryOp .FloorDiv) (.d (.int i)) (.d (.int j)) σ (.d (.int (i / j))) := fun _ k => div_i hj (by
  unfold Builtin.divisionGoesByPylong
  have : (if j == 0 then 0 else j.natAbs.log2 / 30 + 1) ≤ 300 := by
    split
    · omega
    · have : j.natAbs.log2 ≤ j.natAbs := Nat.log2_le_self _
      omega
  simp only [Bool.and_eq_false_iff, decide_eq_false_iff_not]
  left; omega) k
theorem o_adds {x y : Str} (hs : x.length + y.length ≤ sizeLine) : OpP c (binaryOp .Add) (.d (.str x)) (.d (.str y)) σ (.d (.str (x ++ y))) := fun _ k => add_s hs k
theorem o_addl {x y : AV} {xs ys : List PyData} (hx : AsList σ x = some xs) (hy : AsList σ y = some ys) (hs : xs.length + ys.length ≤ sizeLine) : OpP c (binaryOp .Add) x y σ (.d (.list (xs ++ ys))) := fun _ k => add_l hx hy hs k
theorem o_lt {i j : Int} : OpP c (compareOp .Lt) (.d (.int i)) (.d (.int j)) σ (.d (.bool (decide (i < j)))) := fun _ k => lt_i k
theorem o_le {i j : Int} : OpP c (compareOp .LtE) (.d (.int i)) (.d (.int j)) σ (.d (.bool (decide (i ≤ j)))) := fun _ k => le_i k
theorem o_gt {i j : Int} : OpP c (compareOp .Gt) (.d (.int i)) (.d (.int j)) σ (.d (.bool (decide (j < i)))) := fun _ k => gt_i k
theorem o_ge {i j : Int} : OpP c (compareOp .GtE) (.d (.int i)) (.d (.int j)) σ (.d (.bool (decide (j ≤ i)))) := fun _ k => ge_i k
theorem o_eq {i j : Int} : OpP c (compareOp .Eq) (.d (.int i)) (.d (.int j)) σ (.d (.bool (decide (i = j)))) := fun _ k => eq_i k
theorem o_ne {i j : Int} : OpP c (compareOp .NotEq) (.d (.int i)) (.d (.int j)) σ (.d (.bool (decide (i ≠ j)))) := fun _ k => ne_i k
theorem o_eqs {x y : Str} : OpP c (compareOp .Eq) (.d (.str x)) (.d (.str y)) σ (.d (.bool (x == y))) := fun _ k => eq_s k
theorem o_ins {x y : Str} : OpP c (compareOp .In) (.d (.str y)) (.d (.str x)) σ (.d (.bool !(Builtin.Str.occurrences x y 0 x.length 1).isEmpty)) := fun _ k => in_s k
theorem o_indi {i : Int} {f : Int → Option PyData} : OpP c (compareOp .In) (.d (.int i)) (.di f) σ (.d (.bool (f i).isSome)) := fun _ k => in_di k
theorem o_nindi {i : Int} {f : Int → Option PyData} : OpP c (compareOp .NotIn) (.d (.int i)) (.di f) σ (.d (.bool (!(f i).isSome))) := fun _ k => notIn_di k
theorem o_ninds {x : Str} {f : Str → Option PyData} : OpP c (compareOp .NotIn) (.d (.str x)) (.ds f) σ (.d (.bool (!(f x).isSome))) := fun _ k => notIn_ds k
theorem any_ints {i : Int} {vs : List Value} {xs : List Int} (hi : IntsAre vs xs) : (vs.any fun y => match y with | .int m _ => m == i | _ => false) = xs.any fun y => y == i := by
  induction hi with
  | nil => rfl
  | cons n t _ ih => simp only [List.any_cons, ih]
theorem o_int {i : Int} {xs : List Int} : OpP c (compareOp .In) (.d (.int i)) (.d (.tuple (xs.map .int))) σ (.d (.bool (xs.any fun y => y == i))) := by
  intro K k ok s P ow H u v ru rv
  obtain ⟨t, rfl⟩ := Rep.int_inv ru
  obtain ⟨a, o, n, vs, rfl, e2, e3, e4, r⟩ := Rep.tuple_inv rv
  have hi := ints_are r
  have hx : ∀ y ∈ vs, ∃ m t, y = .int m t := fun y hy => by
    obtain ⟨m, t, e⟩ := hi.allInts y (by simpa using hy); exact ⟨m, t, e⟩
  refine PySem.SeqAt.in_tupleAt (fun y => match y with | .int m _ => m == i | _ => false) ⟨o, H.kept _ _ e2, e3, n, e4⟩ (fun y hy => ?_) ?_
  · obtain ⟨m, t', rfl⟩ := hx y (by simpa using hy)
    exact (PySem.MeetsSeq.EqGives.int m i t' t).at _ _
  · have e : (vs.toArray.any fun y => match y with | .int m _ => m == i | _ => false) = xs.any fun y => y == i := by
      rw [List.any_toArray]
      exact any_ints hi
    rw [e]
    exact PostE.at (b := AV.d (.bool _)) H (Rep.bool _) k
/-- items -/
theorem s_l {a : AV} {xs : List PyData} {i : Int} {x : PyData} (ha : AsList σ a = some xs) (h0 : 0 ≤ i) (h1 : i < 2 ^ 63) (hx : xs[i.toNat]? = some x) : SbP c a (.d (.int i)) σ (.d x) := fun _ k => sub_l ha h0 h1 hx k
theorem s_ln {a : AV} {xs : List PyData} {k : Nat} {x : PyData} {n : Int} (ha : AsList σ a = some xs) (hn : n = -((k : Int) + 1)) (h1 : k < 1000) (hk : k < xs.length) (hx : xs[xs.length - 1 - k]? = some x) : SbP c a (.d (.int n)) σ (.d x) := fun _ q => sub_ln ha hn h1 hk hx q
theorem s_t {xs : List PyData} {i : Int} {j : Nat} {x : PyData} (hi : i = (j : Int)) (h1 : j < 1000000) (hx : xs[j]? = some x) : SbP c (.d (.tuple xs)) (.d (.int i)) σ (.d x) := fun _ k => sub_t hi h1 hx k
theorem s_s {x : Str} {i : Int} {ch : Nat} (h0 : 0 ≤ i) (h1 : i < 2 ^ 62) (hx : x.cps.toList[i.toNat]? = some ch) : SbP c (.d (.str x)) (.d (.int i)) σ (.d (.str ⟨#[ch]⟩)) := fun _ k => sub_s h0 h1 hx k
theorem s_di {i : Int} {f : Int → Option PyData} {x : PyData} (hx : f i = some x) : SbP c (.di f) (.d (.int i)) σ (.d x) := fun _ k => sub_di hx k
end


/-- what is left of a block -/
noncomputable def Seq (c : Cx) (rest : List Stmt) (K : Fl → St → Prop) : Fl → St → Prop := fun f σ' => match f with
  | .next => Ex c rest σ' K
  | f => K f σ'
section
variable {c : Cx} {σ : St} {K : Fl → St → Prop} {rest : List Stmt}
theorem x_cons {st : Stmt} (h : Ex1 c st σ (Seq c rest K)) : Ex c (st :: rest) σ K := Ex_cons h
theorem x_nil (h : Ex c rest σ K) : Ex c [] σ (Seq c rest K) := Ex_nil (K := Seq c rest K) h
theorem x_if {t : Expr} {b o : List Stmt} {pos : Pos} {q : Bool} (h : TsP c t σ q) (h1 : q = true → Ex c b σ (Seq c rest K)) (h2 : q = false → Ex c o σ (Seq c rest K)) : Ex c (.If t b o pos :: rest) σ K :=
  x_cons (Ex1_If (h _ (by
    cases q with
    | true => exact h1 rfl
    | false => exact h2 rfl)))
/-- an if without else -/
theorem x_ifn {t : Expr} {b : List Stmt} {pos : Pos} {q : Bool} (h : TsP c t σ q) (h1 : q = true → Ex c b σ (Seq c rest K)) (h2 : q = false → Ex c rest σ K) : Ex c (.If t b [] pos :: rest) σ K :=
  x_if h h1 fun e => x_nil (h2 e)
theorem x_set {x : Str} {pos' pos : Pos} {e : Expr} {a : AV} (h : EvP c e σ a) (hk : c.sc.names.lookup x = some .local) (hp : a.plain = true) (hs : swapsWith e (some (.Name x pos')) pos.line c.env = pure false)
    (h2 : Ex c rest (σ.set x a) K) : Ex c (.Assign [.Name x pos'] e pos :: rest) σ K := x_cons (Ex1_Assign hk hs (h _ ⟨hp, h2⟩))
theorem x_ret {e : Expr} {pos : Pos} {a : AV} (h : EvP c e σ a) (h2 : K (.ret a) σ) : Ex c (.Return (some e) pos :: rest) σ K := x_cons (Ex1_Return (h _ h2))
theorem x_aug {x : Str} {pos' pos : Pos} {e : Expr} {i j : Int} (hl : σ.vars.lookup x = some (.d (.int i))) (h : EvP c e σ (.d (.int j))) (hk : c.sc.names.lookup x = some .local)
    (h2 : Ex c rest (σ.set x (.d (.int (i + j)))) K) : Ex c (.AugAssign (.Name x pos') .Add e pos :: rest) σ K := x_cons (Ex1_Aug hk hl (h _ ⟨j, rfl, h2⟩))
/-- a fresh list, owned -/
noncomputable def EvNP (c : Cx) (e : Expr) (σ : St) (ds : List PyData) : Prop := ∀ K : List PyData → St → Prop, K ds σ → EvN c e σ K
theorem n_list {es : List Expr} {pos : Pos} {as : List AV} {ds : List PyData} (h1 : EvLP c (backTo pos (starEach es c.env)) σ as) (h2 : datas as = some ds) (h3 : as.length ≤ sizeLine) : EvNP c (.List es pos) σ ds := fun _ k => EvN_List (h1 _ ⟨h3, ds, h2, k⟩)
theorem n_add {l r : Expr} {pos : Pos} {a b : AV} {xs ys : List PyData} (h1 : EvP c l σ a) (h2 : EvP c r σ b) (hx : AsList σ a = some xs) (hy : AsList σ b = some ys) (hs : xs.length + ys.length ≤ sizeLine) : EvNP c (.BinOp l .Add r pos) σ (xs ++ ys) :=
  fun _ k => EvN_BinOp (h1 _ (h2 _ (addN hx hy hs k)))
theorem x_own {x : Str} {pos' pos : Pos} {e : Expr} {ds : List PyData} (h : EvNP c e σ ds) (hk : c.sc.names.lookup x = some .local) (hs : swapsWith e (some (.Name x pos')) pos.line c.env = pure false)
    (h2 : Ex c rest (σ.setOwn x ds) K) : Ex c (.Assign [.Name x pos'] e pos :: rest) σ K := x_cons (Ex1_AssignN hk hs (h _ h2))
/-- x.append(e) -/
theorem x_append {x : Str} {p apos pos pos' : Pos} {e : Expr} {ds : List PyData} {d : PyData} (ho : σ.own = some (x, ds)) (h : EvP c e σ (.d d)) (hz : ds.length < sizeLine) (hk : c.sc.names.lookup x = some .local) (hd : (x == ("__debug__" : Str)) = false)
    (hfew : ((backTo pos (starEach [e] c.env)).all (fun x => !x.1) && (backToKw pos (keywordEach [] c.env)).all (fun x => x.1.isSome) && decide (([e] : List Expr).length + ([] : List Keyword).length + (if ([] : List Keyword).isEmpty then 0 else 1) < 30)) = true)
    (hline : (apos.endLine == pos.line) = true) (htr : backTo pos (starEach [e] c.env) = [(false, eval e c.env)]) (hs : swapsWith (.Call (.Attribute (.Name x p) "append" apos) [e] [] pos) none pos'.line c.env = pure false) (hi : interactive c.env = false)
    (h2 : Ex c rest { σ with own := some (x, ds ++ [d]) } K) : Ex c (.Expr (.Call (.Attribute (.Name x p) "append" apos) [e] [] pos) pos' :: rest) σ K :=
  x_cons (Ex1_Expr hs hi (Ev_append ho hk hd hfew hline htr (h _ ⟨d, ds, rfl, ho, hz, h2⟩)))
theorem x_for {x : Str} {px pos : Pos} {iter : Expr} {body : List Stmt} {xs : List PyData} (Inv : Nat → St → Prop) (h : EvP c iter σ (.d (.list xs))) (hk : c.sc.names.lookup x = some .local) (hs : ∀ v, foldedSetIterable iter c.env v = pure v)
    (h0 : Inv 0 σ) (turn : ∀ i σ d, xs[i]? = some d → Inv i σ → Ex c body (σ.set x (.d d)) (LoopEnd (Seq c rest K) (Inv (i + 1)))) (fin : ∀ σ, Inv xs.length σ → Ex c rest σ K) : Ex c (.For (.Name x px) iter body [] pos :: rest) σ K :=
  x_cons (Ex1_For hk hs Inv (h _ ⟨xs, rfl, h0, turn, fin⟩))
theorem x_enum {xi xv : Str} {pi pv pt np cp pos : Pos} {x1 : Nat} {ie : Expr} {body : List Stmt} {xs : List PyData} (Inv : Nat → St → Prop) (h : EvP c ie σ (.d (.list xs))) (hki : c.sc.names.lookup xi = some .local) (hkv : c.sc.names.lookup xv = some .local) (hke : c.sc.names.lookup ("enumerate" : Str) = some .globalImplicit)
    (hs : ∀ v, foldedSetIterable (.Call (.Name "enumerate" np) [ie] [] cp) c.env v = pure v) (htr : backTo cp (starEach [ie] c.env) = [(false, eval ie c.env)])
    (h0 : Inv 0 σ) (turn : ∀ (i : Nat) σ d, xs[i]? = some d → Inv i σ → Ex c body ((σ.set xi (.d (.int i))).set xv (.d d)) (LoopEnd (Seq c rest K) (Inv (i + 1)))) (fin : ∀ σ, Inv xs.length σ → Ex c rest σ K) :
    Ex c (.For (.Tuple [.Name xi pi, .Name xv pv] x1 pt) (.Call (.Name "enumerate" np) [ie] [] cp) body [] pos :: rest) σ K :=
  x_cons (Ex1_ForEnum hki hkv hke hs htr Inv (h _ ⟨xs, rfl, h0, turn, fin⟩))
theorem x_while {t : Expr} {body : List Stmt} {pos : Pos} (Inv : Nat → St → Prop) (n : Nat) (h0 : Inv n σ)
    (turn : ∀ n σ, Inv n σ → ∃ b, TsP c t σ b ∧ (b = true → Ex c body σ (LoopEnd (Seq c rest K) fun σ₂ => ∃ m, m < n ∧ Inv m σ₂)) ∧ (b = false → Ex c rest σ K)) : Ex c (.While t body [] pos :: rest) σ K :=
  x_cons (Ex1_While Inv n h0 fun n σ hi => by
    obtain ⟨b, ht, h1, h2⟩ := turn n σ hi
    refine ht _ ?_
    cases b with
    | false => exact h2 rfl
    | true => exact RunS.mono (h1 rfl) fun f σ' q => by cases f <;> exact q)
theorem x_unpack {x y : Str} {px py tp pos : Pos} {k : Nat} {e : Expr} {d d' : PyData} (h : EvP c e σ (.d (.tuple [d, d']))) (hx : c.sc.names.lookup x = some .local) (hy : c.sc.names.lookup y = some .local)
    (hs : swapsWithSole [.Tuple [.Name x px, .Name y py] k tp] e pos.line c.env = pure false) (hw : swappedStores [.Tuple [.Name x px, .Name y py] k tp] e c.env = pure none)
    (h2 : Ex c rest ((σ.set x (.d d)).set y (.d d')) K) : Ex c (.Assign [.Tuple [.Name x px, .Name y py] k tp] e pos :: rest) σ K := x_cons (Ex1_Unpack2 hx hy hs hw (h _ ⟨d, d', rfl, h2⟩))
theorem x_forget {b : List Stmt} (vs : List (Str × AV)) (hv : ∀ p ∈ vs, σ.vars.lookup p.1 = some p.2) (h : Ex c b ⟨vs, σ.own⟩ K) : Ex c b σ K :=
  Ex_forget ⟨vs, σ.own⟩ (fun p hp => mem_of_lookup (hv p hp)) rfl h
end
theorem ret_i {i j : Int} (h : i = j) : Fl.ret (.d (.int i)) = Fl.ret (.d (.int j)) := by rw [h]
theorem len1 {α β : Type} {a : β} {vs : List α} (h : vs.length = [a].length) : ∃ x, vs = [x] := by
  match vs, h with
  | [x], _ => exact ⟨x, rfl⟩
theorem len2 {α β : Type} {a b : β} {vs : List α} (h : vs.length = [a, b].length) : ∃ x y, vs = [x, y] := by
  match vs, h with
  | [x, y], _ => exact ⟨x, y, rfl⟩
theorem len3 {α β : Type} {a b c : β} {vs : List α} (h : vs.length = [a, b, c].length) : ∃ x y z, vs = [x, y, z] := by
  match vs, h with
  | [x, y, z], _ => exact ⟨x, y, z, rfl⟩
theorem len4 {α β : Type} {a b c d : β} {vs : List α} (h : vs.length = [a, b, c, d].length) : ∃ x y z w, vs = [x, y, z, w] := by
  match vs, h with
  | [x, y, z, w], _ => exact ⟨x, y, z, w, rfl⟩


/-- a bound of a slice -/
noncomputable def bd : Option Int → PyData
  | some i => .int i
  | none => .none
theorem isLo_bd (l : Option Int) : isLo l (.d (bd l)) := by cases l <;> rfl
section
variable {c : Cx} {σ : St}

/-- D.get(k, d) of a name D -/
theorem p_get_di {x : Str} {p apos pos : Pos} {k d : Expr} {f : Int → Option PyData} {i : Int} {y : PyData} (h1 : EvP c (.Name x p) σ (.di f)) (h2 : EvP c k σ (.d (.int i))) (h3 : EvP c d σ (.d y))
    (hline : (apos.endLine == pos.line) = true) (htr : backTo pos (starEach [k, d] c.env) = [(false, eval k c.env), (false, eval d c.env)]) : EvP c (.Call (.Attribute (.Name x p) "get" apos) [k, d] [] pos) σ (.d ((f i).getD y)) := by
  intro K kk ok s P ow H
  refine wpAny_Call_method2_late rfl hline htr (wpAny_mono (h1 (fun a σ' => a = .di f ∧ σ' = σ) ⟨rfl, rfl⟩ ok s P ow H) (fun u s₁ p => ?_) fun _ _ e => e)
  obtain ⟨P₁, σ₁, a, e₁, H₁, S₁, r₁, rfl, rfl⟩ := p
  obtain ⟨a, rfl, n, q, z1, z2⟩ := r₁
  refine ⟨"dict", "dict.get", PySem.F.plainAttrs_dict, PySem.F.slot_dict_get, PySem.F.type_dict_get, (z1 _ H₁.kept).typeIs, (z1 _ H₁.kept).noDict, wpAny_dict_get2 (knd := intKind c.g.prog c.g.w) n ?_⟩
  refine wpAny_mono (h2 (fun a σ' => a = .d (.int i) ∧ σ' = σ₁) ⟨rfl, rfl⟩ ok s₁ P₁ ow H₁) (fun u s₂ p => ?_) fun _ _ e => e
  obtain ⟨P₂, σ₂, a2, e₂, H₂, S₂, r₂, rfl, rfl⟩ := p
  obtain ⟨t, rfl⟩ := Rep.int_inv r₂
  refine wpAny_mono (h3 (fun a σ' => a = .d y ∧ σ' = σ₂) ⟨rfl, rfl⟩ ok s₂ P₂ ow H₂) (fun u s₃ p => ?_) fun _ _ e => e
  obtain ⟨P₃, σ₃, a3, e₃, H₃, S₃, r₃, rfl, rfl⟩ := p
  have le : P₁.le P₃ := Part.le_trans S₂.le S₃.le
  refine ⟨i, q, intKind_is _ _ i t, z1 _ fun b o e => H₃.kept _ _ (le _ _ e), ?_⟩
  refine ⟨P₃, σ₃, .d ((f i).getD y), e₁.trans (e₂.trans (e₃.trans rfl)), H₃, S₁.trans (S₂.trans S₃), ?_, kk⟩
  have := z2 i
  cases hq : q i <;> cases hf : f i <;> rw [hq, hf] at this
  · exact r₃
  · exact this.elim
  · exact this.elim
  · exact Rep.mono le this
theorem p_get_ds {x : Str} {p apos pos : Pos} {k d : Expr} {f : Str → Option PyData} {i : Str} {y : PyData} (h1 : EvP c (.Name x p) σ (.ds f)) (h2 : EvP c k σ (.d (.str i))) (h3 : EvP c d σ (.d y))
    (hline : (apos.endLine == pos.line) = true) (htr : backTo pos (starEach [k, d] c.env) = [(false, eval k c.env), (false, eval d c.env)]) : EvP c (.Call (.Attribute (.Name x p) "get" apos) [k, d] [] pos) σ (.d ((f i).getD y)) := by
  intro K kk ok s P ow H
  refine wpAny_Call_method2_late rfl hline htr (wpAny_mono (h1 (fun a σ' => a = .ds f ∧ σ' = σ) ⟨rfl, rfl⟩ ok s P ow H) (fun u s₁ p => ?_) fun _ _ e => e)
  obtain ⟨P₁, σ₁, a, e₁, H₁, S₁, r₁, rfl, rfl⟩ := p
  obtain ⟨a, rfl, n, q, z1, z2⟩ := r₁
  refine ⟨"dict", "dict.get", PySem.F.plainAttrs_dict, PySem.F.slot_dict_get, PySem.F.type_dict_get, (z1 _ H₁.kept).typeIs, (z1 _ H₁.kept).noDict, wpAny_dict_get2 (knd := PySem.strKind c.g.prog c.g.w) n ?_⟩
  refine wpAny_mono (h2 (fun a σ' => a = .d (.str i) ∧ σ' = σ₁) ⟨rfl, rfl⟩ ok s₁ P₁ ow H₁) (fun u s₂ p => ?_) fun _ _ e => e
  obtain ⟨P₂, σ₂, a2, e₂, H₂, S₂, r₂, rfl, rfl⟩ := p
  obtain ⟨t, rfl⟩ := Rep.str_inv r₂
  refine wpAny_mono (h3 (fun a σ' => a = .d y ∧ σ' = σ₂) ⟨rfl, rfl⟩ ok s₂ P₂ ow H₂) (fun u s₃ p => ?_) fun _ _ e => e
  obtain ⟨P₃, σ₃, a3, e₃, H₃, S₃, r₃, rfl, rfl⟩ := p
  have le : P₁.le P₃ := Part.le_trans S₂.le S₃.le
  refine ⟨i, q, PySem.strKind_is _ _ i t, z1 _ fun b o e => H₃.kept _ _ (le _ _ e), ?_⟩
  refine ⟨P₃, σ₃, .d ((f i).getD y), e₁.trans (e₂.trans (e₃.trans rfl)), H₃, S₁.trans (S₂.trans S₃), ?_, kk⟩
  have := z2 i
  cases hq : q i <;> cases hf : f i <;> rw [hq, hf] at this
  · exact r₃
  · exact this.elim
  · exact this.elim
  · exact Rep.mono le this

theorem strs_are {P : Part} : ∀ {vs : List Value} {ys : List Str}, RepL P vs (ys.map .str) → StrsAre vs ys
  | _, [], h => by cases h; exact .nil
  | _, n :: r, h => by
    cases h with
    | cons h1 h2 => obtain ⟨t, rfl⟩ := Rep.str_inv h1; exact .cons _ _ (strs_are h2)
/-- 'x'.join(e) -/
theorem p_join {x : Str} {kd : Nat} {p apos pos : Pos} {e : Expr} {ys : List Str} (h1 : EvP c e σ (.d (.list (ys.map .str)))) (hok : (ys.map (·.length)).sum + ys.length * x.length ≤ 16777216)
    (hfew : ((backTo pos (starEach [e] c.env)).all (fun x => !x.1) && (backToKw pos (keywordEach [] c.env)).all (fun x => x.1.isSome) && decide (([e] : List Expr).length + ([] : List Keyword).length + (if ([] : List Keyword).isEmpty then 0 else 1) < 30)) = true)
    (hline : (apos.endLine == pos.line) = true) (htr : backTo pos (starEach [e] c.env) = [(false, eval e c.env)]) : EvP c (.Call (.Attribute (.Constant (.str x) kd p) "join" apos) [e] [] pos) σ (.d (.str (Txt.join x ys))) := by
  intro K kk
  refine Ev_meth (T := "str") (id := "str.join") (Ks := fun av as σ₁ => av = .d (.str x) ∧ as = [.d (.list (ys.map .str))] ∧ σ₁ = σ)
    rfl hfew hline PySem.F.plainAttrs_str PySem.F.slot_str_join PySem.F.type_str_join (by rw [htr]; rfl)
    (Ev_str ⟨fun s P ow H u r => ?_, .inr ⟨⟨_, _, htr⟩, by rw [htr]; exact EvL_cons (h1 _ (EvL_nil ⟨rfl, rfl, rfl⟩))⟩⟩) ?_
  · obtain ⟨t, rfl⟩ := Rep.str_inv (show Rep P u (.str x) from r)
    exact ⟨typeIs_str _ _ _, fun _ e => nomatch e⟩
  · intro ok s P ow σ₁ av bs H u vs ru rs ⟨e1, e2, e3⟩
    subst e1; subst e2; subst e3
    obtain ⟨t, rfl⟩ := Rep.str_inv (show Rep P u (.str x) from ru)
    cases rs with
    | cons r rest =>
      cases rest
      obtain ⟨l, us, rfl, hl, q⟩ := asList H r rfl
      exact PyProof.Rows.join_list hl (by simpa using strs_are q) hok fun t' k => PostE.tok (b := AV.d (.str (Txt.join x ys))) H (Rep.str _ _) kk

/-- a piece of a text -/
theorem p_slice_s {x : Str} {n : Str} {np p pos : Pos} {lower upper : Option Expr} {l u : Option Int} (h1 : EvP c (.Name n np) σ (.d (.str x)))
    (h2 : ∀ K : AV → St → Prop, K (.d (bd l)) σ → RunE c (RV c.g) (evalPart lower c.env) σ K) (h3 : ∀ K : AV → St → Prop, K (.d (bd u)) σ → RunE c (RV c.g) (evalPart upper c.env) σ K)
    (hz : x.length ≤ sizeLine) : EvP c (.Subscript (.Name n np) (.Slice lower upper none p) pos) σ (.d (.str (Txt.slice x l u))) := by
  intro K kk ok s P ow H
  refine wpAny_Subscript_str_slice (wpAny_mono (h1 (fun a σ' => a = .d (.str x) ∧ σ' = σ) ⟨rfl, rfl⟩ ok s P ow H) (fun o s₁ p => ?_) fun _ _ e => e) (fun _ _ => rfl)
  obtain ⟨P₁, σ₁, a, e₁, H₁, S₁, r₁, rfl, rfl⟩ := p
  obtain ⟨t, rfl⟩ := Rep.str_inv r₁
  refine wpAny_mono (h2 (fun a σ' => a = .d (bd l) ∧ σ' = σ₁) ⟨rfl, rfl⟩ ok s₁ P₁ ow H₁) (fun vl s₂ p => ?_) fun _ _ e => e
  obtain ⟨P₂, σ₂, a2, e₂, H₂, S₂, r₂, rfl, rfl⟩ := p
  refine wpAny_mono (h3 (fun a σ' => a = .d (bd u) ∧ σ' = σ₂) ⟨rfl, rfl⟩ ok s₂ P₂ ow H₂) (fun vu s₃ p => ?_) fun _ _ e => e
  obtain ⟨P₃, σ₃, a3, e₃, H₃, S₃, r₃, rfl, rfl⟩ := p
  obtain ⟨l', hl1, hl2⟩ : ∃ l' : Option (Int × Tok), vl = partValue l' ∧ l'.map (·.1) = l := by
    cases l with
    | none => exact ⟨none, Rep.none_inv r₂, rfl⟩
    | some i => obtain ⟨t, e⟩ := Rep.int_inv (show Rep P₂ vl (.int i) from r₂); exact ⟨some (i, t), e, rfl⟩
  obtain ⟨u', hu1, hu2⟩ : ∃ u' : Option (Int × Tok), vu = partValue u' ∧ u'.map (·.1) = u := by
    cases u with
    | none => exact ⟨none, Rep.none_inv r₃, rfl⟩
    | some i => obtain ⟨t, e⟩ := Rep.int_inv (show Rep P₃ vu (.int i) from r₃); exact ⟨some (i, t), e, rfl⟩
  refine ⟨x, t, l', u', rfl, hl1, hu1, ?_⟩
  have m : Mv c.L s₃.heap (s₃.heap.push { cls := .type "slice", data := .fields #[vl, vu, .none] }) := .push ..
  have fin : ∀ t' tk, PostE c (RV c.g) P ow s K (.str (Txt.slice x l u) t') { s₃ with heap := s₃.heap.push { cls := .type "slice", data := .fields #[vl, vu, .none] }, toks := tk } := fun t' tk =>
    PostE.trans (e₁.trans (e₂.trans e₃)) (S₁.trans (S₂.trans S₃)) (PostE.mv (b := AV.d (.str (Txt.slice x l u))) H₃ m (Rep.str _ _) kk)
  have hsl : Txt.slice x l u = if ((none : Option (Int × Tok)).map (·.1)).getD 1 == 1 && (slicePicked x l' u' none).length == x.length then x else ⟨((slicePicked x l' u' none).filterMap (x.cps[·]?)).toArray⟩ := by
    unfold Txt.slice slicePicked; rw [hl2, hu2]; rfl
  unfold sliceMade
  by_cases hc : (((none : Option (Int × Tok)).map (·.1)).getD 1 == 1 && (slicePicked x l' u' none).length == x.length) = true
  · rw [if_pos hc] at hsl ⊢
    rw [hsl] at fin
    exact fin t s₃.toks
  · rw [if_neg hc] at hsl ⊢
    rw [hsl] at fin
    refine ⟨?_, fin _ _⟩
    rw [← hsl]
    exact Nat.le_trans (Txt.slice_le x l u) hz
theorem pt_none {K : AV → St → Prop} (h : K (.d .none) σ) : RunE c (RV c.g) (evalPart none c.env) σ K := part_none h
theorem pt_some {e : Expr} {i : Int} (h1 : EvP c e σ (.d (.int i))) : ∀ K : AV → St → Prop, K (.d (.int i)) σ → RunE c (RV c.g) (evalPart (some e) c.env) σ K := fun K k => part_some (h1 K k)
/-- a piece of a list -/
theorem p_slice_l {a : AV} {xs ys : List PyData} {n : Str} {np p pos : Pos} {lower upper : Option Expr} {l u : Option Int} (h1 : EvP c (.Name n np) σ a)
    (h2 : ∀ K : AV → St → Prop, K (.d (bd l)) σ → RunE c (RV c.g) (evalPart lower c.env) σ K) (h3 : ∀ K : AV → St → Prop, K (.d (bd u)) σ → RunE c (RV c.g) (evalPart upper c.env) σ K)
    (ha : AsList σ a = some xs) (hz : xs.length ≤ sizeLine) (hy : ∀ P (vs : List Value), RepL P vs xs → ∃ ws : List Value, slicePick vs.toArray l u none = ws.toArray ∧ RepL P ws ys) : EvP c (.Subscript (.Name n np) (.Slice lower upper none p) pos) σ (.d (.list ys)) :=
  fun K kk => Ev_slice (fun _ _ => rfl) (h1 _ (h2 _ (h3 _ ⟨xs, ha, hz, l, u, isLo_bd l, isLo_bd u, ys, hy, kk⟩)))
theorem n_slice_l {a : AV} {xs ys : List PyData} {n : Str} {np p pos : Pos} {lower upper : Option Expr} {l u : Option Int} (h1 : EvP c (.Name n np) σ a)
    (h2 : ∀ K : AV → St → Prop, K (.d (bd l)) σ → RunE c (RV c.g) (evalPart lower c.env) σ K) (h3 : ∀ K : AV → St → Prop, K (.d (bd u)) σ → RunE c (RV c.g) (evalPart upper c.env) σ K)
    (ha : AsList σ a = some xs) (hz : xs.length ≤ sizeLine) (hy : ∀ P (vs : List Value), RepL P vs xs → ∃ ws : List Value, slicePick vs.toArray l u none = ws.toArray ∧ RepL P ws ys) : EvNP c (.Subscript (.Name n np) (.Slice lower upper none p) pos) σ ys :=
  fun K kk => EvN_slice (fun _ _ => rfl) (h1 _ (h2 _ (h3 _ ⟨xs, ha, hz, l, u, isLo_bd l, isLo_bd u, ys, hy, kk⟩)))

/-- == and != of data -/
theorem o_eqd {x y : PyData} (hx : x.canLay0 = true) (hy : y.canLay0 = true) (hd : min x.depth y.depth ≤ 100) : OpP c (compareOp .Eq) (.d x) (.d y) σ (.d (.bool (PyData.eqv x y))) := by
  intro K kk ok s P ow H u v ru rv
  obtain ⟨_, r1⟩ := Rep.reads H.kept (show Rep P u x from ru)
  obtain ⟨_, r2⟩ := Rep.reads H.kept (show Rep P v y from rv)
  exact PySem.SeqAt.compareEq_reads r1 r2 hx hy (by have := ok.units; omega) (PostE.at (b := AV.d (.bool _)) H (Rep.bool _) kk)
theorem o_ned {x y : PyData} (hx : x.canLay0 = true) (hy : y.canLay0 = true) (hd : min x.depth y.depth ≤ 100) : OpP c (compareOp .NotEq) (.d x) (.d y) σ (.d (.bool (!PyData.eqv x y))) := by
  intro K kk ok s P ow H u v ru rv
  obtain ⟨_, r1⟩ := Rep.reads H.kept (show Rep P u x from ru)
  obtain ⟨_, r2⟩ := Rep.reads H.kept (show Rep P v y from rv)
  exact PySem.SeqAt.compareNe_reads r1 r2 hx hy (by have := ok.units; omega) (PostE.at (b := AV.d (.bool _)) H (Rep.bool _) kk)
end


theorem valueAt_map (k k' : Int) (v : Value) : ∀ kvs : List (Int × Value), valueAt (kvs.map fun kv => if kv.1 = k then (kv.1, v) else kv) k' = if k' = k then (valueAt kvs k').map (fun _ => v) else valueAt kvs k'
  | [] => by simp [valueAt]
  | kv :: r => by
    have ih := valueAt_map k k' v r
    unfold valueAt at ih ⊢
    rw [List.map_cons, List.find?_cons, List.find?_cons]
    by_cases h1 : kv.1 = k
    · by_cases h2 : kv.1 = k'
      · simp [h1, ← h2]
      · have h3 : ¬ k' = k := fun e => h2 (by rw [h1, e])
        simp [h1, h2, h3, show ¬ k = k' from fun e => h3 e.symm] at ih ⊢
        exact ih
    · by_cases h2 : kv.1 = k'
      · have h3 : ¬ k' = k := fun e => h1 (by rw [h2, e])
        simp [h1, h2, h3]
      · simp only [if_neg h1, decide_eq_false h2]
        exact ih
theorem valueAt_stored (kvs : List (Int × Value)) (k k' : Int) (v : Value) : valueAt (stored kvs k v) k' = if k' = k then some v else valueAt kvs k' := by
  unfold stored
  by_cases h : (kvs.any fun kv => decide (kv.1 = k)) = true
  · rw [if_pos h, valueAt_map]
    by_cases e : k' = k
    · subst e
      obtain ⟨kv, hm, hk⟩ := List.any_eq_true.mp h
      cases hf : valueAt kvs k' with
      | some _ => simp
      | none =>
        unfold valueAt at hf
        simp only [Option.map_eq_none_iff, List.find?_eq_none] at hf
        exact absurd hk (hf kv hm)
    · rw [if_neg e, if_neg e]
  · rw [if_neg h]
    have hn : ∀ kv ∈ kvs, ¬ kv.1 = k := fun kv hm e => h (List.any_eq_true.mpr ⟨kv, hm, decide_eq_true e⟩)
    unfold valueAt
    rw [List.find?_append]
    by_cases e : k' = k
    · subst e
      have : kvs.find? (fun kv => decide (kv.1 = k')) = none := List.find?_eq_none.mpr fun kv hm => by simpa using hn kv hm
      rw [this]; simp
    · have : ¬ k = k' := fun q => e q.symm
      rw [if_neg e]
      cases hf : kvs.find? (fun kv => decide (kv.1 = k')) <;> simp [this]

/-- a dict's data, by the items put in -/
noncomputable def lastAt {α : Type} (kf : α → Int) (g : α → PyData) : List α → Int → Option PyData → Option PyData
  | [], _, o => o
  | r :: rs, k, o => lastAt kf g rs k (if k = kf r then some (g r) else o)
theorem lastAt_snoc {α : Type} (kf : α → Int) (g : α → PyData) (r : α) (k : Int) : ∀ (rs : List α) (o : Option PyData), lastAt kf g (rs ++ [r]) k o = if k = kf r then some (g r) else lastAt kf g rs k o
  | [], o => rfl
  | x :: xs, o => lastAt_snoc kf g r k xs _

noncomputable abbrev Row := Int × Str × Int
noncomputable def rowD (r : Row) : PyData := .tuple [.int r.1, .str r.2.1, .int r.2.2]
theorem rows_stored {P : Part} {g : Row → PyData} {l : List Value} {kvs : List (Int × Value)}
    (x : StoredAll (fun v k => ∃ r, Rep P v (rowD r) ∧ k = r.1) (fun v y => ∃ r, Rep P v (rowD r) ∧ Rep P y (g r)) l kvs) :
    ∀ rs, RepL P l (rs.map rowD) → ∀ k, OptRep P (valueAt kvs k) (lastAt (fun r : Row => r.1) g rs k none) := by
  have same : ∀ {v : Value} {r r' : Row}, Rep P v (rowD r) → Rep P v (rowD r') → r = r' := by
    intro v r r' h1 h2
    obtain ⟨a, o, n, vs, e1, e2, e3, e4, q⟩ := Rep.tuple_inv h1
    obtain ⟨a', o', n', vs', e1', e2', e3', e4', q'⟩ := Rep.tuple_inv h2
    subst e1
    cases e1'
    rw [e2] at e2'; cases e2'
    rw [e4] at e4'
    have ev : vs = vs' := by injection e4' with h1 h2; simpa using h1
    subst ev
    cases q with
    | cons q1 q => cases q with
      | cons q2 q => cases q with
        | cons q3 q =>
          cases q' with
          | cons p1 q' => cases q' with
            | cons p2 q' => cases q' with
              | cons p3 q' =>
                obtain ⟨a1, a2, a3⟩ := r
                obtain ⟨b1, b2, b3⟩ := r'
                cases q1; cases q2; cases q3; cases p1; cases p2; cases p3; rfl
  induction x with
  | nil =>
    intro rs h k
    cases rs with
    | nil => trivial
    | cons r rs => cases h
  | @snoc l kvs v k y _ hk hy ih =>
    intro rs h k'
    rcases List.eq_nil_or_concat rs with e | ⟨rs', r, e⟩
    · subst e
      cases l <;> cases h
    · subst e
      rw [List.concat_eq_append] at h ⊢
      rw [List.map_append] at h
      obtain ⟨us, us', e, h1, h2⟩ := h.split
      have hl : us.length = l.length := by
        have a1 := h.length
        have a2 := h1.length
        simp at a1 a2; omega
      obtain ⟨e1, e2⟩ := List.append_inj e hl.symm
      subst e1
      cases h2 with
      | cons h2 h3 =>
        cases h3
        cases e2
        obtain ⟨r1, hr1, rfl⟩ := hk
        obtain ⟨r2, hr2, hc⟩ := hy
        rw [same hr1 h2, valueAt_stored, lastAt_snoc]
        rw [same hr2 h2] at hc
        by_cases e : k' = r.1
        · rw [if_pos e, if_pos e]; exact hc
        · rw [if_neg e, if_neg e]; exact ih rs' h1 k'

theorem apart_sys {c : Cx} {P : Part} {ow : Option Addr} {σ : St} {h : Heap} (H : Hd c P ow σ h) {a : Addr} (e : h.get? a = none) : (a == sysModules) = false := by
  obtain ⟨mm, o, es, ep, q, _⟩ := (H.glo _ H.kept).sm
  refine beq_eq_false_iff_ne.mpr ?_
  rintro rfl
  rw [e] at q; cases q

section
variable {c : Cx} {σ : St}
/-- z = {row[0]: row[j] for row in table} -/
theorem x_comp {K : Fl → St → Prop} {rest : List Stmt} {x y z : Str} {px py pz p1 p2 p3 p4 p5 p6 pos spos : Pos} {k0 k1 : Nat} {scope : Scope} {j : Nat} {rs : List Row} {g : Row → PyData} (hl : σ.vars.lookup y = some (.d (.list (rs.map rowD)))) (hky : c.sc.names.lookup y = some .local) (hdy : (y == ("__debug__" : Str)) = false)
    (hj : ∀ r : Row, [PyData.int r.1, .str r.2.1, .int r.2.2][j]? = some (g r)) (hz : rs.length ≤ sizeLine) (hj3 : j < 1000)
    (hclos : closureFor scope c.env = pure []) (hcell : ∀ y ∈ scope.names, y.2 ≠ .cell) (hkind : scope.kind = .function)
    (hnames : ∀ y ∈ scope.names, y.2 = .local → scope.names.lookup y.1 = some .local) (hx : scope.names.lookup x = some .local) (hd : (x == ("__debug__" : Str)) = false) (hkz : c.sc.names.lookup z = some .local)
    (hsw : swapsWith (.DictComp (.Subscript (.Name x p1) (.Constant (.int 0) k0 p2) p3) (.Subscript (.Name x p4) (.Constant (.int j) k1 p5) p6) [⟨.Name x px, .Name y py, [], 0⟩] scope pos) (some (.Name z pz)) spos.line c.env = pure true)
    (hk2 : Ex c rest (σ.set z (.di fun k => lastAt (fun r : Row => r.1) g rs k none)) K) :
    Ex c (.Assign [.Name z pz] (.DictComp (.Subscript (.Name x p1) (.Constant (.int 0) k0 p2) p3) (.Subscript (.Name x p4) (.Constant (.int j) k1 p5) p6) [⟨.Name x px, .Name y py, [], 0⟩] scope pos) spos :: rest) σ K := by
  refine x_cons ?_
  intro ok s P ow H
  obtain ⟨m, n, hv, ho⟩ := H.vars
  obtain ⟨hp, v, e, r⟩ := hv _ (mem_of_lookup hl)
  obtain ⟨l, o, nn, vs, rfl, z2, z3, z4, z5⟩ := Rep.list_inv (show Rep P v (.list (rs.map rowD)) from r)
  have hil : s.heap.IsList l vs.toArray := ⟨o, H.kept _ _ z2, z3, nn, z4⟩
  have hlt : l < s.heap.objs.size := Heap.lt_size (H.kept _ _ z2)
  have hlen : vs.length = rs.length := by simpa using z5.length
  have up : ∀ (h₃ : Heap), (∀ b o, b ∉ [s.heap.objs.size] → (s.heap.push { cls := .type "list_iterator", data := .fields #[.ref l, .int 0 0] }).get? b = some o → h₃.get? b = some o) → ∀ b o, s.heap.get? b = some o → h₃.get? b = some o :=
    fun h₃ hk b o e => hk b o (fun hm => by rcases List.mem_cons.mp hm with rfl | hm; exact Nat.lt_irrefl _ (Heap.lt_size e); cases hm) (Heap.get?_push_of_some _ e)
  have row : ∀ (i : Nat) (v : Value), vs.toArray[i]? = some v → ∃ r, Rep P v (rowD r) := by
    intro i v hi
    have hi' : vs[i]? = some v := by simpa using hi
    have hlt' : i < rs.length := by have := (List.getElem?_eq_some_iff.mp hi').1; omega
    obtain ⟨u, hu, q⟩ := z5.get (i := i) (d := rowD rs[i]) (by simp [hlt'])
    rw [hi'] at hu; cases hu
    exact ⟨_, q⟩
  have item : ∀ (C : Addr) (p1 p2 p3 : Pos) (k0 j : Nat) (r : Row) (d : PyData) (v : Value) (s₃ : Shared) (m₃ : Str → Option Value) (E' : Value → Shared → Prop) (Q : Value → Shared → Prop), Rep P v (rowD r) → j < 1000 → [PyData.int r.1, .str r.2.1, .int r.2.2][j]? = some d → s₃.heap.Ns C m₃ → m₃ x = some v → KeptIn P s₃.heap →
      (∀ y tk, Rep P y d → Q y { s₃ with toks := tk }) → wpAny c.M c.A (eval (.Subscript (.Name x p1) (.Constant (.int j) k0 p2) p3) (compEnvC scope [] C c.env)) Q E' s₃ := by
    intro C p1 p2 p3 k0 j r d v s₃ m₃ E' Q hr hj hd' hn hm hk hQ
    refine wpAny_Subscript_Constant_late (wpAny_Name (wpAny_loadName_local (show (relabel scope c.env).kind = _ from hkind) (lookup_relabel_local hx) hn hm (wpAny_Constant_int ?_)) hd)
    obtain ⟨a, o, n, us, rfl, e2, e3, e4, q⟩ := Rep.tuple_inv (show Rep P v (.tuple _) from hr)
    obtain ⟨y, e, q⟩ := q.get hd'
    have hT : IsTup s₃.heap a us.toArray := ⟨o, hk _ _ e2, e3, n, e4⟩
    have hlt : j < us.length := (List.getElem?_eq_some_iff.mp e).1
    refine ⟨"tuple", _, PySem.F.slot_tuple_getitem.lookup, ⟨o, hk _ _ e2, e3⟩, getItem_tuple hT (by omega) (by omega) (j := j) ?_ (by simpa using e) (hQ y _ q)⟩
    simp [seqIndex?]; omega
  rw [exec_Assign_Name_used _ _ _ _ hsw]
  refine wpAny_bind (wpAny_standAt (wpAny_bind ?_))
  show wpAny _ c.A (do let _ ← comprehension (.DictComp (.Subscript (.Name x p1) (.Constant (.int 0) k0 p2) p3) (.Subscript (.Name x p4) (.Constant (.int j) k1 p5) p6) [⟨.Name x px, .Name y py, [], 0⟩] scope pos) scope c.env _ newDict false (eval (.Name y py) c.env) (some (assign (.Name z pz) c.env))) _ _ s
  refine wpAny_bind (wpAny_mono (wpAny_comprehension_free (use := some (assign (.Name z pz) c.env)) (Q := fun _ s' => PostS c P ow s (Seq c rest K) .next s') rfl (fun _ => rfl) hclos hkind hnames
    (wpAny_Name (wpAny_loadName_local ok.kind hky n e ?_) hdy)) (fun _ s' hq => wpAny_pure (wpAny_pure hq)) fun _ _ e => e)
  refine wpAny_pyIter_list hil ?_
  refine comp_block_walkCD (knd := intKind c.g.prog c.g.w) (RR := fun acc C => compPost (model c.g.prog c.g.w) c.A NoE (some (assign (.Name z pz) c.env)) (fun _ s' => PostS c P ow s (Seq c rest K) .next s') acc C) (Walks.list ok.hd _ _ (Nat.ne_of_lt hlt) vs.toArray) (by rw [List.size_toArray, hlen]; exact hz) (fun _ => true)
    (fun v k => ∃ r, Rep P v (rowD r) ∧ k = r.1) (fun v y => ∃ r, Rep P v (rowD r) ∧ Rep P y (g r)) hcell hkind hx ⟨⟨_, Heap.get?_push_size _ rfl, rfl, rfl⟩, hil.push _⟩ ?_ ⟨?_, ?_, ?_⟩ ?_
  · intro b hb
    show b < (s.heap.push _).objs.size
    rw [Heap.size_push]
    rcases List.mem_cons.mp hb with rfl | hb
    · exact Nat.lt_succ_self _
    · rcases List.mem_cons.mp hb with rfl | hb
      · exact Nat.lt_succ_of_lt hlt
      · cases hb
  · intro C i v s₃ m₃ E' hP hn hm hk
    rw [List.forIn_nil]
    exact wpAny_pure ⟨rfl, s₃.heap, s₃.toks, rfl, fun _ _ e => e⟩
  · intro C i v s₃ m₃ E' hP _ hn hm hk
    obtain ⟨r, hr⟩ := row i v hP
    refine item C _ _ _ _ 0 r (.int r.1) v s₃ m₃ E' _ hr (by decide) rfl hn hm (fun b o e => up s₃.heap hk b o (H.kept _ _ e)) fun y tk q => ?_
    obtain ⟨t, rfl⟩ := Rep.int_inv q
    exact ⟨⟨r.1, intKind_is _ _ _ t, r, hr, rfl⟩, s₃.heap, tk, rfl, fun _ _ e => e⟩
  · intro C i v s₃ m₃ E' hP _ hn hm hk
    obtain ⟨r, hr⟩ := row i v hP
    exact item C _ _ _ _ j r (g r) v s₃ m₃ E' _ hr hj3 (hj r) hn hm (fun b o e => up s₃.heap hk b o (H.kept _ _ e)) fun y tk q => ⟨⟨r, hr, q⟩, s₃.heap, tk, rfl, fun _ _ e => e⟩
  · intro D C h' tk m' kvs vs' hnew hC hDC hnC hlD hlen' hP hF hk
    have e : vs' = vs := by simpa using list_of_places hlen' hP
    subst e
    have keep : ∀ b o, s.heap.get? b = some o → h'.get? b = some o := up h' hk
    have none_of : ∀ D, (s.heap.push { cls := .type "list_iterator", data := .fields #[.ref l, .int 0 0] }).get? D = none → s.heap.get? D = none := fun D hnew => by
      cases e : s.heap.get? D with
      | none => rfl
      | some o' => rw [Heap.get?_push_of_some _ e] at hnew; cases hnew
    have hD := none_of D hnew
    have hCn := none_of C hC
    obtain ⟨o', ho', ro⟩ := Heap.dictOf_iff.mp hlD
    have hF' : StoredAll (fun v k => ∃ r, Rep P v (rowD r) ∧ k = r.1) (fun v y => ∃ r, Rep P v (rowD r) ∧ Rep P y (g r)) vs' kvs := by
      rw [List.filter_eq_self.mpr (fun _ _ => rfl)] at hF; exact hF
    have fD := H.fresh hD
    have fC := H.fresh hCn
    have m₁ : Mv c.L s.heap h' := Mv.of_keep keep
    have H₁ := (H.mv m₁).put ho' fD.1 fD.2.1 fD.2.2
    have S₁ : Step c.L P ow s.heap (P.put D o') ow h' := ⟨fun b o e n _ => m₁.keep b o e n, Part.put_le fD.1, fun b o' e => by
      by_cases hb : b = D
      · subst hb; exact .inr (.inr hD)
      · rw [Part.put_other hb] at e; exact .inl e, fun _ e => .inl e, H₁.live⟩
    have G₁ : Guard c.L (P.put D o') ow [C] h' := fun b hb => by
      rw [List.mem_singleton.mp hb]
      refine ⟨by rw [Part.put_other (Ne.symm hDC)]; exact fC.1, fC.2.1, fC.2.2, ?_⟩
      obtain ⟨o, _, _, q, _⟩ := hnC
      rw [q]; rfl
    have R₁ : RepA c.g (P.put D o') ow (.ref D) (.di fun k => lastAt (fun r : Row => r.1) g rs k none) :=
      ⟨D, rfl, apart_sys H hD, valueAt kvs, fun h'' k'' => Heap.DictOf.mapOf (Heap.dictOf_iff.mpr ⟨o', k'' _ _ Part.put_self, ro⟩), fun k => (rows_stored hF' rs z5 k).mono (Part.put_le fD.1)⟩
    show wpAny _ c.A (assign (.Name z pz) c.env (.ref D)) _ _ _
    refine wpAny_assign_Name (store_wp (s := { s with heap := h', toks := tk }) (av := .di fun k => lastAt (fun r : Row => r.1) g rs k none) ok hkz H₁ R₁ rfl fun h₂ tk' ow₂ H₂ S₂ => ?_)
    have G₂ := Guard.step G₁ S₂
    have gC := G₁ C (.head _)
    refine ⟨m', hnC.at' fun o e => S₂.keep _ _ e gC.2.1 gC.2.2.1, fun h₃ hs₃ => ?_⟩
    have k₃ : ∀ b o, h₂.get? b = some o → b ∉ [C] → h₃.get? b = some o := fun b o e hb => (hs₃.2 b fun q => hb (by rw [q]; exact .head _)).trans e
    exact ⟨P.put D o', ow₂, _, .next, rfl, H₂.off G₂ k₃, (S₁.trans S₂).off (fun b hb => by rw [List.mem_singleton.mp hb]; exact hCn) (fun hb => fC.2.1 (List.mem_singleton.mp hb).symm) k₃, trivial, hk2⟩
end


/-- a small dict of numbers -/
structure Pr where
  ke : Expr
  ve : Expr
  k : Int
  v : Int
section
variable {c : Cx} {σ : St}
theorem pairs_run (pos : Pos) : ∀ (ps : List Pr), (∀ p ∈ ps, EvP c p.ke σ (.d (.int p.k)) ∧ EvP c p.ve σ (.d (.int p.v))) → c.Ok → ∀ s P ow, Hd c P ow σ s.heap →
    wpAny c.M c.A (evalPairs (ps.map fun p => (eval p.ke c.env, do let x ← eval p.ve c.env; standAt pos; pure x))) (fun vs s' => ∃ P', Same s s' ∧ Hd c P' ow σ s'.heap ∧ Step c.L P ow s.heap P' ow s'.heap ∧
      ∃ kvs, Carries (intKind c.g.prog c.g.w) vs kvs ∧ ∀ (acc : List (Int × Value)) (f : Int → Option PyData), (∀ (P : Part) k, OptRep P (valueAt acc k) (f k)) → ∀ (P : Part) k, OptRep P (valueAt (merged acc kvs) k) (lastAt (fun p : Pr => p.k) (fun p => .int p.v) ps k (f k))) NoE s
  | [], _, _, s, P, ow, H => evalPairs_nil ⟨P, Same.refl s, H, Step.refl P ow H.live, [], trivial, fun _ _ h => h⟩
  | p :: ps, hp, ok, s, P, ow, H => by
    refine evalPairs_cons (wpAny_mono ((hp p (.head _)).1 (fun a σ' => a = .d (.int p.k) ∧ σ = σ') ⟨rfl, rfl⟩ ok s P ow H) (fun kv s₁ q => ?_) fun _ _ e => e)
    obtain ⟨P₁, σ₁, a, e₁, H₁, S₁, r₁, rfl, rfl⟩ := q
    refine wpAny_bind (wpAny_mono ((hp p (.head _)).2 (fun a σ' => a = .d (.int p.v) ∧ σ = σ') ⟨rfl, rfl⟩ ok s₁ P₁ ow H₁) (fun vv s₂ q => ?_) fun _ _ e => e)
    obtain ⟨P₂, σ₂, a, e₂, H₂, S₂, r₂, rfl, rfl⟩ := q
    refine wpAny_bind (wpAny_standAt (wpAny_pure ?_))
    refine wpAny_mono (pairs_run pos ps (fun q hq => hp q (.tail _ hq)) ok s₂ P₂ ow H₂) (fun vs s₃ q => ?_) fun _ _ e => e
    obtain ⟨P₃, e₃, H₃, S₃, kvs, hc, hf⟩ := q
    obtain ⟨t, rfl⟩ := Rep.int_inv r₁
    obtain ⟨t', rfl⟩ := Rep.int_inv r₂
    refine ⟨P₃, e₁.trans (e₂.trans e₃), H₃, S₁.trans (S₂.trans S₃), (p.k, .int p.v t') :: kvs, ⟨intKind_is _ _ _ t, rfl, hc⟩, fun acc f h => ?_⟩
    refine hf (stored acc p.k (.int p.v t')) (fun k => if k = p.k then some (.int p.v) else f k) fun P k => ?_
    rw [valueAt_stored]
    by_cases e : k = p.k
    · rw [if_pos e, if_pos e]; exact Rep.int _ _
    · rw [if_neg e, if_neg e]; exact h P k
theorem p_dict (ps : List Pr) {keys : List (Option Expr)} {values : List Expr} {pos : Pos} (hp : ∀ p ∈ ps, EvP c p.ke σ (.d (.int p.k)) ∧ EvP c p.ve σ (.d (.int p.v)))
    (hshape : (evalEachOpt keys c.env).zip ((evalEach values c.env).map fun v => do let x ← v; standAt pos; pure x) = (ps.map fun p => (eval p.ke c.env, do let x ← eval p.ve c.env; standAt pos; pure x)).map fun p => (some p.1, p.2)) (h0 : ps ≠ []) (hlen : ps.length ≤ 15) :
    EvP c (.Dict keys values pos) σ (.di fun k => lastAt (fun p : Pr => p.k) (fun p => .int p.v) ps k none) := by
  intro K kk ok s P ow H
  refine wpAny_Dict_pairs (knd := intKind c.g.prog c.g.w) hshape (by simpa using h0) (by simpa using hlen) ?_
  have hn : s.heap.get? s.heap.objs.size = none := fresh_size _
  have f := H.fresh hn
  have m : Mv c.L s.heap (s.heap.push { cls := .type "dict", data := .dict #[] }) := .push ..
  refine wpAny_mono (pairs_run pos ps hp ok { s with heap := s.heap.push { cls := .type "dict", data := .dict #[] } } P ow (H.mv m)) (fun vs s₁ q => ?_) fun _ _ e => e
  obtain ⟨P₁, e₁, H₁, S₁, kvs, hc, hf⟩ := q
  have G0 : Guard c.L P ow [s.heap.objs.size] (s.heap.push { cls := .type "dict", data := .dict #[] }) := fun b hb => by
    rw [List.mem_singleton.mp hb]
    exact ⟨f.1, f.2.1, f.2.2, by rw [Heap.get?_push_size _ rfl]; rfl⟩
  have G₁ := G0.step S₁
  refine ⟨kvs, hc, (Heap.DictOf.new s.heap).at fun o e => S₁.keep _ _ e f.2.1 f.2.2, fun h' hd hb => ?_⟩
  have k₁ : ∀ b o, s₁.heap.get? b = some o → b ∉ [s.heap.objs.size] → h'.get? b = some o := fun b o e hb' => (hb.2 b (fun q => hb' (by rw [q]; exact .head _))).trans e
  have H₂ := H₁.off G₁ k₁
  obtain ⟨o', ho', ro⟩ := Heap.dictOf_iff.mp hd
  have g1 := G₁ _ (.head _)
  have H₃ := H₂.put ho' g1.1 g1.2.1 g1.2.2.1
  refine ⟨P₁.put s.heap.objs.size o', σ, .di fun k => lastAt (fun p : Pr => p.k) (fun p => .int p.v) ps k none, Same.trans (s₁ := s₁) (Same.trans (s₁ := { s with heap := s.heap.push { cls := .type "dict", data := .dict #[] } }) rfl e₁) rfl, H₃, ⟨fun b o e nb nw => ?_, Part.le_trans S₁.le (Part.put_le g1.1), fun b o e => ?_, fun _ e => .inl e, H₃.live⟩,
    ⟨_, rfl, apart_sys H hn, valueAt (merged [] kvs), fun h'' k'' => Heap.DictOf.mapOf (Heap.dictOf_iff.mpr ⟨o', k'' _ _ Part.put_self, ro⟩), fun k => hf [] (fun _ => none) (fun _ _ => trivial) _ k⟩, kk⟩
  · exact k₁ b o (S₁.keep b o (m.keep b o e nb) nb nw) fun hb' => by rw [List.mem_singleton.mp hb', hn] at e; cases e
  · by_cases hb' : b = s.heap.objs.size
    · rw [hb']; exact .inr (.inr hn)
    · rw [Part.put_other hb'] at e
      rcases S₁.new b o e with q | q | q
      · exact .inl q
      · exact .inr (.inl q)
      · right; right
        cases q' : s.heap.get? b with
        | none => rfl
        | some o'' =>
          have := Heap.get?_push_of_some { cls := .type "dict", data := .dict #[] } q'
          rw [this] at q; cases q
end


noncomputable abbrev mkD (n : Int) (x : Str) : PyData := .tuple [.int n, .str x]
noncomputable abbrev ndD (o : Int) (ks : List PyData) : PyData := .tuple [.int (256 + o), .list ks]
theorem ret_d {x y : PyData} (h : x = y) : Fl.ret (.d x) = Fl.ret (.d y) := by rw [h]
theorem len0 {α β : Type} {vs : List α} (h : vs.length = ([] : List β).length) : vs = [] := by
  match vs, h with
  | [], _ => rfl

theorem lz1 : 1 ≤ sizeLine := by decide
theorem lz2 : 2 ≤ sizeLine := by decide
theorem lz3 : 3 ≤ sizeLine := by decide
theorem con_term (g : Gl) (i : Int) : Con g "ISTERMINAL" 1 [.d (.int i)] (.bool (decide (i < 256))) := by
  refine con_intro ["x"] (List.mem_of_getElem? (i := 0) rfl) (fun pm cd doc vs hv => by obtain ⟨x, rfl⟩ := len1 hv; rfl) rfl (by decide) rfl rfl rfl rfl rfl (by decide) fun A L fa cd => ?_
  exact x_ret (p_cmp (p_local rfl rfl rfl) (p_const rfl rfl rfl) o_lt rfl) rfl
theorem con_nont (g : Gl) (i : Int) : Con g "ISNONTERMINAL" 1 [.d (.int i)] (.bool (decide (256 ≤ i))) := by
  refine con_intro ["x"] (List.mem_of_getElem? (i := 1) rfl) (fun pm cd doc vs hv => by obtain ⟨x, rfl⟩ := len1 hv; rfl) rfl (by decide) rfl rfl rfl rfl rfl (by decide) fun A L fa cd => ?_
  exact x_ret (p_cmp (p_local rfl rfl rfl) (p_const rfl rfl rfl) o_ge rfl) rfl
theorem con_eof (g : Gl) (i : Int) : Con g "ISEOF" 1 [.d (.int i)] (.bool (decide (i = 0))) := by
  refine con_intro ["x"] (List.mem_of_getElem? (i := 2) rfl) (fun pm cd doc vs hv => by obtain ⟨x, rfl⟩ := len1 hv; rfl) rfl (by decide) rfl rfl rfl rfl rfl (by decide) fun A L fa cd => ?_
  exact x_ret (p_cmp (p_local rfl rfl rfl) (p_const rfl rfl rfl) o_eq rfl) rfl
theorem con_atom (g : Gl) (x : PyData) : Con g "_law_atom" 1 [.d x] (ndD 0 [x]) := by
  refine con_intro ["leaf"] (List.mem_of_getElem? (i := 5) rfl) (fun pm cd doc vs hv => by obtain ⟨x, rfl⟩ := len1 hv; rfl) rfl (by decide) rfl rfl rfl rfl rfl (by decide) fun A L fa cd => ?_
  exact x_ret (p_tuple (pl_cons (p_const rfl rfl rfl) (pl_cons (p_list (pl_cons (p_local rfl rfl rfl) pl_nil) rfl lz1) pl_nil)) rfl lz2) rfl
noncomputable abbrev dI (f : Int → Option Int) : AV := .di fun k => (f k).map .int
noncomputable def forceF (fo : Int → Option Int) (own : Int) (count : Nat) : Int :=
  match fo own with
  | none => 12
  | some level => if count = 2 then level else 9
theorem con_force (g : Gl) (fo : Int → Option Int) (own : Int) (ks : List PyData) (hk : ks.length < 2 ^ 63) : Con g "_law_force" 1 [.d (ndD own ks), dI fo] (.int (forceF fo own ks.length)) := by
  refine con_intro ["tree", "force"] (List.mem_of_getElem? (i := 7) rfl) (fun pm cd doc vs hv => by obtain ⟨x, y, rfl⟩ := len2 hv; rfl) rfl (by decide) rfl rfl rfl rfl rfl (by decide) fun A L fa cd => ?_
  refine x_set (p_bin (p_sub (p_local rfl rfl rfl) p_int (s_t (j := 0) (x := .int (256 + own)) rfl (by decide) rfl) (fun _ _ => rfl)) (p_const rfl rfl rfl) o_sub) rfl rfl rfl ?_
  have e : 256 + own - 256 = own := by omega
  rw [e]
  refine x_ifn (t_cmp (p_local rfl rfl rfl) (p_local rfl rfl rfl) o_nindi rfl) (fun h => x_ret p_int (ret_i ?_)) fun h => ?_
  · have : fo own = none := by simpa using h
    simp [forceF, this]
  obtain ⟨level, hl⟩ : ∃ l, fo own = some l := by cases e : fo own <;> simp_all
  refine x_ret (p_if (t_cmp (p_bi (pl_cons (p_sub (p_local rfl rfl rfl) p_int (s_t (j := 1) (x := .list ks) rfl (by decide) rfl) (fun _ _ => rfl)) pl_nil) (b_len rfl hk) rfl rfl ⟨_, _, rfl⟩ rfl) p_int o_eq rfl) (fun _ => p_sub (p_local rfl rfl rfl) (p_local rfl rfl rfl) (s_di (x := .int level) (by rw [hl]; rfl)) (fun _ _ => rfl)) (fun _ => p_int)) (ret_d ?_)
  unfold forceF
  rw [hl]
  by_cases q : ks.length = 2
  · simp [q]
  · have : ¬ (ks.length : Int) = 2 := by omega
    simp [q, this]


noncomputable def chr1 (x : Str) (i : Int) : Str := ⟨#[x.cps.toList.getD i.toNat 97]⟩
theorem get_chr1 {l : List Nat} {i : Nat} (h : i < l.length) : l[i]? = some (l.getD i 97) := by
  simp [h]
noncomputable def leafX (m : Int) : Int × Str := if m = 0 then (52, "...") else if m < 7 then (1, chr1 "abcdef" (m - 1)) else (2, chr1 "0123456" (m - 7))
theorem con_leaf (g : Gl) (m : Int) (h0 : 0 ≤ m) (h1 : m < 14) : Con g "_law_leaf" 1 [.d (.int m)] (mkD (leafX m).1 (leafX m).2) := by
  refine con_intro ["more"] (List.mem_of_getElem? (i := 4) rfl) (fun pm cd doc vs hv => by obtain ⟨x, rfl⟩ := len1 hv; rfl) rfl (by decide) rfl rfl rfl rfl rfl (by decide) fun A L fa cd => ?_
  refine x_ifn (t_cmp (p_local rfl rfl rfl) p_int o_eq rfl) (fun h => ?_) fun h => ?_
  · have : m = 0 := of_decide_eq_true h
    subst this
    exact x_ret (p_tuple (pl_cons (p_const rfl rfl rfl) (pl_cons p_str pl_nil)) rfl lz2) rfl
  have h2 : ¬ m = 0 := of_decide_eq_false h
  unfold leafX
  rw [if_neg h2]
  refine x_ifn (t_cmp (p_local rfl rfl rfl) p_int o_lt rfl) (fun h => ?_) fun h => ?_
  · have h3 : m < 7 := of_decide_eq_true h
    rw [if_pos h3]
    exact x_ret (p_tuple (pl_cons (p_const rfl rfl rfl) (pl_cons (p_sub p_str (p_bin (p_local rfl rfl rfl) p_int o_sub) (s_s (by omega) (by omega) (get_chr1 (show (m - 1).toNat < 6 by omega))) (fun _ _ => rfl)) pl_nil)) rfl lz2) rfl
  · have h3 : ¬ m < 7 := of_decide_eq_false h
    rw [if_neg h3]
    exact x_ret (p_tuple (pl_cons (p_const rfl rfl rfl) (pl_cons (p_sub p_str (p_bin (p_local rfl rfl rfl) p_int o_sub) (s_s (by omega) (by omega) (get_chr1 (show (m - 7).toNat < 7 by omega))) (fun _ _ => rfl)) pl_nil)) rfl lz2) rfl

/-- the table -/
noncomputable def rowOf (sc : Scope) : Expr → Option Row
  | .Tuple [.Name n _, .Constant (.str x) _ _, .Constant (.int l) _ _] _ _ => if sc.names.lookup n = some .globalImplicit ∧ (n == ("__debug__" : Str)) = false then (consts.lookup n).map fun k => (k, x, l) else none
  | .Tuple [.Name n _, .BinOp (.Constant (.str x) _ _) .Add (.Constant (.str y) _ _) _, .Constant (.int l) _ _] _ _ => if (sc.names.lookup n = some .globalImplicit ∧ (n == ("__debug__" : Str)) = false) ∧ x.length + y.length ≤ sizeLine then (consts.lookup n).map fun k => (k, x ++ y, l) else none
  | _ => none
theorem row_ev {c : Cx} {σ : St} {e : Expr} {r : Row} (h : rowOf c.sc e = some r) : EvP c e σ (.d (rowD r)) ∧ ∀ pos rest, backTo pos (starEach (e :: rest) c.env) = (false, eval e c.env) :: backTo pos (starEach rest c.env) := by
  unfold rowOf at h
  split at h
  · rename_i n _ x _ _ l _ _ _ _
    split at h
    · rename_i hc
      cases hn : consts.lookup n with
      | none => rw [hn] at h; cases h
      | some k =>
        rw [hn] at h; cases h
        exact ⟨p_tuple (pl_cons (p_const hn hc.1 hc.2) (pl_cons p_str (pl_cons p_int pl_nil))) rfl lz3, fun _ _ => rfl⟩
    · cases h
  · rename_i n _ x _ _ y _ _ _ l _ _ _ _
    split at h
    · rename_i hc
      cases hn : consts.lookup n with
      | none => rw [hn] at h; cases h
      | some k =>
        rw [hn] at h; cases h
        exact ⟨p_tuple (pl_cons (p_const hn hc.1.1 hc.1.2) (pl_cons (p_bin p_str p_str (o_adds hc.2)) (pl_cons p_int pl_nil))) rfl lz3, fun _ _ => rfl⟩
    · cases h
  · cases h
noncomputable def allRows (sc : Scope) : List Expr → Option (List Row)
  | [] => some []
  | e :: es => match rowOf sc e, allRows sc es with
    | some r, some rs => some (r :: rs)
    | _, _ => none
theorem rows_ev {c : Cx} {σ : St} {pos : Pos} : ∀ {es : List Expr} {rs : List Row}, allRows c.sc es = some rs → EvLP c (backTo pos (starEach es c.env)) σ (rs.map fun r => .d (rowD r))
  | [], rs, h => by cases h; exact pl_nil
  | e :: es, rs, h => by
    unfold allRows at h
    split at h
    · rename_i r rs' h1 h2
      cases h
      have z := row_ev (σ := σ) h1
      rw [z.2]
      exact pl_cons z.1 (rows_ev h2)
    · cases h
theorem datas_rows : ∀ rs : List Row, datas (rs.map fun r => AV.d (rowD r)) = some (rs.map rowD)
  | [] => rfl
  | r :: rs => by
    have := datas_rows rs
    simp only [List.map_cons, datas, this]
    rfl
noncomputable def theRows : List Row := [(22, Str.ofString "=", 1), (36, Str.ofString "+=", 1), (37, Str.ofString "-=", 1), (38, Str.ofString "*=", 1), (39, Str.ofString "/=", 1), (40, Str.ofString "%=", 1), (41, Str.ofString "&=", 1), (42, Str.ofString "|=", 1), (43, Str.ofString "^=", 1), (44, Str.ofString "<<=", 1), (45, Str.ofString ">>=", 1), (46, Str.ofString "**=", 1), (48, Str.ofString "//=", 1), (50, Str.ofString "@=", 1), (53, Str.ofString ":=", 1), (27, Str.ofString "==", 2), (28, Str.ofString "!=", 2), (20, Str.ofString "<", 2), (21, Str.ofString ">", 2), (29, Str.ofString "<=", 2), (30, Str.ofString ">=", 2), (18, Str.ofString "|", 3), (32, Str.ofString "^", 4), (19, Str.ofString "&", 5), (33, Str.ofString "<<", 6), (34, Str.ofString ">>", 6), (14, Str.ofString "+", 7), (15, Str.ofString "-", 7), (16, Str.ofString "*", 8), (17, Str.ofString "/", 8), (47, Str.ofString "//", 8), (24, Str.ofString "%", 8), (49, Str.ofString "@", 8), (35, Str.ofString "**", 10), (23, Str.ofString ".", 11), (31, Str.ofString "~", 9)]
theorem con_table (g : Gl) : Con g "_law_table" 1 [] (.list (theRows.map rowD)) := by
  refine con_intro [] (List.mem_of_getElem? (i := 3) rfl) (fun pm cd doc vs hv => by have := len0 (β := AV) hv; subst this; rfl) rfl (by decide) rfl rfl rfl rfl rfl (by decide) fun A L fa cd => ?_
  exact x_ret (p_list (rows_ev (rs := theRows) (by kernel_rfl)) (datas_rows _) (by rw [List.length_map]; decide)) rfl

/-- pieces put together, the mark between -/
noncomputable def jn {α : Type} (sep : α) : List α → List (List α) → List α
  | acc, [] => acc
  | acc, p :: ps => jn sep ((if acc.isEmpty then acc else acc ++ [sep]) ++ p) ps
theorem jn_len {α : Type} (sep : α) : ∀ (ps : List (List α)) (acc : List α), acc.length ≤ (jn sep acc ps).length
  | [], acc => Nat.le_refl _
  | p :: ps, acc => Nat.le_trans (by split <;> simp <;> omega) (jn_len sep ps _)
theorem jn_map {α β : Type} (f : α → β) (sep : α) : ∀ (ps : List (List α)) (acc : List α), (jn sep acc ps).map f = jn (f sep) (acc.map f) (ps.map (List.map f))
  | [], acc => rfl
  | p :: ps, acc => by
    unfold jn
    rw [jn_map f sep ps, List.map_cons]
    congr 1
    cases acc <;> simp
/-- names with what they hold -/
noncomputable def Has (σ : St) : List (Str × AV) → Prop
  | [] => True
  | p :: r => σ.vars.lookup p.1 = some p.2 ∧ Has σ r
theorem Has.all {σ : St} : ∀ {vs : List (Str × AV)}, Has σ vs → ∀ p ∈ vs, σ.vars.lookup p.1 = some p.2
  | [], _, p, h => nomatch h
  | q :: r, h, p, hp => by
    rcases List.mem_cons.mp hp with e | e
    · rw [e]; exact h.1
    · exact Has.all h.2 p e
noncomputable abbrev ow (x : Str) (l : List PyData) : Option (Str × List PyData) := some (x, l)
/-- fewer names, the same list -/
noncomputable def Less (σ' σ : St) : Prop := (∀ p ∈ σ'.vars, p ∈ σ.vars) ∧ σ'.own = σ.own
theorem Less.has {σ : St} {vs : List (Str × AV)} {o : Option (Str × List PyData)} (hv : Has σ vs) (ho : σ.own = o) : Less ⟨vs, o⟩ σ := ⟨fun p hp => mem_of_lookup (hv.all p hp), ho.symm⟩
theorem Less.set {σ σ' : St} {x : Str} {a : AV} (h : Less σ' σ) : Less (σ'.set x a) (σ.set x a) := by
  refine ⟨fun p hp => ?_, by unfold St.set; rw [h.2]⟩
  rcases List.mem_cons.mp hp with e | e
  · rw [e]; exact .head _
  · unfold dropVar at e
    rw [List.mem_filter] at e
    exact .tail _ (List.mem_filter.mpr ⟨h.1 p e.1, e.2⟩)
theorem x_less {c : Cx} {σ σ' : St} {K : Fl → St → Prop} {b : List Stmt} (l : Less σ' σ) (h : Ex c b σ' K) : Ex c b σ K := Ex_forget σ' l.1 l.2 h
theorem x_has {c : Cx} {σ : St} {K : Fl → St → Prop} {b : List Stmt} (vs : List (Str × AV)) (o : Option (Str × List PyData)) (hv : Has σ vs) (ho : σ.own = o) (h : Ex c b ⟨vs, o⟩ K) : Ex c b σ K := x_less (Less.has hv ho) h
theorem x_has1 {c : Cx} {σ : St} {x : Str} {a : AV} {K : Fl → St → Prop} {b : List Stmt} (vs : List (Str × AV)) (o : Option (Str × List PyData)) (hv : Has σ vs) (ho : σ.own = o) (h : Ex c b ((St.mk vs o).set x a) K) : Ex c b (σ.set x a) K := x_less (Less.has hv ho).set h
theorem x_has2 {c : Cx} {σ : St} {x y : Str} {a d : AV} {K : Fl → St → Prop} {b : List Stmt} (vs : List (Str × AV)) (o : Option (Str × List PyData)) (hv : Has σ vs) (ho : σ.own = o) (h : Ex c b (((St.mk vs o).set x a).set y d) K) : Ex c b ((σ.set x a).set y d) K := x_less (Less.has hv ho).set.set h
noncomputable abbrev strsD (p : List Str) : PyData := .list (p.map .str)
theorem drop_at {α : Type} {l : List α} {i : Nat} {x : α} (h : l[i]? = some x) : l.drop i = x :: l.drop (i + 1) := by
  obtain ⟨h1, h2⟩ := List.getElem?_eq_some_iff.mp h
  rw [List.drop_eq_getElem_cons h1, h2]
theorem jn_cons {α : Type} (sep : α) (acc p : List α) (ps : List (List α)) : jn sep acc (p :: ps) = jn sep ((if acc.isEmpty then acc else acc ++ [sep]) ++ p) ps := rfl
theorem con_joined (g : Gl) (ps : List (List Str)) (ap : Str) (hz : (jn ap [] ps).length < sizeLine) : Con g "_law_joined" 1 [.d (.list (ps.map strsD)), .d (.str ap)] (strsD (jn ap [] ps)) := by
  refine con_intro ["parts", "apart"] (List.mem_of_getElem? (i := 9) rfl) (fun pm cd doc vs hv => by obtain ⟨x, y, rfl⟩ := len2 hv; rfl) rfl (by decide) rfl rfl rfl rfl rfl (by decide) fun A L fa cd => ?_
  refine x_own (n_list pl_nil rfl (Nat.zero_le _)) rfl rfl ?_
  generalize hR : jn ap [] ps = R at hz ⊢
  refine x_for (fun i σ => ∃ acc, jn ap acc (ps.drop i) = R ∧ Has σ [("apart", .d (.str ap))] ∧ σ.own = ow "pieces" (acc.map .str)) (p_local rfl rfl rfl) rfl (fun _ => rfl) ⟨[], by simpa using hR, ⟨rfl, trivial⟩, rfl⟩ ?_ ?_
  · rintro i σ d hd ⟨acc, hj, hv, ho⟩
    obtain ⟨p, hp, rfl⟩ : ∃ p, ps[i]? = some p ∧ strsD p = d := by simpa using hd
    rw [drop_at hp, jn_cons] at hj
    have hl := jn_len ap (ps.drop (i + 1)) ((if acc.isEmpty then acc else acc ++ [ap]) ++ p)
    rw [hj, List.length_append] at hl
    refine x_has1 _ _ hv ho ?_
    rw [sizeLine_eq] at hz
    refine x_ifn (t_list (p_own rfl rfl rfl) rfl (by
      rw [List.length_map]
      have : acc.length ≤ (if acc.isEmpty then acc else acc ++ [ap]).length := by split <;> simp
      omega) rfl) (fun h => ?_) (fun h => ?_)
    · have he : (if acc.isEmpty then acc else acc ++ [ap]) = acc ++ [ap] := by cases acc <;> simp_all
      rw [he] at hl hj
      rw [List.length_append] at hl
      refine x_append rfl (p_local rfl rfl rfl) (by rw [List.length_map, sizeLine_eq]; simp at hl; omega) rfl rfl rfl rfl rfl rfl rfl (x_nil ?_)
      refine x_own (n_add (p_own rfl rfl rfl) (p_local rfl rfl rfl) rfl rfl (by rw [sizeLine_eq]; simp at hl ⊢; omega)) rfl rfl ?_
      exact Ex_nil ⟨acc ++ [ap] ++ p, hj, ⟨rfl, trivial⟩, by rw [List.map_append, List.map_append]; rfl⟩
    · have he : (if acc.isEmpty then acc else acc ++ [ap]) = acc := by cases acc <;> simp_all
      rw [he] at hl hj
      refine x_own (n_add (p_own rfl rfl rfl) (p_local rfl rfl rfl) rfl rfl (by rw [sizeLine_eq]; simp; omega)) rfl rfl ?_
      exact Ex_nil ⟨acc ++ p, hj, ⟨rfl, trivial⟩, by rw [List.map_append]; rfl⟩
  · rintro σ ⟨acc, hj, hv, ho⟩
    rw [List.length_map, List.drop_length] at hj
    refine x_has [] (ow "pieces" (acc.map .str)) trivial ho ?_
    exact Ex_freeze rfl (x_ret (p_local rfl rfl rfl) (ret_d (by rw [← hj]; rfl)))


theorem slice_ab (x : Str) {a b : Nat} (hab : a ≤ b) (ha : a ≤ x.length) : Txt.slice x (some (a : Int)) (some (b : Int)) = ⟨((x.cps.toList.drop a).take (b - a)).toArray⟩ := by
  have hb : min b x.length ≤ x.length := Nat.min_le_right _ _
  have hab' : a ≤ min b x.length := by omega
  have h1 : Builtin.Str.strSliceIndices (some (a : Int)) (some (b : Int)) 1 x.length = Builtin.Str.strSliceIndices (some (a : Int)) (some ((min b x.length : Nat) : Int)) 1 x.length := by
    have e1 : ¬ ((b : Int) < 0) := by omega
    have e2 : ¬ (((min b x.length : Nat) : Int) < 0) := by omega
    have e3 : max (0 : Int) (min (b : Int) x.length) = max (0 : Int) (min ((min b x.length : Nat) : Int) x.length) := by omega
    simp only [Builtin.Str.strSliceIndices, if_neg e1, if_neg e2, show ((1 : Int) > 0) = True from by simp, if_true, e3]
  have hl : x.length = x.cps.toList.length := by simp [Str.length]
  unfold Txt.slice
  rw [h1, StrLaws.sliced_plain x hab' hb, StrLaws.strSliceIndices_plain hab' hb]
  have e : (x.cps.toList.drop a).take (min b x.length - a) = (x.cps.toList.drop a).take (b - a) := by
    rw [List.take_eq_take_iff, List.length_drop, ← hl]; omega
  rw [e]
  split
  · rename_i h
    simp only [List.length_map, List.length_range, Bool.and_eq_true, beq_iff_eq, true_and, BEq.rfl] at h
    have : (x.cps.toList.drop a).take (b - a) = x.cps.toList := by
      by_cases h0 : x.length = 0
      · have : x.cps.toList = [] := List.length_eq_zero_iff.mp (by omega)
        simp [this]
      · have : a = 0 := by omega
        subst this
        rw [List.drop_zero, List.take_of_length_le (by omega)]
    rw [this]
  · rfl
theorem slice_last (x : Str) (h : 1 ≤ x.length) : Txt.slice x none (some (-1)) = ⟨(x.cps.toList.take (x.length - 1)).toArray⟩ := by
  have h1 : Builtin.Str.strSliceIndices none (some (-1)) 1 x.length = Builtin.Str.strSliceIndices (some ((0 : Nat) : Int)) (some ((x.length - 1 : Nat) : Int)) 1 x.length := by
    have e1 : ((-1 : Int) < 0) := by omega
    have e2 : ¬ (((x.length - 1 : Nat) : Int) < 0) := by omega
    have e3 : (-1 : Int) + x.length = ((x.length - 1 : Nat) : Int) := by omega
    have e4 : max (0 : Int) (min 0 x.length) = 0 := by omega
    simp [Builtin.Str.strSliceIndices, e2, e3, e4]
  have := slice_ab x (a := 0) (b := x.length - 1) (Nat.zero_le _) (Nat.zero_le _)
  unfold Txt.slice at this ⊢
  rw [h1]
  simpa using this

noncomputable abbrev Tk := Int × Str
noncomputable abbrev tkD (t : Tk) : PyData := mkD t.1 t.2
noncomputable abbrev s1 (c : Nat) : Str := ⟨#[c]⟩
noncomputable abbrev sL (l : List Nat) : Str := ⟨l.toArray⟩
noncomputable def let7 : List Nat := ("abcdefx" : Str).cps.toList
noncomputable def dig7 : List Nat := ("0123456" : Str).cps.toList
/-- a text in marks -/
inductive Lexes : List Nat → List Tk → Prop
  | nil : Lexes [] []
  | blank {r ms} : Lexes r ms → Lexes (32 :: r) ms
  | letter {c r ms} : c ∈ let7 → Lexes r ms → Lexes (c :: r) ((1, s1 c) :: ms)
  | digit {c r ms} : c ∈ dig7 → Lexes r ms → Lexes (c :: r) ((2, s1 c) :: ms)
  | sign {c : Nat} {p r : List Nat} {i : Int} {ms} : c ≠ 32 → c ∉ let7 → c ∉ dig7 → p.length ≤ 2 → exacts.lookup (sL (c :: p)) = some i →
      (∀ k, p.length + 1 < k → k ≤ 3 → k ≤ (c :: (p ++ r)).length → exacts.lookup (sL ((c :: (p ++ r)).take k)) = none) → Lexes r ms → Lexes (c :: (p ++ r)) ((i, sL (c :: p)) :: ms)
theorem lex_let {c : Nat} : c ∈ let7 → c ≠ 32 := by
  intro h e; subst e; revert h; decide
theorem lex_dig {c : Nat} : c ∈ dig7 → c ≠ 32 ∧ c ∉ let7 := by
  intro h
  have : ∀ c ∈ dig7, c ≠ 32 ∧ c ∉ let7 := by decide
  exact this c h
noncomputable def theEnd : Tk := (0, Str.ofString "")
theorem in_chars {x : Str} {c : Nat} {b : Bool} (h : (!(Builtin.Str.occurrences x ⟨#[c]⟩ 0 x.length 1).isEmpty) = b) : b = decide (c ∈ x.cps.toList) := by
  rw [← h]; exact StrLaws.found_one x c
theorem con_marks (g : Gl) (x : Str) (ms : List Tk) (hx : x.length < 16000000) (hL : Lexes x.cps.toList ms) : Con g "_law_marks" 1 [.d (.str x)] (.list ((ms ++ [theEnd]).map tkD)) := by
  have hxl : x.length = x.cps.toList.length := by simp [Str.length]
  refine con_intro ["text"] (List.mem_of_getElem? (i := 11) rfl) (fun pm cd doc vs hv => by obtain ⟨x, rfl⟩ := len1 hv; rfl) rfl (by decide) rfl rfl rfl rfl rfl (by decide) fun A L fa cd => ?_
  refine x_own (n_list pl_nil rfl (Nat.zero_le _)) rfl rfl ?_
  refine x_set p_int rfl rfl rfl ?_
  refine x_while (fun n σ => ∃ (i : Nat) (done ms' : List Tk), Has σ [("at", .d (.int i)), ("text", .d (.str x))] ∧ σ.own = ow "marks" (done.map tkD) ∧ Lexes (x.cps.toList.drop i) ms' ∧ done ++ ms' = ms ∧ i ≤ x.length ∧ done.length ≤ i ∧ n = x.length - i) x.length
    ⟨0, [], ms, ⟨rfl, rfl, trivial⟩, rfl, by simpa using hL, rfl, Nat.zero_le _, Nat.le_refl _, rfl⟩ ?_
  rintro n σ ⟨i, done, ms', hv, ho, hl, hm, hi, hd, rfl⟩
  refine ⟨decide ((i : Int) < x.length), t_cmp (p_local hv.1 rfl rfl) (p_bi (pl_cons (p_local hv.2.1 rfl rfl) pl_nil) (b_lens (by omega)) rfl rfl ⟨_, _, rfl⟩ rfl) o_lt rfl, fun h => ?_, fun h => ?_⟩
  · have hlt : i < x.length := by simpa using h
    obtain ⟨c, r, hcr⟩ : ∃ c r, x.cps.toList.drop i = c :: r := by
      cases e : x.cps.toList.drop i with
      | nil => have := congrArg List.length e; simp [Str.length] at this hlt; omega
      | cons c r => exact ⟨c, r, rfl⟩
    have hc : x.cps.toList[i]? = some c := by
      have := congrArg (·[0]?) hcr
      simpa using this
    have hd1 : x.cps.toList.drop (i + 1) = r := by
      have := congrArg (List.drop 1) hcr
      simpa using this
    rw [hcr] at hl
    refine x_has _ _ hv ho ?_
    refine x_set (p_sub (p_local rfl rfl rfl) (p_local rfl rfl rfl) (s_s (by omega) (by omega) (ch := c) (by simpa using hc)) (fun _ _ => rfl)) rfl rfl rfl ?_
    have cast1 : ((i : Int) + 1) = ((i + 1 : Nat) : Int) := by omega
    have again : ∀ (k : Nat) (j : Nat) (done' ms'' : List Tk) (σ₂ : St), k = x.length - i → i < j → Has σ₂ [("at", .d (.int j)), ("text", .d (.str x))] → σ₂.own = ow "marks" (done'.map tkD) → Lexes (x.cps.toList.drop j) ms'' → done' ++ ms'' = ms → j ≤ x.length → done'.length ≤ j →
        ∃ m, m < k ∧ ∃ (i : Nat) (done ms' : List Tk), Has σ₂ [("at", .d (.int i)), ("text", .d (.str x))] ∧ σ₂.own = ow "marks" (done.map tkD) ∧ Lexes (x.cps.toList.drop i) ms' ∧ done ++ ms' = ms ∧ i ≤ x.length ∧ done.length ≤ i ∧ m = x.length - i :=
      fun k j done' ms'' σ₂ hk hj a1 a2 a3 a4 a5 a6 => ⟨x.length - j, by omega, j, done', ms'', a1, a2, a3, a4, a5, a6, rfl⟩
    have addM : ∀ t : Tk, ow "marks" (done.map tkD ++ [tkD t]) = ow "marks" ((done ++ [t]).map tkD) := fun t => by rw [List.map_append]; rfl
    have zM : (done.map tkD).length < sizeLine := by rw [List.length_map, sizeLine_eq]; omega
    refine x_if (t_cmp (p_local rfl rfl rfl) p_str o_eqs rfl) (fun h1 => ?_) fun h1 => ?_
    · have e : c = 32 := by
        have : s1 c = (" " : Str) := by simpa using h1
        injection this with this
        have := congrArg Array.toList this
        injection this
      subst e
      cases hl with
      | letter hc => exact absurd rfl (lex_let hc)
      | digit hc => exact absurd rfl (lex_dig hc).1
      | sign hc => exact absurd rfl hc
      | blank hl =>
        refine x_aug rfl p_int rfl ?_
        rw [cast1]
        exact x_nil (Ex_nil (again _ (i + 1) done ms' _ rfl (by omega) ⟨rfl, rfl, trivial⟩ rfl (by rw [hd1]; exact hl) hm (by omega) (by omega)))
    have n1 : c ≠ 32 := by
      rintro rfl
      have : (s1 32 == (" " : Str)) = true := by decide
      rw [this] at h1; cases h1
    refine x_if (t_cmp (p_local rfl rfl rfl) p_str o_ins rfl) (fun h2 => ?_) fun h2 => ?_
    · have hc7 : c ∈ let7 := of_decide_eq_true (in_chars h2).symm
      cases hl with
      | blank => exact absurd rfl n1
      | digit hc => exact absurd hc7 (lex_dig hc).2
      | sign _ hc => exact absurd hc7 hc
      | letter _ hl =>
        refine x_append rfl (p_tuple (pl_cons (p_const rfl rfl rfl) (pl_cons (p_local rfl rfl rfl) pl_nil)) rfl lz2) zM rfl rfl rfl rfl rfl rfl rfl ?_
        refine x_aug rfl p_int rfl ?_
        rw [cast1]
        exact x_nil (x_nil (Ex_nil (again _ (i + 1) (done ++ [(1, s1 c)]) _ _ rfl (by omega) ⟨rfl, rfl, trivial⟩ (addM (1, s1 c)) (by rw [hd1]; exact hl) (by rw [← hm]; simp) (by omega) (by simp; omega))))
    have n2 : c ∉ let7 := of_decide_eq_false (in_chars h2).symm
    refine x_if (t_cmp (p_local rfl rfl rfl) p_str o_ins rfl) (fun h3 => ?_) fun h3 => ?_
    · have hc7 : c ∈ dig7 := of_decide_eq_true (in_chars h3).symm
      cases hl with
      | blank => exact absurd rfl n1
      | letter hc => exact absurd hc n2
      | sign _ _ hc => exact absurd hc7 hc
      | digit _ hl =>
        refine x_append rfl (p_tuple (pl_cons (p_const rfl rfl rfl) (pl_cons (p_local rfl rfl rfl) pl_nil)) rfl lz2) zM rfl rfl rfl rfl rfl rfl rfl ?_
        refine x_aug rfl p_int rfl ?_
        rw [cast1]
        exact x_nil (x_nil (x_nil (Ex_nil (again _ (i + 1) (done ++ [(2, s1 c)]) _ _ rfl (by omega) ⟨rfl, rfl, trivial⟩ (addM (2, s1 c)) (by rw [hd1]; exact hl) (by rw [← hm]; simp) (by omega) (by simp; omega)))))
    cases hl with
    | blank => exact absurd rfl n1
    | letter hc => exact absurd hc n2
    | digit hc => exact absurd hc (of_decide_eq_false (in_chars h3).symm)
    | @sign _ p r' k ms' _ _ _ hp hx0 hlong hl =>
      have cast3 : ((i : Int) + 3) = ((i + 3 : Nat) : Int) := by omega
      have hle : (c :: (p ++ r')).length = x.length - i := by rw [← hcr, List.length_drop, ← hxl]
      refine x_set (p_slice_s (l := some (i : Int)) (u := some ((i + 3 : Nat) : Int)) (p_local rfl rfl rfl) (pt_some (p_local rfl rfl rfl)) (pt_some (by rw [← cast3]; exact p_bin (p_local rfl rfl rfl) p_int o_add)) (by rw [sizeLine_eq]; omega)) rfl rfl rfl ?_
      rw [slice_ab x (by omega) hi, hcr]
      refine x_while (fun n σ => n < 4 ∧ p.length + 1 ≤ n ∧ n ≤ (c :: (p ++ r')).length ∧ Has σ [("piece", .d (.str (sL ((c :: (p ++ r')).take n)))), ("at", .d (.int i)), ("text", .d (.str x))] ∧ σ.own = ow "marks" (done.map tkD)) (min 3 (c :: (p ++ r')).length)
        ⟨by omega, by simp at hle ⊢; omega, by omega, ⟨?_, rfl, rfl, trivial⟩, rfl⟩ ?_
      · show some (AV.d (.str (sL ((c :: (p ++ r')).take (i + 3 - i))))) = some (AV.d (.str (sL ((c :: (p ++ r')).take (min 3 (c :: (p ++ r')).length)))))
        have : (c :: (p ++ r')).take (i + 3 - i) = (c :: (p ++ r')).take (min 3 (c :: (p ++ r')).length) := by
          rw [List.take_eq_take_iff]; omega
        rw [this]
      · rintro n σ ⟨hn4, hn, hnl, hv, ho⟩
        have hlen : (sL ((c :: (p ++ r')).take n)).length = n := by simp [Str.length] at hnl ⊢; omega
        have hex : ∀ q : Str, (exactF q).isSome = (exacts.lookup q).isSome := fun q => by unfold exactF; simp
        refine ⟨_, t_bool (al_and (t_str (p_local hv.1 rfl rfl) (by rw [hlen]; omega) rfl) (fun _ => al_and (t_cmp (p_local hv.1 rfl rfl) (p_exact rfl) o_ninds rfl) (fun _ => al_andN))), fun h4 => ?_, fun h4 => ?_⟩
        · rw [hlen, hex] at h4
          simp only [Bool.and_true, Bool.and_eq_true, Bool.not_eq_true'] at h4
          have hne : n ≠ p.length + 1 := by
            rintro rfl
            have e : (c :: (p ++ r')).take (p.length + 1) = c :: p := by simp
            rw [e, hx0] at h4
            exact nomatch h4.2
          refine x_has _ _ hv ho ?_
          refine x_set (p_slice_s (l := none) (u := some (-1)) (p_local rfl rfl rfl) (fun _ k => pt_none k) (pt_some p_neg) (by rw [hlen, sizeLine_eq]; omega)) rfl rfl rfl ?_
          rw [slice_last _ (by rw [hlen]; omega), hlen]
          refine Ex_nil ⟨n - 1, by omega, by omega, by omega, by omega, ⟨?_, rfl, rfl, trivial⟩, rfl⟩
          show some (AV.d (.str (sL (((c :: (p ++ r')).take n).take (n - 1))))) = some (AV.d (.str (sL ((c :: (p ++ r')).take (n - 1)))))
          rw [List.take_take, Nat.min_eq_left (by omega)]
        · rw [hlen, hex] at h4
          have hne : n = p.length + 1 := by
            refine Classical.byContradiction fun hne => ?_
            rw [hlong n (by omega) (by omega) hnl] at h4
            have : decide (n ≠ 0) = true := decide_eq_true (by omega)
            rw [this] at h4
            exact nomatch h4
          subst hne
          have e : (c :: (p ++ r')).take (p.length + 1) = c :: p := by simp
          rw [e] at hv
          refine x_has _ _ hv ho ?_
          refine x_append rfl (p_tuple (pl_cons (p_get_ds (p_exact rfl) (p_local rfl rfl rfl) (p_const rfl rfl rfl) rfl rfl) (pl_cons (p_local rfl rfl rfl) pl_nil)) rfl lz2) zM rfl rfl rfl rfl rfl rfl rfl ?_
          have ev : (exactF (sL (c :: p))).getD (.int 0) = .int k := by unfold exactF; rw [hx0]; rfl
          rw [ev]
          refine x_aug rfl (p_bi (pl_cons p_int (pl_cons (p_bi (pl_cons (p_local rfl rfl rfl) pl_nil) (b_lens (by simp [Str.length]; omega)) rfl rfl ⟨_, _, rfl⟩ rfl) pl_nil)) b_max rfl rfl ⟨_, _, rfl⟩ rfl) rfl ?_
          have cast4 : ((i : Int) + max 1 ((sL (c :: p)).length : Int)) = ((i + (p.length + 1) : Nat) : Int) := by simp [Str.length]; omega
          rw [cast4]
          have hdr : x.cps.toList.drop (i + (p.length + 1)) = r' := by
            rw [← List.drop_drop, hcr]; simp
          exact x_nil (x_nil (x_nil (Ex_nil (again _ (i + (p.length + 1)) (done ++ [(k, sL (c :: p))]) _ _ rfl (by omega) ⟨rfl, rfl, trivial⟩ (addM (k, sL (c :: p))) (by rw [hdr]; exact hl) (by rw [← hm]; simp) (by simp at hnl; simp at hle; omega) (by simp; omega)))))
  · have hge : x.length ≤ i := by simpa using h
    have : x.cps.toList.drop i = [] := List.drop_of_length_le (by omega)
    rw [this] at hl
    cases hl
    rw [List.append_nil] at hm
    subst hm
    refine x_has _ _ hv ho ?_
    refine x_ret (p_bin (p_own rfl rfl rfl) (p_list (pl_cons (p_tuple (pl_cons (p_const rfl rfl rfl) (pl_cons p_str pl_nil)) rfl lz2) pl_nil) rfl lz1) (o_addl rfl rfl (by rw [List.length_map, sizeLine_eq]; simp; omega))) (ret_d ?_)
    rw [List.map_append]; rfl


/-- an expression that may take from the owned list -/
noncomputable def EvQ (c : Cx) (e : Expr) (σ : St) (a : AV) (σ' : St) : Prop := ∀ K : AV → St → Prop, K a σ' → Ev c e σ K
noncomputable def EvLQ (c : Cx) (ts : List (Bool × Sem Value)) (σ : St) (as : List AV) (σ' : St) : Prop := ∀ K : List AV → St → Prop, K as σ' → EvL c ts σ K
section
variable {c : Cx} {σ σ₁ σ₂ : St} {K : Fl → St → Prop} {rest : List Stmt}
theorem q_of {e : Expr} {a : AV} (h : EvP c e σ a) : EvQ c e σ a σ := h
theorem q_pop {x : Str} {p apos pos : Pos} {ds : List PyData} {d : PyData} (ho : σ.own = ow x (ds ++ [d])) (hz : ds.length < sizeLine) (hk : c.sc.names.lookup x = some .local) (hd : (x == ("__debug__" : Str)) = false) (hline : (apos.endLine == pos.line) = true) :
    EvQ c (.Call (.Attribute (.Name x p) "pop" apos) [] [] pos) σ (.d d) ⟨σ.vars, ow x ds⟩ := fun _ k => Ev_pop ho hz hk hd hline k
theorem ql_nil : EvLQ c [] σ [] σ := fun _ k => EvL_nil k
theorem ql_cons {x : Expr} {rest : List (Bool × Sem Value)} {a : AV} {as : List AV} (h1 : EvQ c x σ a σ₁) (h2 : EvLQ c rest σ₁ as σ₂) : EvLQ c ((false, eval x c.env) :: rest) σ (a :: as) σ₂ := fun _ k => EvL_cons (h1 _ (h2 _ k))
theorem q_tuple {es : List Expr} {k : Nat} {pos : Pos} {as : List AV} {ds : List PyData} (h1 : EvLQ c (backTo pos (starEach es c.env)) σ as σ₁) (h2 : datas as = some ds) (h3 : as.length ≤ sizeLine) : EvQ c (.Tuple es k pos) σ (.d (.tuple ds)) σ₁ := fun _ k => Ev_Tuple (h1 _ ⟨h3, ds, h2, k⟩)
theorem q_list {es : List Expr} {pos : Pos} {as : List AV} {ds : List PyData} (h1 : EvLQ c (backTo pos (starEach es c.env)) σ as σ₁) (h2 : datas as = some ds) (h3 : as.length ≤ sizeLine) : EvQ c (.List es pos) σ (.d (.list ds)) σ₁ := fun _ k => Ev_List (h1 _ ⟨h3, ds, h2, k⟩)
theorem q_bin {l r : Expr} {op : Operator} {pos : Pos} {a b z : AV} (h1 : EvQ c l σ a σ₁) (h2 : EvQ c r σ₁ b σ₂) (h3 : OpP c (binaryOp op) a b σ₂ z) : EvQ c (.BinOp l op r pos) σ z σ₂ := fun _ k => Ev_BinOp (h1 _ (h2 _ (h3 _ k)))
theorem x_setQ {x : Str} {pos' pos : Pos} {e : Expr} {a : AV} (h : EvQ c e σ a σ₁) (hk : c.sc.names.lookup x = some .local) (hp : a.plain = true) (hs : swapsWith e (some (.Name x pos')) pos.line c.env = pure false)
    (h2 : Ex c rest (σ₁.set x a) K) : Ex c (.Assign [.Name x pos'] e pos :: rest) σ K := x_cons (Ex1_Assign hk hs (h _ ⟨hp, h2⟩))
theorem x_appendQ {x : Str} {p apos pos pos' : Pos} {e : Expr} {ds ds' : List PyData} {d : PyData} (ho : σ.own = ow x ds) (h : EvQ c e σ (.d d) σ₁) (ho1 : σ₁.own = ow x ds') (hz : ds'.length < sizeLine) (hk : c.sc.names.lookup x = some .local) (hd : (x == ("__debug__" : Str)) = false)
    (hfew : ((backTo pos (starEach [e] c.env)).all (fun x => !x.1) && (backToKw pos (keywordEach [] c.env)).all (fun x => x.1.isSome) && decide (([e] : List Expr).length + ([] : List Keyword).length + (if ([] : List Keyword).isEmpty then 0 else 1) < 30)) = true)
    (hline : (apos.endLine == pos.line) = true) (htr : backTo pos (starEach [e] c.env) = [(false, eval e c.env)]) (hs : swapsWith (.Call (.Attribute (.Name x p) "append" apos) [e] [] pos) none pos'.line c.env = pure false) (hi : interactive c.env = false)
    (h2 : Ex c rest ⟨σ₁.vars, ow x (ds' ++ [d])⟩ K) : Ex c (.Expr (.Call (.Attribute (.Name x p) "append" apos) [e] [] pos) pos' :: rest) σ K :=
  x_cons (Ex1_Expr hs hi (Ev_append ho hk hd hfew hline htr (h _ ⟨d, ds', rfl, ho1, hz, h2⟩)))
end

/-- what may lie on the reader's stack: a tree or a mark -/
inductive It where
  | nd (o : Int) (h : 0 ≤ o) (ks : List PyData)
  | mk (n : Int) (h : 0 ≤ n ∧ n < 256) (s : Str)
noncomputable def It.num : It → Int
  | .nd o _ _ => 256 + o
  | .mk n _ _ => n
noncomputable def It.val : It → PyData
  | .nd _ _ ks => .list ks
  | .mk _ _ s => .str s
noncomputable def It.isT : It → Bool
  | .nd .. => true
  | .mk .. => false
noncomputable abbrev It.d (x : It) : PyData := .tuple [.int x.num, x.val]
theorem It.term (x : It) : decide (x.num < 256) = !x.isT := by
  cases x with
  | nd o h ks => exact decide_eq_false (show ¬ 256 + o < 256 by omega)
  | mk n h s => exact decide_eq_true h.2
theorem It.nont (x : It) : decide (256 ≤ x.num) = x.isT := by
  cases x with
  | nd o h ks => exact decide_eq_true (show 256 ≤ 256 + o by omega)
  | mk n h s => exact decide_eq_false (show ¬ 256 ≤ n by omega)
/-- a stack, its top first, as the list -/
noncomputable def sD (S : List It) : List PyData := (S.map It.d).reverse
theorem sD_cons (x : It) (S : List It) : sD (x :: S) = sD S ++ [x.d] := by simp [sD]
theorem sD_len (S : List It) : (sD S).length = S.length := by simp [sD]
theorem sD_get {S : List It} {k : Nat} {x : It} (h : S[k]? = some x) : (sD S)[(sD S).length - 1 - k]? = some x.d := by
  have hk := (List.getElem?_eq_some_iff.mp h).1
  unfold sD
  rw [List.getElem?_reverse (by simp; omega)]
  simp only [List.length_reverse, List.length_map]
  rw [show S.length - 1 - (S.length - 1 - k) = k by omega]
  simp [h]
noncomputable def topT : List It → Bool
  | [] => false
  | x :: _ => x.isT
noncomputable def folds (fo : Int → Option Int) (v : Int) : List It → Bool
  | _ :: .mk n _ _ :: R => match fo n with
    | none => false
    | some l => decide (v < (bif topT R then l else 9)) || (decide ((bif topT R then l else 9) = v) && decide ((bif topT R then l else 9) ≠ 10))
  | _ => false
section
variable {c : Cx} {σ : St}
/-- stack[-n][0] -/
theorem p_num {a : AV} {x : Str} {p p1 p2 p3 p4 p5 : Pos} {k1 k2 : Nat} {n : Int} {S : List It} {k : Nat} {y : It} (h : EvP c (.Name x p) σ a) (ha : AsList σ a = some (sD S)) (hn : -n = -((k : Int) + 1)) (h1 : k < 1000) (hy : S[k]? = some y) :
    EvP c (.Subscript (.Subscript (.Name x p) (.UnaryOp .USub (.Constant (.int n) k1 p1) p2) p3) (.Constant (.int 0) k2 p4) p5) σ (.d (.int y.num)) :=
  p_sub (p_sub h p_neg (s_ln (k := k) ha hn h1 (by rw [sD_len]; exact (List.getElem?_eq_some_iff.mp hy).1) (sD_get hy)) (fun _ _ => rfl)) p_int (s_t (j := 0) (xs := [.int y.num, y.val]) rfl (by decide) rfl) (fun _ _ => rfl)
end
theorem p_len {c : Cx} {σ : St} {e : Expr} {a : AV} {p pos : Pos} {xs : List PyData} {n : Nat} (h : EvP c e σ a) (ha : AsList σ a = some xs) (hn : xs.length = n) (hz : n < 1000000000) (hk : c.sc.names.lookup ("len" : Str) = some .globalImplicit)
    (he : backTo pos (starEach [e] c.env) = [(false, eval e c.env)]) : EvP c (.Call (.Name "len" p) [e] [] pos) σ (.d (.int n)) := by
  subst hn
  exact p_bi (by rw [he]; exact pl_cons h pl_nil) (b_len ha (by omega)) hk rfl ⟨_, _, he⟩ (by rw [he]; rfl)
theorem con_folds (g : Gl) (fo : Int → Option Int) (v : Int) (S : List It) (hz : S.length < 1000000) : Con g "_law_folds" 2 [.d (.list (sD S)), dI fo, .d (.int v)] (.bool (folds fo v S)) := by
  refine con_intro ["stack", "force", "level"] (List.mem_of_getElem? (i := 12) rfl) (fun pm cd doc vs hv => by obtain ⟨x, y, z, rfl⟩ := len3 hv; rfl) rfl (by decide) rfl rfl rfl rfl rfl (by decide) fun A L fa cd => ?_
  have no : folds fo v S = false → Fl.ret (.d (.bool false)) = Fl.ret (.d (.bool (folds fo v S))) := fun h => by rw [h]
  by_cases h2 : S.length < 2
  · refine x_ifn (t_bool (al_or (b := false) (t_cmp (p_len (p_local (a := .d (.list (sD S))) rfl rfl rfl) rfl (sD_len S) (by omega) rfl rfl) p_int o_lt rfl) (fun h => absurd (of_decide_eq_false h) (by omega)))) (fun _ => x_ret p_bool (no ?_)) (fun h => ?_)
    · match S, h2 with
      | [], _ => rfl
      | [x], _ => rfl
    · rw [decide_eq_true (by omega : (S.length : Int) < 2)] at h; cases h
  obtain ⟨x, y, R, rfl⟩ : ∃ x y R, S = x :: y :: R := by
    match S, h2 with
    | x :: y :: R, _ => exact ⟨x, y, R, rfl⟩
    | [], h => exact absurd (by simp) h
    | [x], h => exact absurd (by simp) h
  have hl : (sD (x :: y :: R)).length = R.length + 2 := by rw [sD_len]; rfl
  refine x_ifn (t_bool (al_or (t_cmp (p_len (p_local (a := .d (.list (sD (x :: y :: R)))) rfl rfl rfl) rfl hl (by simp at hz; omega) rfl rfl) p_int o_lt rfl) (fun _ => al_or (t_not (t_of (p_call (pl_cons (p_num (S := x :: y :: R) (p_local rfl rfl rfl) rfl rfl (by decide) rfl) pl_nil) (con_term g _) (Nat.le_refl 1) rfl (List.mem_of_getElem? (i := 0) rfl) rfl rfl ⟨_, _, rfl⟩) rfl))
    (fun _ => al_or (t_cmp (p_num (S := x :: y :: R) (p_local rfl rfl rfl) rfl rfl (by decide) rfl) (p_local rfl rfl rfl) o_nindi rfl) (fun _ => al_orN))))) (fun h => x_ret p_bool (no ?_)) (fun h => ?_)
  · cases y with
    | nd o ho ks => rfl
    | mk n hn s =>
      have : ¬ (((R.length + 2 : Nat) : Int) < 2) := by omega
      rw [It.term, decide_eq_false this] at h
      show (match fo n with | none => false | some l => _) = false
      cases hf : fo n with
      | none => rfl
      | some l =>
        rw [show (It.mk n hn s).num = n from rfl, hf] at h
        exact nomatch h
  · cases y with
    | nd o ho ks =>
      rw [It.term] at h
      simp [It.isT] at h
    | mk n hn s =>
      obtain ⟨l, hf⟩ : ∃ l, fo n = some l := by
        cases hf : fo n with
        | some l => exact ⟨l, rfl⟩
        | none =>
          rw [show (It.mk n hn s).num = n from rfl, hf] at h
          simp at h
      refine x_set (a := .d (.bool (topT R))) ?_ rfl rfl rfl ?_
      · cases R with
        | nil => exact p_and (a := false) (b := false) (p_cmp (p_len (p_local (a := .d (.list (sD [x, .mk n hn s]))) rfl rfl rfl) rfl hl (by decide) rfl rfl) p_int o_gt rfl) (fun h => nomatch h)
        | cons z R =>
          have e : topT (z :: R) = (decide ((2 : Int) < ((z :: R).length + 2 : Nat)) && decide (256 ≤ z.num)) := by
            rw [decide_eq_true (by simp; omega), z.nont]; rfl
          rw [e]
          exact p_and (p_cmp (p_len (p_local (a := .d (.list (sD (x :: .mk n hn s :: z :: R)))) rfl rfl rfl) rfl hl (by simp at hz ⊢; omega) rfl rfl) p_int o_gt rfl)
            (fun _ => p_call (pl_cons (p_num (S := x :: .mk n hn s :: z :: R) (p_local rfl rfl rfl) rfl rfl (by decide) rfl) pl_nil) (con_nont g _) (Nat.le_refl 1) rfl (List.mem_of_getElem? (i := 1) rfl) rfl rfl ⟨_, _, rfl⟩)
      refine x_set (p_if (t_of (p_local rfl rfl rfl) rfl) (fun _ => p_sub (p_local rfl rfl rfl) (p_num (S := x :: .mk n hn s :: R) (y := .mk n hn s) (p_local rfl rfl rfl) rfl rfl (by decide) rfl) (s_di (x := .int l) (by show (fo n).map _ = _; rw [hf]; rfl)) (fun _ _ => rfl)) (fun _ => p_int)) rfl rfl rfl ?_
      have e : (bif topT R then PyData.int l else .int 9) = .int (bif topT R then l else 9) := by cases topT R <;> rfl
      rw [e]
      refine x_ret (p_or (p_cmp (p_local rfl rfl rfl) (p_local rfl rfl rfl) o_gt rfl) (fun _ => p_and (p_cmp (p_local rfl rfl rfl) (p_local rfl rfl rfl) o_eq rfl) (fun _ => p_cmp (p_local rfl rfl rfl) p_int o_ne rfl))) ?_
      show Fl.ret (.d (.bool _)) = Fl.ret (.d (.bool (match fo n with | none => false | some l => _)))
      rw [hf]


/-- two trees and a sign, or a sign and a tree, made one -/
noncomputable def fold1 : List It → List It
  | a :: .mk n h s :: b :: R => bif b.isT then .nd n h.1 [b.d, a.d] :: R else .nd n h.1 [a.d] :: b :: R
  | [a, .mk n h s] => [.nd n h.1 [a.d]]
  | S => S
inductive FoldTo (fo : Int → Option Int) (v : Int) : List It → List It → Prop
  | stop {S} : folds fo v S = false → FoldTo fo v S S
  | step {S S'} : folds fo v S = true → FoldTo fo v (fold1 S) S' → FoldTo fo v S S'
/-- what lies above the mate: trees, and marks to part them -/
noncomputable def coll (mate apart : Int) : List It → List It → Nat → Option (List It × Nat × List It)
  | [], ks, g => some (ks, g, [])
  | x :: S, ks, g => if x.num = mate then some (ks, g, x :: S) else match x with
    | .mk n _ _ => if n = apart then coll mate apart S ks (g + 1) else none
    | .nd o h k => coll mate apart S (.nd o h k :: ks) g
noncomputable def isLeaf (n : Int) : Bool := ([1, 2, 52] : List Int).any fun y => y == n
noncomputable def clD (k : Int) : Option PyData := lastAt (fun p : Int × Int => p.1) (fun p => .int p.2) [(8, 7), (10, 9), (26, 25)] k none
inductive Nx : Tk → List It → List It → Prop
  | push {t : Tk} {S} (h : 0 ≤ t.1 ∧ t.1 < 256) : clD t.1 = none → t.1 ≠ 0 → Nx t S (.mk t.1 h t.2 :: S)
  | paren {t : Tk} {S ks g x R} : t.1 = 8 → coll 7 12 S [] 0 = some (ks, g, x :: R) → g = ks.length - 1 → Nx t S (ks.reverse ++ R)
  | brack {t : Tk} {S ks g x R} {m : Int} (h : 0 ≤ m) : clD t.1 = some (.int m) → t.1 ≠ 8 → coll m 12 S [] 0 = some (ks, g, x :: R) → g = ks.length - 1 → Nx t S (.nd m h (ks.map It.d) :: R)
noncomputable def Fld (fo : Int → Option Int) (t : Tk) (S S' : List It) : Prop := (topT S = true → FoldTo fo ((fo t.1).getD 0) S S') ∧ (topT S = false → S' = S)
inductive Stp (fo : Int → Option Int) : Tk → List It → List It → Prop
  | leaf {t : Tk} {S} : isLeaf t.1 = true → Stp fo t S (.nd 0 (Int.le_refl 0) [tkD t] :: S)
  | pre {t : Tk} {S} (h : 0 ≤ t.1 ∧ t.1 < 256) : isLeaf t.1 = false → (fo t.1).isSome = true → topT S = false → Stp fo t S (.mk t.1 h t.2 :: S)
  | other {t : Tk} {S S' S₁} : isLeaf t.1 = false → ((fo t.1).isSome && !topT S) = false → Fld fo t S S' → Nx t S' S₁ → Stp fo t S S₁
inductive Reads (fo : Int → Option Int) : List Tk → List It → List PyData → Prop
  | step {t ms S S₁ r} : Stp fo t S S₁ → Reads fo ms S₁ r → Reads fo (t :: ms) S r
  | fin {t : Tk} {ms S S' ks g R} : t.1 = 0 → ((fo t.1).isSome && !topT S) = false → Fld fo t S S' → coll (-1) 13 S' [] 0 = some (ks, g, R) → g = ks.length - 1 → Reads fo (t :: ms) S (ks.map It.d)

theorem fold1_len {fo : Int → Option Int} {v : Int} {S : List It} (h : folds fo v S = true) : (fold1 S).length < S.length := by
  unfold folds at h
  split at h
  · rename_i a n hn s R
    cases R with
    | nil => simp [fold1]
    | cons b R =>
      show (bif b.isT then It.nd n hn.1 [b.d, a.d] :: R else .nd n hn.1 [a.d] :: b :: R).length < _
      cases b.isT <;> simp
  · cases h
theorem FoldTo.len {fo : Int → Option Int} {v : Int} {S S' : List It} (h : FoldTo fo v S S') : S'.length ≤ S.length := by
  induction h with
  | stop => exact Nat.le_refl _
  | step h _ ih => exact Nat.le_trans ih (Nat.le_of_lt (fold1_len h))
theorem coll_len {mate apart : Int} : ∀ {S ks : List It} {g : Nat} {ks' : List It} {g' : Nat} {R : List It}, coll mate apart S ks g = some (ks', g', R) → ks'.length + R.length ≤ S.length + ks.length
  | [], ks, g, ks', g', R, h => by cases h; simp
  | x :: S, ks, g, ks', g', R, h => by
    unfold coll at h
    split at h
    · cases h; simp; omega
    · cases x with
      | mk n hn s =>
        dsimp only at h
        split at h
        · have := coll_len h; simp; omega
        · cases h
      | nd o ho k =>
        have := coll_len h
        simp at this ⊢; omega

section
variable {c : Cx} {K : Fl → St → Prop}
/-- after = len(stack) > 0 and ISNONTERMINAL(stack[-1][0]) -/
theorem p_after {vs : List (Str × AV)} {S : List It} {p1 p2 p3 p4 p5 p6 p7 p8 p9 p10 p11 p12 p13 p14 : Pos} {k1 k2 k3 : Nat} (hz : S.length < 1000000) (hr : 1 ≤ c.room) (h1 : c.sc.names.lookup ("stack" : Str) = some .local) (h2 : c.sc.names.lookup ("len" : Str) = some .globalImplicit) (h3 : c.sc.names.lookup ("ISNONTERMINAL" : Str) = some .globalImplicit) :
    EvP c (.BoolOp .And [.Compare (.Call (.Name "len" p1) [.Name "stack" p2] [] p3) [.Gt] [.Constant (.int 0) k1 p4] p5, .Call (.Name "ISNONTERMINAL" p6) [.Subscript (.Subscript (.Name "stack" p7) (.UnaryOp .USub (.Constant (.int 1) k2 p8) p9) p10) (.Constant (.int 0) k3 p11) p12] [] p13] p14) ⟨vs, ow "stack" (sD S)⟩ (.d (.bool (topT S))) := by
  have hl := p_len (c := c) (σ := ⟨vs, ow "stack" (sD S)⟩) (e := .Name "stack" p2) (p := p1) (pos := p3) (p_own rfl h1 rfl) rfl (sD_len S) (by omega) h2 rfl
  cases S with
  | nil => exact p_and (a := false) (b := false) (p_cmp hl p_int o_gt rfl) (fun h => nomatch h)
  | cons z R =>
    have e : topT (z :: R) = (decide ((0 : Int) < (z :: R).length) && decide (256 ≤ z.num)) := by
      rw [decide_eq_true (by simp), z.nont]; rfl
    rw [e]
    exact p_and (p_cmp hl p_int o_gt rfl) (fun _ => p_call (pl_cons (p_num (S := z :: R) (p_own rfl h1 rfl) rfl rfl (by decide) rfl) pl_nil) (con_nont c.g _) hr rfl (List.mem_of_getElem? (i := 1) rfl) h3 rfl ⟨_, _, rfl⟩)
end
theorem clD_rev (k : Int) : clD k = none ∨ ∃ m, clD k = some (.int m) ∧ 0 ≤ m := by
  unfold clD lastAt lastAt lastAt lastAt
  dsimp only
  split
  · exact .inr ⟨25, rfl, by decide⟩
  · split
    · exact .inr ⟨9, rfl, by decide⟩
    · split
      · exact .inr ⟨7, rfl, by decide⟩
      · exact .inl rfl
theorem p_get_dI {c : Cx} {σ : St} {x : Str} {p apos pos : Pos} {k d : Expr} {f : Int → Option Int} {i j : Int} (h1 : EvP c (.Name x p) σ (dI f)) (h2 : EvP c k σ (.d (.int i))) (h3 : EvP c d σ (.d (.int j)))
    (hline : (apos.endLine == pos.line) = true) (htr : backTo pos (starEach [k, d] c.env) = [(false, eval k c.env), (false, eval d c.env)]) : EvP c (.Call (.Attribute (.Name x p) "get" apos) [k, d] [] pos) σ (.d (.int ((f i).getD j))) := by
  have h := p_get_di h1 h2 h3 hline htr
  have e : ((f i).map PyData.int).getD (.int j) = .int ((f i).getD j) := by cases f i <;> rfl
  rw [e] at h
  exact h
theorem folds_form {fo : Int → Option Int} {v : Int} {S : List It} (h : folds fo v S = true) : ∃ a n hn s R, S = a :: .mk n hn s :: R := by
  unfold folds at h
  split at h
  · exact ⟨_, _, _, _, _, rfl⟩
  · cases h
/-- what the turn leads to behind the folding -/
structure End (fo : Int → Option Int) (t : Tk) (S' : List It) (ms : List Tk) (r : List PyData) (m ap : Int) (ks : List It) (g : Nat) (R : List It) : Prop where
  mate : (clD t.1).getD (.int (-1)) = .int m
  apart : (bif (clD t.1).isSome then PyData.int 12 else .int 13) = .int ap
  coll : coll m ap S' [] 0 = some (ks, g, R)
  gaps : g = ks.length - 1
  tail : ((clD t.1).isSome = false ∧ r = ks.map It.d) ∨ ((clD t.1).isSome = true ∧ ∃ x R', R = x :: R' ∧ ((t.1 = 8 ∧ Reads fo ms (ks.reverse ++ R') r) ∨ (t.1 ≠ 8 ∧ ∃ h : 0 ≤ m, Reads fo ms (.nd m h (ks.map It.d) :: R') r)))
theorem reads_else {fo : Int → Option Int} {t : Tk} {ms : List Tk} {S : List It} {r : List PyData} (h : Reads fo (t :: ms) S r) (hl : isLeaf t.1 = false) (hp : ((fo t.1).isSome && !topT S) = false) :
    ∃ S', Fld fo t S S' ∧ (((clD t.1).isSome = false ∧ t.1 ≠ 0 ∧ ∃ h : 0 ≤ t.1 ∧ t.1 < 256, Reads fo ms (.mk t.1 h t.2 :: S') r) ∨
      (((clD t.1).isSome || decide (t.1 = 0)) = true ∧ ∃ m ap ks g R, End fo t S' ms r m ap ks g R)) := by
  cases h with
  | step s h =>
    cases s with
    | leaf q => rw [hl] at q; cases q
    | pre _ _ q1 q2 => rw [q1, q2] at hp; cases hp
    | other _ _ F N =>
      refine ⟨_, F, ?_⟩
      cases N with
      | push hn q1 q2 => exact .inl ⟨by rw [q1]; rfl, q2, hn, h⟩
      | paren q1 q2 q3 =>
        have e : clD t.1 = some (.int 7) := by rw [q1]; rfl
        exact .inr ⟨by rw [e]; rfl, 7, 12, _, _, _, by rw [e]; rfl, by rw [e]; rfl, q2, q3, .inr ⟨by rw [e]; rfl, _, _, rfl, .inl ⟨q1, h⟩⟩⟩
      | brack hm e q1 q2 q3 => exact .inr ⟨by rw [e]; rfl, _, 12, _, _, _, by rw [e]; rfl, by rw [e]; rfl, q2, q3, .inr ⟨by rw [e]; rfl, _, _, rfl, .inr ⟨q1, hm, h⟩⟩⟩
  | fin q0 _ F q2 q3 =>
    have e : clD t.1 = none := by rw [q0]; rfl
    exact ⟨_, F, .inr ⟨by rw [decide_eq_true q0]; cases (clD t.1).isSome <;> rfl, -1, 13, _, _, _, by rw [e]; rfl, by rw [e]; rfl, q2, q3, .inl ⟨by rw [e]; rfl, rfl⟩⟩⟩
noncomputable def goes (m : Int) : List It → Bool
  | [] => false
  | x :: _ => decide (x.num ≠ m)
set_option maxHeartbeats 1000000 in
theorem con_read (g : Gl) (fo : Int → Option Int) (x : Str) (ms : List Tk) (r : List PyData) (hx : x.length < 100000) (hms : ms.length < 100000) (hL : Lexes x.cps.toList ms) (hR : Reads fo (ms ++ [theEnd]) [] r) : Con g "_law_read" 4 [.d (.str x), dI fo] (ndD 13 r) := by
  refine con_intro ["text", "force"] (List.mem_of_getElem? (i := 13) rfl) (fun pm cd doc vs hv => by obtain ⟨x, y, rfl⟩ := len2 hv; rfl) rfl (by decide) rfl rfl rfl rfl rfl (by decide) fun A L fa cd => ?_
  refine x_set (a := .di clD) (p_dict [⟨.Name "RPAR" ⟨171, 14, 171, 18⟩, .Name "LPAR" ⟨171, 20, 171, 24⟩, 8, 7⟩, ⟨.Name "RSQB" ⟨171, 26, 171, 30⟩, .Name "LSQB" ⟨171, 32, 171, 36⟩, 10, 9⟩, ⟨.Name "RBRACE" ⟨171, 38, 171, 44⟩, .Name "LBRACE" ⟨171, 46, 171, 52⟩, 26, 25⟩] (fun p hp => ?_) rfl (by simp) (by simp)) rfl rfl rfl ?_
  · simp only [List.mem_cons, List.not_mem_nil, or_false] at hp
    rcases hp with rfl | rfl | rfl <;> exact ⟨p_const rfl rfl rfl, p_const rfl rfl rfl⟩
  refine x_own (n_list pl_nil rfl (Nat.zero_le _)) rfl rfl ?_
  refine x_for (xs := (ms ++ [theEnd]).map tkD) (fun i σ => ∃ S, Reads fo ((ms ++ [theEnd]).drop i) S r ∧ S.length ≤ i ∧ Has σ [("force", dI fo), ("closes", .di clD)] ∧ σ.own = ow "stack" (sD S)) (p_call (pl_cons (p_local rfl rfl rfl) pl_nil) (con_marks g x ms (by omega) hL) (show 1 ≤ 3 by decide) rfl (List.mem_of_getElem? (i := 11) rfl) rfl rfl ⟨_, _, rfl⟩) rfl (fun _ => rfl) ⟨[], hR, Nat.le_refl _, ⟨rfl, rfl, trivial⟩, rfl⟩ ?_ ?_
  · rintro i σ d hd ⟨S, hr, hl, hv, ho⟩
    obtain ⟨t, ht, rfl⟩ : ∃ t, (ms ++ [theEnd])[i]? = some t ∧ tkD t = d := by
      rw [List.getElem?_map] at hd
      cases e : (ms ++ [theEnd])[i]? with
      | none => rw [e] at hd; cases hd
      | some t => rw [e] at hd; exact ⟨t, rfl, by simpa using hd⟩
    have hi : i < 100001 := by have := (List.getElem?_eq_some_iff.mp ht).1; simp at this; omega
    rw [drop_at ht] at hr
    refine x_has1 _ _ hv ho ?_
    refine x_set (p_sub (p_local rfl rfl rfl) p_int (s_t (j := 0) (x := .int t.1) rfl (by decide) rfl) (fun _ _ => rfl)) rfl rfl rfl ?_
    refine x_set (p_after (S := S) (by omega) (show 1 ≤ 3 by decide) rfl rfl rfl) rfl rfl rfl ?_
    have zS : (sD S).length < sizeLine := by rw [sD_len, sizeLine_eq]; omega
    refine x_if (t_cmp (p_local rfl rfl rfl) (p_tuple (pl_cons (p_const rfl rfl rfl) (pl_cons (p_const rfl rfl rfl) (pl_cons (p_const rfl rfl rfl) pl_nil))) rfl lz3) (o_int (i := t.1) (xs := [1, 2, 52])) rfl) (fun h1 => ?_) fun h1 => ?_
    · have h1 : isLeaf t.1 = true := h1
      cases hr with
      | fin q => rw [q] at h1; cases h1
      | step s hr =>
        cases s with
        | pre _ q => rw [q] at h1; cases h1
        | other q => rw [q] at h1; cases h1
        | leaf =>
          refine x_append rfl (p_tuple (pl_cons (p_const rfl rfl rfl) (pl_cons (p_list (pl_cons (p_local rfl rfl rfl) pl_nil) rfl lz1) pl_nil)) rfl lz2) zS rfl rfl rfl rfl rfl rfl rfl ?_
          exact x_nil (Ex_nil ⟨_, hr, by simp; omega, ⟨rfl, rfl, trivial⟩, by rw [sD_cons]; rfl⟩)
    have h1 : isLeaf t.1 = false := h1
    refine x_if (t_bool (al_and (t_cmp (p_local rfl rfl rfl) (p_local rfl rfl rfl) o_indi rfl) (fun _ => al_and (t_not (t_of (p_local rfl rfl rfl) rfl)) (fun _ => al_andN)))) (fun h2 => ?_) fun h2 => ?_
    · have h2 : ((fo t.1).isSome && !topT S) = true := by simpa using h2
      cases hr with
      | fin _ q => rw [q] at h2; cases h2
      | step s hr =>
        cases s with
        | leaf q => rw [q] at h1; cases h1
        | other _ q => rw [q] at h2; cases h2
        | pre hn =>
          refine x_append rfl (p_local rfl rfl rfl) zS rfl rfl rfl rfl rfl rfl rfl ?_
          exact x_nil (x_nil (Ex_nil ⟨_, hr, by simp; omega, ⟨rfl, rfl, trivial⟩, by rw [sD_cons]; rfl⟩))
    have h2 : ((fo t.1).isSome && !topT S) = false := by simpa using h2
    obtain ⟨S', F, hT⟩ := reads_else hr h1 h2
    refine x_while (fun n σ => ∃ S₂, ((topT S = true → FoldTo fo ((fo t.1).getD 0) S₂ S') ∧ (topT S = false → S' = S₂)) ∧ S₂.length ≤ i ∧ n = S₂.length ∧ Has σ [("force", dI fo), ("closes", .di clD), ("mark", .d (tkD t)), ("number", .d (.int t.1)), ("after", .d (.bool (topT S)))] ∧ σ.own = ow "stack" (sD S₂)) S.length
      ⟨S, F, hl, rfl, ⟨rfl, rfl, rfl, rfl, rfl, trivial⟩, rfl⟩ ?_
    rintro n σ ⟨S₂, hF, hl₂, rfl, hv, ho⟩
    refine ⟨_, t_bool (al_and (t_of (p_local hv.2.2.2.2.1 rfl rfl) rfl) (fun _ => al_and (t_of (p_callL (pl_cons (p_own ho rfl rfl) (pl_cons (p_local hv.1 rfl rfl) (pl_cons (p_get_dI (p_local hv.1 rfl rfl) (p_local hv.2.2.2.1 rfl rfl) p_int rfl rfl) pl_nil)))
      (by show Con g _ _ [AV.seen σ .own, _, _] _
          unfold AV.seen
          rw [ho]
          exact con_folds g fo ((fo t.1).getD 0) S₂ (by omega)) (show 2 ≤ 3 by decide) rfl (List.mem_of_getElem? (i := 12) rfl) rfl rfl ⟨_, _, rfl⟩) rfl) (fun _ => al_andN))), fun h3 => ?_, fun h3 => ?_⟩
    · have h4 : topT S = true ∧ folds fo ((fo t.1).getD 0) S₂ = true := by simpa using h3
      have hF₂ := hF.1 h4.1
      obtain ⟨a, n, hn, s, R, rfl⟩ := folds_form h4.2
      cases hF₂ with
      | stop q => rw [h4.2] at q; cases q
      | step _ hF₂ =>
        simp only [List.length_cons] at hl₂
        have zR : (sD R).length < sizeLine := by rw [sD_len, sizeLine_eq]; omega
        refine x_has _ _ hv ho ?_
        rw [sD_cons, sD_cons]
        refine x_setQ (q_list (ql_cons (q_pop rfl (by rw [List.length_append, List.length_singleton, sD_len, sizeLine_eq]; omega) rfl rfl rfl) ql_nil) rfl lz1) rfl rfl rfl ?_
        refine x_setQ (q_pop rfl zR rfl rfl rfl) rfl rfl rfl ?_
        cases R with
        | nil =>
          refine x_ifn (t_bool (al_and (b := false) (t_list (p_own rfl rfl rfl) rfl (show 0 < 2 ^ 63 by decide) rfl) (fun h => nomatch h))) (fun h => nomatch h) fun _ => ?_
          refine x_append rfl (p_tuple (pl_cons (p_bin (p_const rfl rfl rfl) (p_sub (p_local rfl rfl rfl) p_int (s_t (j := 0) (x := .int n) rfl (by decide) rfl) (fun _ _ => rfl)) o_add) (pl_cons (p_local rfl rfl rfl) pl_nil)) rfl lz2) zR rfl rfl rfl rfl rfl rfl rfl ?_
          exact Ex_nil ⟨1, by simp, [.nd n hn.1 [a.d]], ⟨fun _ => hF₂, fun q => by rw [h4.1] at q; cases q⟩, by simp; omega, rfl, ⟨rfl, rfl, rfl, rfl, rfl, trivial⟩, rfl⟩
        | cons b R =>
          refine x_ifn (t_bool (al_and (t_list (p_own rfl rfl rfl) rfl (show (sD (b :: R)).length < 2 ^ 63 by rw [sD_len]; omega) rfl) (fun _ => al_and (t_of (p_call (pl_cons (p_num (S := b :: R) (p_own rfl rfl rfl) rfl rfl (by decide) rfl) pl_nil) (con_nont g _) (show 1 ≤ 3 by decide) rfl (List.mem_of_getElem? (i := 1) rfl) rfl rfl ⟨_, _, rfl⟩) rfl) (fun _ => al_andN)))) (fun hb => ?_) fun hb => ?_
          · have hb : b.isT = true := by
              rw [It.nont] at hb
              simpa [sD] using hb
            have hF₂ : FoldTo fo ((fo t.1).getD 0) (.nd n hn.1 [b.d, a.d] :: R) S' := by
              have e : fold1 (a :: .mk n hn s :: b :: R) = .nd n hn.1 [b.d, a.d] :: R := by
                show (bif b.isT then _ else _) = _
                rw [hb]; rfl
              rw [← e]; exact hF₂
            simp only [List.length_cons] at hl₂
            have zR : (sD R).length < sizeLine := by rw [sD_len, sizeLine_eq]; omega
            rw [sD_cons]
            refine x_setQ (q_bin (q_list (ql_cons (q_pop rfl zR rfl rfl rfl) ql_nil) rfl lz1) (q_of (p_local rfl rfl rfl)) (o_addl rfl rfl lz2)) rfl rfl rfl (x_nil ?_)
            refine x_append rfl (p_tuple (pl_cons (p_bin (p_const rfl rfl rfl) (p_sub (p_local rfl rfl rfl) p_int (s_t (j := 0) (x := .int n) rfl (by decide) rfl) (fun _ _ => rfl)) o_add) (pl_cons (p_local rfl rfl rfl) pl_nil)) rfl lz2) zR rfl rfl rfl rfl rfl rfl rfl ?_
            exact Ex_nil ⟨R.length + 1, by simp, .nd n hn.1 [b.d, a.d] :: R, ⟨fun _ => hF₂, fun q => by rw [h4.1] at q; cases q⟩, by simp; omega, rfl, ⟨rfl, rfl, rfl, rfl, rfl, trivial⟩, by rw [sD_cons]; rfl⟩
          · have hb : b.isT = false := by
              rw [It.nont] at hb
              simpa [sD] using hb
            have hF₂ : FoldTo fo ((fo t.1).getD 0) (.nd n hn.1 [a.d] :: b :: R) S' := by
              have e : fold1 (a :: .mk n hn s :: b :: R) = .nd n hn.1 [a.d] :: b :: R := by
                show (bif b.isT then _ else _) = _
                rw [hb]; rfl
              rw [← e]; exact hF₂
            simp only [List.length_cons] at hl₂
            refine x_append rfl (p_tuple (pl_cons (p_bin (p_const rfl rfl rfl) (p_sub (p_local rfl rfl rfl) p_int (s_t (j := 0) (x := .int n) rfl (by decide) rfl) (fun _ _ => rfl)) o_add) (pl_cons (p_local rfl rfl rfl) pl_nil)) rfl lz2) zR rfl rfl rfl rfl rfl rfl rfl ?_
            exact Ex_nil ⟨R.length + 2, by simp, .nd n hn.1 [a.d] :: b :: R, ⟨fun _ => hF₂, fun q => by rw [h4.1] at q; cases q⟩, by simp; omega, rfl, ⟨rfl, rfl, rfl, rfl, rfl, trivial⟩, by rw [sD_cons (.nd n hn.1 [a.d])]; rfl⟩
    · have hS : S' = S₂ := by
        cases hT : topT S with
        | false => exact hF.2 hT
        | true =>
          rw [hT] at h3
          cases hF.1 hT with
          | stop => rfl
          | step q => rw [q] at h3; cases h3
      subst hS
      clear hF h3
      refine x_has [("force", dI fo), ("closes", .di clD), ("mark", .d (tkD t)), ("number", .d (.int t.1))] _ ⟨hv.1, hv.2.1, hv.2.2.1, hv.2.2.2.1, trivial⟩ ho ?_
      have zS : (sD S').length < sizeLine := by rw [sD_len, sizeLine_eq]; omega
      refine x_if (t_bool (al_or (t_cmp (p_local rfl rfl rfl) (p_local rfl rfl rfl) o_indi rfl) (fun _ => al_or (t_of (p_call (pl_cons (p_local rfl rfl rfl) pl_nil) (con_eof g _) (show 1 ≤ 3 by decide) rfl (List.mem_of_getElem? (i := 2) rfl) rfl rfl ⟨_, _, rfl⟩) rfl) (fun _ => al_orN)))) (fun h3 => ?_) fun h3 => ?_
      · rcases hT with ⟨q1, q2, _⟩ | ⟨_, m, ap, ks, gp, R, E⟩
        · rw [q1, decide_eq_false q2] at h3; cases h3
        refine x_set (p_get_di (p_local rfl rfl rfl) (p_local rfl rfl rfl) p_neg rfl rfl) rfl rfl rfl ?_
        rw [E.mate]
        refine x_set (p_if (t_cmp (p_local rfl rfl rfl) (p_local rfl rfl rfl) o_indi rfl) (fun _ => p_const rfl rfl rfl) (fun _ => p_const rfl rfl rfl)) rfl rfl rfl ?_
        rw [E.apart]
        refine x_set (p_list pl_nil rfl (Nat.zero_le _)) rfl rfl rfl ?_
        refine x_set p_int rfl rfl rfl ?_
        refine x_while (fun n σ => ∃ S₃ ks₃ g₃, coll m ap S₃ ks₃ g₃ = some (ks, gp, R) ∧ S₃.length + ks₃.length ≤ i ∧ n = S₃.length ∧ Has σ [("force", dI fo), ("closes", .di clD), ("mark", .d (tkD t)), ("number", .d (.int t.1)), ("mate", .d (.int m)), ("apart", .d (.int ap)), ("kids", .d (.list (ks₃.map It.d))), ("gaps", .d (.int (g₃ : Nat)))] ∧ σ.own = ow "stack" (sD S₃)) S'.length
          ⟨S', [], 0, E.coll, hl₂, rfl, ⟨rfl, rfl, rfl, rfl, rfl, rfl, rfl, rfl, trivial⟩, rfl⟩ ?_
        rintro n σ ⟨S₃, ks₃, g₃, hC, hl₃, rfl, hv, ho⟩
        refine ⟨goes m S₃, ?_, fun h4 => ?_, fun h4 => ?_⟩
        · cases S₃ with
          | nil => exact t_bool (al_and (b := false) (t_list (xs := sD []) (p_own ho rfl rfl) (by show σ.own.map _ = _; rw [ho]; rfl) (show 0 < 2 ^ 63 by decide) rfl) (fun h => nomatch h))
          | cons x S₃ =>
            have e : goes m (x :: S₃) = (!(sD (x :: S₃)).isEmpty && (decide (x.num ≠ m) && true)) := by simp [goes, sD]
            rw [e]
            exact t_bool (al_and (t_list (xs := sD (x :: S₃)) (p_own ho rfl rfl) (by show σ.own.map _ = _; rw [ho]; rfl) (by rw [sD_len]; omega) rfl) (fun _ => al_and (t_cmp (p_num (S := x :: S₃) (p_own ho rfl rfl) (by show σ.own.map _ = _; rw [ho]; rfl) rfl (by decide) rfl) (p_local hv.2.2.2.2.1 rfl rfl) o_ne rfl) (fun _ => al_andN)))
        · cases S₃ with
          | nil => cases h4
          | cons x S₃ =>
            have hne : x.num ≠ m := of_decide_eq_true h4
            unfold coll at hC
            rw [if_neg hne] at hC
            simp only [List.length_cons] at hl₃
            have zS₃ : (sD S₃).length < sizeLine := by rw [sD_len, sizeLine_eq]; omega
            refine x_has _ _ hv ho ?_
            rw [sD_cons]
            refine x_setQ (q_pop rfl zS₃ rfl rfl rfl) rfl rfl rfl ?_
            refine x_if (t_of (p_call (pl_cons (p_sub (p_local rfl rfl rfl) p_int (s_t (j := 0) (xs := [.int x.num, x.val]) rfl (by decide) rfl) (fun _ _ => rfl)) pl_nil) (con_term g _) (show 1 ≤ 3 by decide) rfl (List.mem_of_getElem? (i := 0) rfl) rfl rfl ⟨_, _, rfl⟩) rfl) (fun h5 => ?_) fun h5 => ?_
            · cases x with
              | nd o h k => rw [It.term] at h5; cases h5
              | mk n hn s =>
                dsimp only at hC
                by_cases e : n = ap
                · rw [if_pos e] at hC
                  refine x_ifn (t_cmp (p_sub (p_local rfl rfl rfl) p_int (s_t (j := 0) (x := .int n) rfl (by decide) rfl) (fun _ _ => rfl)) (p_local rfl rfl rfl) o_ne rfl) (fun h6 => absurd e (of_decide_eq_true h6)) fun h6 => ?_
                  refine x_aug rfl p_int rfl (x_nil (Ex_nil ⟨S₃.length, by simp, S₃, ks₃, g₃ + 1, hC, by omega, rfl, ⟨rfl, rfl, rfl, rfl, rfl, rfl, rfl, rfl, trivial⟩, rfl⟩))
                · rw [if_neg e] at hC; cases hC
            · cases x with
              | mk n hn s => rw [It.term] at h5; cases h5
              | nd o h k =>
                refine x_set (p_bin (p_list (pl_cons (p_local rfl rfl rfl) pl_nil) rfl lz1) (p_local rfl rfl rfl) (o_addl rfl rfl (by simp; rw [sizeLine_eq]; omega))) rfl rfl rfl ?_
                exact x_nil (Ex_nil ⟨S₃.length, by simp, S₃, .nd o h k :: ks₃, g₃, hC, by simp; omega, rfl, ⟨rfl, rfl, rfl, rfl, rfl, rfl, rfl, rfl, trivial⟩, rfl⟩)
        · have hC' : coll m ap S₃ ks₃ g₃ = some (ks₃, g₃, S₃) := by
            cases S₃ with
            | nil => rfl
            | cons x S₃ =>
              have : x.num = m := Classical.byContradiction fun q => by rw [show goes m (x :: S₃) = true from decide_eq_true q] at h4; cases h4
              unfold coll
              rw [if_pos this]
          rw [hC'] at hC
          obtain ⟨rfl, rfl, rfl⟩ : ks₃ = ks ∧ g₃ = gp ∧ S₃ = R := by simpa using hC
          refine x_has _ _ hv ho ?_
          have cast : max 0 ((ks₃.length : Int) - 1) = (g₃ : Int) := by have := E.gaps; omega
          refine x_ifn (t_cmp (p_local rfl rfl rfl) (p_bi (pl_cons p_int (pl_cons (p_bin (p_len (p_local rfl rfl rfl) rfl (List.length_map It.d) (by omega) rfl rfl) p_int o_sub) pl_nil)) b_max rfl rfl ⟨_, _, rfl⟩ rfl) o_ne rfl) (fun h5 => absurd cast.symm (of_decide_eq_true h5)) fun h5 => ?_
          rcases E.tail with ⟨q1, q2⟩ | ⟨q1, x, R', rfl, q2⟩
          · refine x_ifn (t_cmp (p_local rfl rfl rfl) (p_local rfl rfl rfl) o_nindi rfl) (fun _ => ?_) fun h6 => by rw [q1] at h6; cases h6
            exact x_ret (p_tuple (pl_cons (p_bin (p_const rfl rfl rfl) (p_const rfl rfl rfl) o_add) (pl_cons (p_local rfl rfl rfl) pl_nil)) rfl lz2) (ret_d (by rw [q2]))
          · refine x_ifn (t_cmp (p_local rfl rfl rfl) (p_local rfl rfl rfl) o_nindi rfl) (fun h6 => by rw [q1] at h6; cases h6) fun _ => ?_
            simp only [List.length_cons] at hl₃
            refine x_own (n_slice_l (l := none) (u := some (-1)) (p_own rfl rfl rfl) (fun _ k => pt_none k) (pt_some p_neg) rfl (by show (sD (x :: R')).length ≤ _; rw [sD_len, sizeLine_eq, List.length_cons]; omega) pick_butLast) rfl rfl ?_
            have e : (sD (x :: R')).take ((sD (x :: R')).length - 1) = sD R' := by rw [sD_cons]; simp
            rw [e]
            refine x_if (t_cmp (p_local rfl rfl rfl) (p_const rfl rfl rfl) o_eq rfl) (fun h6 => ?_) fun h6 => ?_
            · rcases q2 with ⟨_, hr'⟩ | ⟨q3, _⟩
              · refine x_own (n_add (p_own rfl rfl rfl) (p_local rfl rfl rfl) rfl rfl (by show (sD R').length + _ ≤ _; rw [sD_len, sizeLine_eq, List.length_map]; omega)) rfl rfl ?_
                refine x_nil (x_nil (x_nil (x_nil (Ex_nil ⟨ks₃.reverse ++ R', hr', by simp; omega, ⟨rfl, rfl, trivial⟩, ?_⟩))))
                show ow "stack" (sD R' ++ ks₃.map It.d) = ow "stack" (sD (ks₃.reverse ++ R'))
                simp [sD, ow]
              · exact absurd (of_decide_eq_true h6) q3
            · rcases q2 with ⟨q3, _⟩ | ⟨_, hm, hr'⟩
              · exact absurd q3 (of_decide_eq_false h6)
              · refine x_append rfl (p_tuple (pl_cons (p_bin (p_const rfl rfl rfl) (p_local rfl rfl rfl) o_add) (pl_cons (p_local rfl rfl rfl) pl_nil)) rfl lz2) (by rw [sD_len, sizeLine_eq]; omega) rfl rfl rfl rfl rfl rfl rfl ?_
                exact x_nil (x_nil (x_nil (x_nil (Ex_nil ⟨.nd m hm (ks₃.map It.d) :: R', hr', by simp; omega, ⟨rfl, rfl, trivial⟩, by rw [sD_cons (.nd m hm (ks₃.map It.d))]; rfl⟩))))
      · rcases hT with ⟨_, _, hn, hr'⟩ | ⟨q, _⟩
        · refine x_append rfl (p_local rfl rfl rfl) zS rfl rfl rfl rfl rfl rfl rfl ?_
          exact x_nil (x_nil (x_nil (Ex_nil ⟨_, hr', by simp; omega, ⟨rfl, rfl, trivial⟩, by rw [sD_cons]; rfl⟩)))
        · rw [Bool.or_false, q] at h3; cases h3
  · rintro σ ⟨S, hr, _⟩
    rw [List.length_map, List.drop_length] at hr
    cases hr


noncomputable def leastF (fo : Int → Option Int) (own count place : Int) : Int :=
  match fo own with
  | none => 0
  | some level => if count = 1 then 9 else if level = 10 then 11 - 2 * place else if place = 1 ∨ level = 2 then level + 1 else level
theorem con_least (g : Gl) (fo : Int → Option Int) (own count place : Int) : Con g "_law_least" 1 [.d (.int own), .d (.int count), .d (.int place), dI fo] (.int (leastF fo own count place)) := by
  refine con_intro ["own", "count", "place", "force"] (List.mem_of_getElem? (i := 8) rfl) (fun pm cd doc vs hv => by obtain ⟨x, y, z, w, rfl⟩ := len4 hv; rfl) rfl (by decide) rfl rfl rfl rfl rfl (by decide) fun A L fa cd => ?_
  refine x_ifn (t_cmp (p_local rfl rfl rfl) (p_local rfl rfl rfl) o_nindi rfl) (fun h => ?_) fun h => ?_
  · refine x_ret p_int (ret_i ?_)
    have : fo own = none := by simpa using h
    simp [leastF, this]
  obtain ⟨level, hl⟩ : ∃ l, fo own = some l := by cases e : fo own <;> simp_all
  have hu : leastF fo own count place = if count = 1 then 9 else if level = 10 then 11 - 2 * place else if place = 1 ∨ level = 2 then level + 1 else level := by simp [leastF, hl]
  rw [hu]
  refine x_ifn (t_cmp (p_local rfl rfl rfl) p_int o_eq rfl) (fun h1 => x_ret p_int (ret_i (if_pos (of_decide_eq_true h1)).symm)) fun h1 => ?_
  rw [if_neg (of_decide_eq_false h1)]
  refine x_set (p_sub (p_local rfl rfl rfl) (p_local rfl rfl rfl) (s_di (x := .int level) (by rw [hl]; rfl)) (fun _ _ => rfl)) rfl rfl rfl ?_
  refine x_ifn (t_cmp (p_local rfl rfl rfl) p_int o_eq rfl) (fun h2 => x_ret (p_bin p_int (p_bin p_int (p_local rfl rfl rfl) o_mul2) o_sub) (ret_i (if_pos (of_decide_eq_true h2)).symm)) fun h2 => ?_
  rw [if_neg (of_decide_eq_false h2)]
  refine x_ret (p_if (t_bool (al_or (t_cmp (p_local rfl rfl rfl) p_int o_eq rfl) (fun _ => al_or (t_cmp (p_local rfl rfl rfl) p_int o_eq rfl) (fun _ => al_orN)))) (fun _ => p_bin (p_local rfl rfl rfl) p_int o_add) (fun _ => p_local rfl rfl rfl)) ?_
  by_cases h3 : place = 1 <;> by_cases h4 : level = 2 <;> simp [h3, h4]

/-- if t: x = True -/
theorem x_iset {c : Cx} {σ : St} {K : Fl → St → Prop} {rest : List Stmt} {x : Str} {t : Expr} {p1 p3 p2 p4 : Pos} {k : Nat} {q b : Bool} (ht : TsP c t σ q) (hl : σ.vars.lookup x = some (.d (.bool b))) (ho : dropOwn x σ.own = σ.own) (hk : c.sc.names.lookup x = some .local) (hs : swapsWith (.Constant (.bool true) k p2) (some (.Name x p1)) p3.line c.env = pure false)
    (h : Ex c rest (σ.set x (.d (.bool (b || q)))) K) : Ex c (.If t [.Assign [.Name x p1] (.Constant (.bool true) k p2) p3] [] p4 :: rest) σ K := by
  refine x_ifn ht (fun e => ?_) fun e => ?_
  · rw [e, Bool.or_true] at h
    exact x_set p_bool hk rfl hs (x_nil h)
  · rw [e, Bool.or_false] at h
    refine x_less ⟨fun p hp => ?_, ho⟩ h
    rcases List.mem_cons.mp hp with e | e
    · rw [e]; exact mem_of_lookup hl
    · unfold dropVar at e; exact (List.mem_filter.mp e).1

noncomputable abbrev dS (f : Int → Option Str) : AV := .di fun k => (f k).map .str
noncomputable def kindO : List PyData → Int
  | .tuple (.int k :: _) :: _ => k
  | _ => 0
noncomputable def weakD (fo : Int → Option Int) (own : Int) (cnt place : Nat) (o : Int) (ks : List PyData) : Bool :=
  (decide (forceF fo o ks.length < leastF fo own cnt place) || (decide (own = 13) && (decide (256 + o = 256 + 53) && true))) || (decide (own = 23) && (decide (256 + o = 256) && (decide (kindO ks = 2) && true)))
noncomputable def wr {α : Type} (l r : α) (w : Bool) (q : List α) : List α := bif w then [l] ++ q ++ [r] else q
noncomputable def endP (sg : Int → Option Str) (own : Int) (ps : List (List Str)) : Option (List Str) :=
  if own = 13 then some (jn (α := Str) ";" [] ps) else if own = 9 then some ([("[" : Str)] ++ jn (α := Str) "," [] ps ++ [("]" : Str)]) else if own = 25 then some ([("{" : Str)] ++ jn (α := Str) "," [] ps ++ [("}" : Str)]) else
  match sg own, ps with
  | some s, [a] => some ([s] ++ a)
  | some s, [a, b] => some (a ++ [s] ++ b)
  | _, _ => none
structure Kid (g : Gl) (fo : Int → Option Int) (sg : Int → Option Str) (room : Nat) (own : Int) (cnt i : Nat) (kid : PyData) (p : List Str) where
  o : Int
  ks : List PyData
  q : List Str
  e : kid = ndD o ks
  len : ks.length ≤ 1000
  leaf : o = 0 → ∃ t, ks = [tkD t]
  con : Con g "_law_pieces" room [.d kid, dS sg, dI fo] (strsD q)
  few : q.length < 1000000
  wrapped : p = wr (α := Str) "(" ")" (weakD fo own cnt i o ks) q
theorem strs_app (a b : List Str) : PyData.list ((a ++ b).map .str) = .list (a.map .str ++ b.map .str) := by rw [List.map_append]
set_option maxHeartbeats 1000000 in
theorem pieces_step (g : Gl) (fo : Int → Option Int) (sg : Int → Option Str) (room : Nat) (hr : 1 ≤ room) (own : Int) (h0 : own ≠ 0) (kids : List PyData) (ps : List (List Str)) (R : List Str) (hlen : ps.length = kids.length) (hk : kids.length ≤ 1000)
    (hkid : ∀ (i : Nat) (kid : PyData), kids[i]? = some kid → ∃ p, ps[i]? = some p ∧ Nonempty (Kid g fo sg room own kids.length i kid p)) (hend : endP sg own ps = some R) (hR : R.length < 1000000) :
    Con g "_law_pieces" (room + 1) [.d (ndD own kids), dS sg, dI fo] (strsD R) := by
  refine con_intro ["tree", "signs", "force"] (List.mem_of_getElem? (i := 10) rfl) (fun pm cd doc vs hv => by obtain ⟨x, y, z, rfl⟩ := len3 hv; rfl) rfl (by decide) rfl rfl rfl rfl rfl (by decide) fun A L fa cd => ?_
  refine x_unpack (d := .int (256 + own)) (d' := .list kids) (p_local rfl rfl rfl) rfl rfl rfl rfl ?_
  refine x_ifn (t_cmp (p_local rfl rfl rfl) (p_const rfl rfl rfl) o_eq rfl) (fun h => absurd (of_decide_eq_true h) (by omega)) fun _ => ?_
  refine x_set (p_bin (p_local rfl rfl rfl) (p_const rfl rfl rfl) o_sub) rfl rfl rfl ?_
  have e : 256 + own - 256 = own := by omega
  rw [e]
  refine x_own (n_list pl_nil rfl (Nat.zero_le _)) rfl rfl ?_
  refine x_enum (xs := kids) (fun i σ => Has σ [("own", .d (.int own)), ("kids", .d (.list kids)), ("signs", dS sg), ("force", dI fo)] ∧ σ.own = ow "parts" ((ps.take i).map strsD)) (p_local rfl rfl rfl) rfl rfl rfl (fun _ => rfl) rfl ⟨⟨rfl, rfl, rfl, rfl, trivial⟩, rfl⟩ ?_ ?_
  · rintro i σ d hd ⟨hv, ho⟩
    obtain ⟨p, hp, ⟨K⟩⟩ := hkid i d hd
    have hi : i < kids.length := (List.getElem?_eq_some_iff.mp hd).1
    refine x_has2 _ _ hv ho ?_
    obtain ⟨o, ks, q, rfl, hks, hleaf, C, hq, hw⟩ := K
    refine x_set (p_call (pl_cons (p_local rfl rfl rfl) (pl_cons (p_local rfl rfl rfl) (pl_cons (p_local rfl rfl rfl) pl_nil))) C (Nat.le_refl _) rfl (List.mem_of_getElem? (i := 10) rfl) rfl rfl ⟨_, _, rfl⟩) rfl rfl rfl ?_
    refine x_set (p_cmp (p_call (pl_cons (p_local rfl rfl rfl) (pl_cons (p_local rfl rfl rfl) pl_nil)) (con_force g fo o ks (by omega)) hr rfl (List.mem_of_getElem? (i := 7) rfl) rfl rfl ⟨_, _, rfl⟩)
      (p_call (pl_cons (p_local rfl rfl rfl) (pl_cons (p_len (p_local (a := .d (.list kids)) rfl rfl rfl) rfl rfl (by omega) rfl rfl) (pl_cons (p_local rfl rfl rfl) (pl_cons (p_local rfl rfl rfl) pl_nil)))) (con_least g fo own kids.length i) hr rfl (List.mem_of_getElem? (i := 8) rfl) rfl rfl ⟨_, _, rfl⟩) o_lt rfl) rfl rfl rfl ?_
    refine x_iset (t_bool (al_and (t_cmp (p_local rfl rfl rfl) (p_const rfl rfl rfl) o_eq rfl) (fun _ => al_and (t_cmp (p_sub (p_local rfl rfl rfl) p_int (s_t (j := 0) (x := .int (256 + o)) rfl (by decide) rfl) (fun _ _ => rfl)) (p_bin (p_const rfl rfl rfl) (p_const rfl rfl rfl) o_add) o_eq rfl) (fun _ => al_andN)))) rfl rfl rfl rfl ?_
    refine x_iset (q := decide (own = 23) && (decide (256 + o = 256) && (decide (kindO ks = 2) && true))) (t_bool (al_and (t_cmp (p_local rfl rfl rfl) (p_const rfl rfl rfl) o_eq rfl) (fun _ => al_and (t_cmp (p_sub (p_local rfl rfl rfl) p_int (s_t (j := 0) (x := .int (256 + o)) rfl (by decide) rfl) (fun _ _ => rfl)) (p_const rfl rfl rfl) o_eq rfl) (fun h => ?_)))) rfl rfl rfl rfl ?_
    · have h : 256 + o = 256 := of_decide_eq_true h
      obtain ⟨t, rfl⟩ := hleaf (by omega)
      exact al_and (t_cmp (p_sub (p_sub (p_sub (p_local rfl rfl rfl) p_int (s_t (j := 1) (x := .list [tkD t]) rfl (by decide) rfl) (fun _ _ => rfl)) p_int (s_l (xs := [tkD t]) rfl (Int.le_refl 0) (by decide) rfl) (fun _ _ => rfl)) p_int (s_t (j := 0) (x := .int t.1) rfl (by decide) rfl) (fun _ _ => rfl)) (p_const rfl rfl rfl) o_eq rfl) (fun _ => al_andN)
    have zq : (q.map PyData.str).length + 2 ≤ sizeLine := by rw [List.length_map, sizeLine_eq]; omega
    refine x_append rfl (p_if (t_of (p_local (a := .d (.bool (weakD fo own kids.length i o ks))) rfl rfl rfl) rfl) (fun _ => p_bin (p_bin (p_list (pl_cons p_str pl_nil) rfl lz1) (p_local (a := .d (strsD q)) rfl rfl rfl) (o_addl rfl rfl (by rw [Nat.add_comm]; exact Nat.le_trans (Nat.le_succ _) zq))) (p_list (pl_cons p_str pl_nil) rfl lz1) (o_addl rfl rfl (by rw [List.length_append]; show 1 + (List.map PyData.str q).length + 1 ≤ sizeLine; omega))) (fun _ => p_local rfl rfl rfl))
      (by rw [List.length_map, List.length_take, sizeLine_eq]; omega) rfl rfl rfl rfl rfl rfl rfl ?_
    refine Ex_nil ⟨⟨rfl, rfl, rfl, rfl, trivial⟩, ?_⟩
    show ow "parts" ((ps.take i).map strsD ++ [bif weakD fo own kids.length i o ks then .list ([PyData.str "("] ++ q.map .str ++ [PyData.str ")"]) else strsD q]) = ow "parts" ((ps.take (i + 1)).map strsD)
    have e : (bif weakD fo own kids.length i o ks then PyData.list ([PyData.str "("] ++ q.map .str ++ [PyData.str ")"]) else strsD q) = strsD p := by
      rw [hw]
      cases weakD fo own kids.length i o ks <;> simp [wr]
    rw [e, List.take_add_one, hp, List.map_append]; rfl
  · rintro σ ⟨hv, ho⟩
    have : ps.take kids.length = ps := List.take_of_length_le (by omega)
    rw [this] at ho
    refine x_has _ _ hv ho ?_
    refine Ex_freeze rfl ?_
    unfold endP at hend
    refine x_ifn (t_cmp (p_local rfl rfl rfl) (p_const rfl rfl rfl) o_eq rfl) (fun h => ?_) fun h => ?_
    · have h : own = 13 := of_decide_eq_true h
      rw [if_pos h] at hend
      have hend := Option.some.inj hend
      subst hend
      exact x_ret (p_call (pl_cons (p_local rfl rfl rfl) (pl_cons p_str pl_nil)) (con_joined g ps ";" (by rw [sizeLine_eq]; omega)) hr rfl (List.mem_of_getElem? (i := 9) rfl) rfl rfl ⟨_, _, rfl⟩) rfl
    have h : ¬ own = 13 := of_decide_eq_false h
    rw [if_neg h] at hend
    refine x_ifn (t_cmp (p_local rfl rfl rfl) (p_const rfl rfl rfl) o_eq rfl) (fun h => ?_) fun h => ?_
    · have h : own = 9 := of_decide_eq_true h
      rw [if_pos h] at hend
      have hend := Option.some.inj hend
      subst hend
      rw [List.length_append, List.length_append] at hR
      refine x_ret (p_bin (p_bin (p_list (pl_cons p_str pl_nil) rfl lz1) (p_call (pl_cons (p_local rfl rfl rfl) (pl_cons p_str pl_nil)) (con_joined g ps "," (by rw [sizeLine_eq]; omega)) hr rfl (List.mem_of_getElem? (i := 9) rfl) rfl rfl ⟨_, _, rfl⟩) (o_addl rfl rfl (by rw [List.length_map, sizeLine_eq]; simp at hR ⊢; omega))) (p_list (pl_cons p_str pl_nil) rfl lz1) (o_addl rfl rfl (by rw [List.length_append, List.length_map, sizeLine_eq]; simp at hR ⊢; omega))) (ret_d ?_)
      show _ = PyData.list (([("[" : Str)] ++ jn (α := Str) "," [] ps ++ [("]" : Str)]).map .str)
      rw [List.map_append, List.map_append]; rfl
    have h : ¬ own = 9 := of_decide_eq_false h
    rw [if_neg h] at hend
    refine x_ifn (t_cmp (p_local rfl rfl rfl) (p_const rfl rfl rfl) o_eq rfl) (fun h => ?_) fun h => ?_
    · have h : own = 25 := of_decide_eq_true h
      rw [if_pos h] at hend
      have hend := Option.some.inj hend
      subst hend
      rw [List.length_append, List.length_append] at hR
      refine x_ret (p_bin (p_bin (p_list (pl_cons p_str pl_nil) rfl lz1) (p_call (pl_cons (p_local rfl rfl rfl) (pl_cons p_str pl_nil)) (con_joined g ps "," (by rw [sizeLine_eq]; omega)) hr rfl (List.mem_of_getElem? (i := 9) rfl) rfl rfl ⟨_, _, rfl⟩) (o_addl rfl rfl (by rw [List.length_map, sizeLine_eq]; simp at hR ⊢; omega))) (p_list (pl_cons p_str pl_nil) rfl lz1) (o_addl rfl rfl (by rw [List.length_append, List.length_map, sizeLine_eq]; simp at hR ⊢; omega))) (ret_d ?_)
      show _ = PyData.list (([("{" : Str)] ++ jn (α := Str) "," [] ps ++ [("}" : Str)]).map .str)
      rw [List.map_append, List.map_append]; rfl
    have h : ¬ own = 25 := of_decide_eq_false h
    rw [if_neg h] at hend
    split at hend
    · rename_i s a hs
      have hend := Option.some.inj hend
      subst hend
      rw [List.length_append] at hR
      refine x_ifn (q := true) (t_cmp (p_len (p_local (a := .d (.list [strsD a])) rfl rfl rfl) rfl rfl (show 1 < 1000000000 by decide) rfl rfl) p_int o_eq rfl) (fun _ => ?_) fun h => nomatch h
      refine x_ret (p_bin (p_list (pl_cons (p_sub (p_local rfl rfl rfl) (p_local rfl rfl rfl) (s_di (x := .str s) (by show (sg own).map _ = _; rw [hs]; rfl)) (fun _ _ => rfl)) pl_nil) rfl lz1) (p_sub (p_local rfl rfl rfl) p_int (s_l (xs := [strsD a]) rfl (Int.le_refl 0) (by decide) rfl) (fun _ _ => rfl)) (o_addl rfl rfl (by rw [List.length_map, sizeLine_eq]; simp at hR ⊢; omega))) (ret_d ?_)
      rfl
    · rename_i s a b hs
      have hend := Option.some.inj hend
      subst hend
      rw [List.length_append, List.length_append] at hR
      refine x_ifn (q := false) (t_cmp (p_len (p_local (a := .d (.list [strsD a, strsD b])) rfl rfl rfl) rfl rfl (show 2 < 1000000000 by decide) rfl rfl) p_int o_eq rfl) (fun h => nomatch h) fun _ => ?_
      refine x_ret (p_bin (p_bin (p_sub (p_local rfl rfl rfl) p_int (s_l (xs := [strsD a, strsD b]) rfl (Int.le_refl 0) (by decide) rfl) (fun _ _ => rfl)) (p_list (pl_cons (p_sub (p_local rfl rfl rfl) (p_local rfl rfl rfl) (s_di (x := .str s) (by show (sg own).map _ = _; rw [hs]; rfl)) (fun _ _ => rfl)) pl_nil) rfl lz1) (o_addl rfl rfl (by rw [List.length_map, sizeLine_eq]; simp at hR ⊢; omega)))
        (p_sub (p_local rfl rfl rfl) p_int (s_l (xs := [strsD a, strsD b]) rfl (by decide) (by decide) rfl) (fun _ _ => rfl)) (o_addl rfl rfl (by rw [List.length_append, List.length_map, List.length_map, sizeLine_eq]; simp at hR ⊢; omega))) (ret_d ?_)
      show _ = PyData.list ((a ++ [s] ++ b).map .str)
      rw [List.map_append, List.map_append]; rfl
    · cases hend


noncomputable def lastV {β : Type} (sel : Row → β) : List Row → Int → Option β → Option β
  | [], _, o => o
  | r :: rs, k, o => lastV sel rs k (if k = r.1 then some (sel r) else o)
theorem lastV_map {β : Type} (F : β → PyData) (sel : Row → β) (k : Int) : ∀ (rs : List Row) (o : Option β), lastAt (fun r : Row => r.1) (fun r => F (sel r)) rs k (o.map F) = (lastV sel rs k o).map F
  | [], o => rfl
  | r :: rs, o => by
    unfold lastAt lastV
    rw [← lastV_map F sel k rs]
    congr 1
    split <;> rfl
theorem lastV_mem {β : Type} {sel : Row → β} {k : Int} {v : β} : ∀ {rs : List Row} {o : Option β}, lastV sel rs k o = some v → o = some v ∨ ∃ r ∈ rs, r.1 = k ∧ sel r = v
  | [], o, h => .inl h
  | r :: rs, o, h => by
    unfold lastV at h
    rcases lastV_mem h with e | ⟨r', h1, h2⟩
    · split at e
      · rename_i q
        exact .inr ⟨r, .head _, q.symm, Option.some.inj e⟩
      · exact .inl e
    · exact .inr ⟨r', .tail _ h1, h2⟩
noncomputable def fo (k : Int) : Option Int := lastV (fun r => r.2.2) theRows k none
noncomputable def sg (k : Int) : Option Str := lastV (fun r => r.2.1) theRows k none
theorem fo_mem {k l : Int} (h : fo k = some l) : ∃ r ∈ theRows, r.1 = k ∧ r.2.2 = l := by
  rcases lastV_mem h with e | e
  · cases e
  · exact e
theorem fo_pos {k l : Int} (h : fo k = some l) : 14 ≤ k ∧ k < 256 ∧ 1 ≤ l := by
  obtain ⟨r, hr, rfl, rfl⟩ := fo_mem h
  have : ∀ r ∈ theRows, 14 ≤ r.1 ∧ r.1 < 256 ∧ 1 ≤ r.2.2 := by decide
  exact this r hr
noncomputable def Leaf (t : Tk) : Prop := (t.1 = 1 ∧ ∃ c ∈ let7, t.2 = s1 c) ∨ (t.1 = 2 ∧ ∃ c ∈ dig7, t.2 = s1 c) ∨ t = (52, Str.ofString "...")
noncomputable def ownO : PyData → Int
  | .tuple (.int n :: _) => n - 256
  | _ => 0
noncomputable def kidsO : PyData → List PyData
  | .tuple [_, .list ks] => ks
  | _ => []
theorem ownO_nd (o : Int) (ks : List PyData) : ownO (ndD o ks) = o := by
  show 256 + o - 256 = o
  omega
theorem kidsO_nd (o : Int) (ks : List PyData) : kidsO (ndD o ks) = ks := rfl
noncomputable abbrev weak (own : Int) (cnt place : Nat) (t : PyData) : Bool := weakD fo own cnt place (ownO t) (kidsO t)
noncomputable abbrev wrT (w : Bool) (q : List Tk) : List Tk := wr ((7, Str.ofString "(") : Tk) (8, Str.ofString ")") w q
noncomputable abbrev comma : Tk := (12, Str.ofString ",")
noncomputable abbrev semi : Tk := (13, Str.ofString ";")
/-- a tree and its pieces -/
inductive PR : Nat → PyData → List Tk → Prop
  | atom {n t} : Leaf t → PR n (ndD 0 [tkD t]) [t]
  | un {n o s a ta} : o = 14 ∨ o = 15 ∨ o = 31 → sg o = some s → PR n a ta → PR (n + 1) (ndD o [a]) ([(o, s)] ++ wrT (weak o 1 0 a) ta)
  | bin {n o s l a b ta tb} : fo o = some l → o ≠ 31 → sg o = some s → PR n a ta → PR n b tb → (o = 23 → ∃ x : Tk, b = ndD 0 [tkD x] ∧ x.1 = 1) → PR (n + 1) (ndD o [a, b]) (wrT (weak o 2 0 a) ta ++ [(o, s)] ++ wrT (weak o 2 1 b) tb)
  | grp {n o k1 k2} (kts : List (PyData × List Tk)) : (o = 9 ∧ k1 = (9, Str.ofString "[") ∧ k2 = (10, Str.ofString "]")) ∨ (o = 25 ∧ k1 = (25, Str.ofString "{") ∧ k2 = (26, Str.ofString "}")) → kts.length ≤ 3 → (∀ p ∈ kts, PR n p.1 p.2) →
      PR (n + 1) (ndD o (kts.map (·.1))) ([k1] ++ jn comma [] (kts.map (·.2)) ++ [k2])
theorem PR.node {n : Nat} {t : PyData} {ts : List Tk} (h : PR n t ts) : ∃ o ks, 0 ≤ o ∧ t = ndD o ks ∧ ks.length ≤ 3 ∧ (o = 0 → ∃ x : Tk, ks = [tkD x]) ∧ o ≠ 13 ∧ o < 256 := by
  cases h with
  | atom => exact ⟨0, _, Int.le_refl _, rfl, by simp, fun _ => ⟨_, rfl⟩, by decide, by decide⟩
  | un ho => exact ⟨_, _, by omega, rfl, by simp, fun e => by omega, by omega, by omega⟩
  | bin ho => exact ⟨_, _, by have := fo_pos ho; omega, rfl, by simp, fun e => by have := fo_pos ho; omega, by have := fo_pos ho; omega, by have := fo_pos ho; omega⟩
  | grp kts ho hl => exact ⟨_, _, by omega, rfl, by simpa using hl, fun e => by omega, by omega, by omega⟩
theorem PR.mono {n m : Nat} {t : PyData} {ts : List Tk} (h : PR n t ts) (hm : n ≤ m) : PR m t ts := by
  induction h generalizing m with
  | atom h => exact .atom h
  | un h1 h2 _ ih =>
    obtain ⟨k, rfl⟩ : ∃ k, m = k + 1 := ⟨m - 1, by omega⟩
    exact .un h1 h2 (ih (by omega))
  | bin h1 h2 h3 _ _ h6 ih1 ih2 =>
    obtain ⟨k, rfl⟩ : ∃ k, m = k + 1 := ⟨m - 1, by omega⟩
    exact .bin h1 h2 h3 (ih1 (by omega)) (ih2 (by omega)) h6
  | grp kts h1 h2 _ ih =>
    obtain ⟨k, rfl⟩ : ∃ k, m = k + 1 := ⟨m - 1, by omega⟩
    exact .grp kts h1 h2 fun p hp => ih p hp (by omega)
theorem wr_map {α β : Type} (f : α → β) (l r : α) (w : Bool) (q : List α) : (wr l r w q).map f = wr (f l) (f r) w (q.map f) := by
  cases w <;> simp [wr]
theorem wr_len {α : Type} (l r : α) (w : Bool) (q : List α) : q.length ≤ (wr l r w q).length ∧ (wr l r w q).length ≤ q.length + 2 := by
  cases w <;> simp [wr]; omega
theorem wrT_len (w : Bool) (q : List Tk) : q.length ≤ (wrT w q).length ∧ (wrT w q).length ≤ q.length + 2 := wr_len _ _ w q
theorem jn_mem {α : Type} (sep : α) : ∀ (ps : List (List α)) (acc : List α), ∀ p ∈ ps, p.length ≤ (jn sep acc ps).length
  | [], _, p, h => nomatch h
  | q :: ps, acc, p, h => by
    rw [jn_cons]
    rcases List.mem_cons.mp h with e | e
    · subst e
      refine Nat.le_trans ?_ (jn_len sep ps _)
      rw [List.length_append]; omega
    · exact jn_mem sep ps _ p e
theorem forceF_nn (o : Int) (n : Nat) : 1 ≤ forceF fo o n := by
  unfold forceF
  split
  · decide
  · rename_i l h
    have := fo_pos h
    split <;> omega
theorem weak_open {own : Int} (h : fo own = none) (h1 : own ≠ 13) (h2 : own ≠ 23) (cnt place : Nat) (o : Int) (ks : List PyData) : weakD fo own cnt place o ks = false := by
  unfold weakD leastF
  rw [h]
  have := forceF_nn o ks.length
  rw [decide_eq_false h1, decide_eq_false h2, decide_eq_false (by dsimp only; omega)]
  rfl
theorem weak_semi (cnt place : Nat) (o : Int) (ks : List PyData) : weakD fo 13 cnt place o ks = decide (o = 53) := by
  have h : fo 13 = none := by decide
  unfold weakD leastF
  rw [h]
  have := forceF_nn o ks.length
  rw [decide_eq_false (p := forceF fo o ks.length < _) (by dsimp only; omega)]
  have e : decide (256 + o = 256 + 53) = decide (o = 53) := decide_eq_decide.mpr (by omega)
  rw [e]
  simp
theorem Con.mono {g : Gl} {f : Str} {k k' : Nat} {as : List AV} {r : PyData} (C : Con g f k as r) (h : k ≤ k') : Con g f k' as r :=
  fun A s P vs a h1 h2 h3 h4 h5 h6 h7 => C A s P vs a h1 (by omega) (by omega) h4 h5 h6 h7
noncomputable abbrev snds (ts : List Tk) : List Str := ts.map (·.2)
theorem con_pieces_atom (g : Gl) (x : Tk) : Con g "_law_pieces" 1 [.d (ndD 0 [tkD x]), dS sg, dI fo] (strsD [x.2]) := by
  refine con_intro ["tree", "signs", "force"] (List.mem_of_getElem? (i := 10) rfl) (fun pm cd doc vs hv => by obtain ⟨x, y, z, rfl⟩ := len3 hv; rfl) rfl (by decide) rfl rfl rfl rfl rfl (by decide) fun A L fa cd => ?_
  refine x_unpack (d := .int 256) (d' := .list [tkD x]) (p_local rfl rfl rfl) rfl rfl rfl rfl ?_
  refine x_ifn (q := true) (t_cmp (p_local rfl rfl rfl) (p_const rfl rfl rfl) o_eq rfl) (fun _ => ?_) fun h => nomatch h
  exact x_ret (p_list (pl_cons (p_sub (p_sub (p_local rfl rfl rfl) p_int (s_l (xs := [tkD x]) rfl (Int.le_refl 0) (by decide) rfl) (fun _ _ => rfl)) p_int (s_t (j := 1) (x := .str x.2) rfl (by decide) rfl) (fun _ _ => rfl)) pl_nil) rfl lz1) rfl
theorem kid_of {g : Gl} {n : Nat} {t : PyData} {ts : List Tk} (h : PR n t ts) (hz : ts.length < 1000000) (C : Con g "_law_pieces" (n + 2) [.d t, dS sg, dI fo] (strsD (snds ts))) (own : Int) (cnt i : Nat) {p : List Str} (hp : p = snds (wrT (weak own cnt i t) ts)) : Nonempty (Kid g fo sg (n + 2) own cnt i t p) := by
  obtain ⟨o, ks, h0, rfl, hl, hf, _⟩ := h.node
  refine ⟨o, ks, snds ts, rfl, by omega, hf, C, by simpa using hz, ?_⟩
  rw [hp]
  unfold weak
  rw [ownO_nd, kidsO_nd]
  exact wr_map _ _ _ _ _
theorem PR.con {g : Gl} {n : Nat} {t : PyData} {ts : List Tk} (h : PR n t ts) (hz : ts.length < 1000000) : Con g "_law_pieces" (n + 2) [.d t, dS sg, dI fo] (strsD (snds ts)) := by
  induction h with
  | @atom n x h => exact (con_pieces_atom g x).mono (by omega)
  | @un n o s a ta ho hs ha ih =>
    have z := (wrT_len (weak o 1 0 a) ta).1
    simp only [List.length_append] at hz
    have hza : ta.length < 1000000 := by omega
    refine pieces_step g fo sg (n + 2) (by omega) o (by omega) [a] [snds (wrT (weak o 1 0 a) ta)] _ rfl (show 1 ≤ 1000 by decide) (fun i kid hk => ?_) ?_ (by simp at hz ⊢; omega)
    · match i, hk with
      | 0, hk => cases hk; exact ⟨_, rfl, kid_of ha hza (ih hza) _ _ _ rfl⟩
    · unfold endP
      rw [if_neg (by omega), if_neg (by omega), if_neg (by omega), hs]
      simp
  | @bin n o s l a b ta tb ho h31 hs ha hb hd iha ihb =>
    have z1 := (wrT_len (weak o 2 0 a) ta).1
    have z2 := (wrT_len (weak o 2 1 b) tb).1
    simp only [List.length_append] at hz
    have hza : ta.length < 1000000 := by omega
    have hzb : tb.length < 1000000 := by omega
    have := fo_pos ho
    have h25 : o ≠ 25 := by rintro rfl; have e : fo 25 = none := by decide
                            rw [e] at ho; cases ho
    refine pieces_step g fo sg (n + 2) (by omega) o (by omega) [a, b] [snds (wrT (weak o 2 0 a) ta), snds (wrT (weak o 2 1 b) tb)] _ rfl (show 2 ≤ 1000 by decide) (fun i kid hk => ?_) ?_ (by simp at hz ⊢; omega)
    · match i, hk with
      | 0, hk => cases hk; exact ⟨_, rfl, kid_of ha hza (iha hza) _ _ _ rfl⟩
      | 1, hk => cases hk; exact ⟨_, rfl, kid_of hb hzb (ihb hzb) _ _ _ rfl⟩
    · unfold endP
      rw [if_neg (by omega), if_neg (by omega), if_neg (by omega), hs]
      simp
  | @grp n o k1 k2 kts ho hl hk ih =>
    have hzp : ∀ p ∈ kts, p.2.length < 1000000 := fun p hp => by
      have := jn_mem comma (kts.map (·.2)) [] p.2 (List.mem_map.mpr ⟨p, hp, rfl⟩)
      simp at hz; omega
    have h9 : fo o = none ∧ o ≠ 13 ∧ o ≠ 23 ∧ o ≠ 0 := by rcases ho with ⟨rfl, _⟩ | ⟨rfl, _⟩ <;> decide
    refine pieces_step g fo sg (n + 2) (by omega) o h9.2.2.2 (kts.map (·.1)) ((kts.map (·.2)).map snds) (snds ([k1] ++ jn comma [] (kts.map (·.2)) ++ [k2])) (by simp) (by simp; omega) (fun i kid hk' => ?_) ?_ (by rw [List.length_map]; exact hz)
    · rw [List.getElem?_map] at hk'
      cases e : kts[i]? with
      | none => rw [e] at hk'; cases hk'
      | some p =>
        rw [e] at hk'; cases hk'
        have hp := List.mem_of_getElem? e
        refine ⟨snds p.2, by simp [e], kid_of (hk p hp) (hzp p hp) (ih p hp (hzp p hp)) _ _ _ ?_⟩
        unfold weak
        rw [weak_open h9.1 h9.2.1 h9.2.2.1]
        rfl
    · unfold endP
      rw [if_neg h9.2.1]
      have hj := jn_map (·.2) comma (kts.map (·.2)) []
      rcases ho with ⟨rfl, rfl, rfl⟩ | ⟨rfl, rfl, rfl⟩
      · unfold snds; rw [if_pos rfl, List.map_append, List.map_append, hj]; rfl
      · unfold snds; rw [if_neg (by decide), if_pos rfl, List.map_append, List.map_append, hj]; rfl
/-- the pieces of the lines -/
noncomputable abbrev lineT (p : PyData × List Tk) : List Tk := wrT (decide (ownO p.1 = 53)) p.2
theorem con_prog {g : Gl} {n : Nat} (kts : List (PyData × List Tk)) (hl : kts.length ≤ 100) (hk : ∀ p ∈ kts, PR n p.1 p.2) (hz : (jn semi [] (kts.map lineT)).length < 1000000) :
    Con g "_law_pieces" (n + 3) [.d (ndD 13 (kts.map (·.1))), dS sg, dI fo] (strsD (snds (jn semi [] (kts.map lineT)))) := by
  have hzp : ∀ p ∈ kts, p.2.length < 1000000 := fun p hp => by
    have h1 := jn_mem semi (kts.map lineT) [] (lineT p) (List.mem_map.mpr ⟨p, hp, rfl⟩)
    have h2 : p.2.length ≤ (lineT p).length := (wrT_len (decide (ownO p.1 = 53)) p.2).1
    omega
  refine pieces_step g fo sg (n + 2) (by omega) 13 (by decide) (kts.map (·.1)) ((kts.map lineT).map snds) (snds (jn semi [] (kts.map lineT))) (by simp) (by simp; omega) (fun i kid hk' => ?_) ?_ (by rw [List.length_map]; exact hz)
  · rw [List.getElem?_map] at hk'
    cases e : kts[i]? with
    | none => rw [e] at hk'; cases hk'
    | some p =>
      rw [e] at hk'; cases hk'
      have hp := List.mem_of_getElem? e
      refine ⟨snds (lineT p), by simp [e], kid_of (hk p hp) (hzp p hp) ((hk p hp).con (hzp p hp)) _ _ _ ?_⟩
      unfold weak lineT
      rw [weak_semi]
  · unfold endP
    unfold snds
    rw [if_pos rfl, jn_map (·.2) semi (kts.map lineT) []]; rfl


noncomputable abbrev TP := PyData × List Tk
noncomputable def wt : List TP → Nat
  | [] => 0
  | p :: r => p.2.length + wt r
theorem wt_cons (p : TP) (r : List TP) : wt (p :: r) = p.2.length + wt r := rfl
theorem wt_app : ∀ a b : List TP, wt (a ++ b) = wt a + wt b
  | [], b => by simp [wt]
  | p :: a, b => by rw [List.cons_append, wt_cons, wt_cons, wt_app a b]; omega
theorem jn_le (sep : Tk) : ∀ (kts : List TP) (acc : List Tk), (jn sep acc (kts.map (·.2))).length ≤ acc.length + wt kts + kts.length
  | [], acc => by simp [jn, wt]
  | p :: r, acc => by
    rw [List.map_cons, jn_cons]
    refine Nat.le_trans (jn_le sep r _) ?_
    rw [wt_cons, List.length_append, List.length_cons]
    split <;> (try rw [List.length_append, List.length_singleton]) <;> omega
theorem un_ok (j : Nat) (hj : j < 3) : ∃ o s, ([14, 15, 31] : List Int)[j]? = some o ∧ (o = 14 ∨ o = 15 ∨ o = 31) ∧ sg o = some s := by
  match j, hj with
  | 0, _ => exact ⟨14, Str.ofString "+", rfl, by decide, by decide⟩
  | 1, _ => exact ⟨15, Str.ofString "-", rfl, by decide, by decide⟩
  | 2, _ => exact ⟨31, Str.ofString "~", rfl, by decide, by decide⟩
theorem row_ok (k : Nat) (hk : k < 34) : ∃ r, theRows[k]? = some r ∧ fo r.1 = some r.2.2 ∧ sg r.1 = some r.2.1 ∧ r.1 ≠ 31 ∧ r.1 ≠ 23 := by
  have h : ∀ k < 34, (match theRows[k]? with | some r => decide (fo r.1 = some r.2.2 ∧ sg r.1 = some r.2.1 ∧ r.1 ≠ 31 ∧ r.1 ≠ 23) | none => false) = true := by decide
  have := h k hk
  split at this
  · rename_i r e
    exact ⟨r, e, of_decide_eq_true this⟩
  · cases this
noncomputable abbrev lab (i : Nat) : Tk := (1, s1 (("abcdef" : Str).cps.toList.getD i 97))
theorem lab_ok (i : Nat) (h : i < 6) : Leaf (lab i) := by
  refine .inl ⟨rfl, _, ?_, rfl⟩
  have h' : ∀ i < 6, ("abcdef" : Str).cps.toList.getD i 97 ∈ let7 := by decide
  exact h' i h
theorem leafX_ok (m : Int) (h0 : 0 ≤ m) (h1 : m < 14) : Leaf (leafX m) := by
  unfold leafX
  split
  · exact .inr (.inr rfl)
  · split
    · have h' : ∀ i < 6, ("abcdef" : Str).cps.toList.getD i 97 ∈ let7 := by decide
      exact .inl ⟨rfl, _, h' (m - 1).toNat (by omega), rfl⟩
    · have h' : ∀ i < 7, ("0123456" : Str).cps.toList.getD i 97 ∈ dig7 := by decide
      exact .inr (.inl ⟨rfl, _, h' (m - 7).toNat (by omega), rfl⟩)
/-- the tree of the last of a stack -/
theorem last_of {S : List TP} (h : S ≠ []) : ∃ S₀ p, S = S₀ ++ [p] := by
  rcases List.eq_nil_or_concat S with e | ⟨S₀, p, e⟩
  · exact absurd e h
  · exact ⟨S₀, p, by rw [e, List.concat_eq_append]⟩
/-- a stack that is well made behind i turns -/
structure Made (i : Nat) (S : List TP) : Prop where
  ne : S ≠ []
  pr : ∀ p ∈ S, PR i p.1 p.2
  len : S.length ≤ i + 1
  wt : wt S ≤ 6 * (i + 1)
theorem Made.snoc {i : Nat} {S S₀ : List TP} {q : TP} (M : Made i S) (h : ∀ p ∈ S₀, p ∈ S) (hl : S₀.length ≤ S.length) (hq : PR (i + 1) q.1 q.2) (hw : Mine.wt S₀ + q.2.length ≤ Mine.wt S + 6) : Made (i + 1) (S₀ ++ [q]) where
  ne := by simp
  pr := fun p hp => by
    rcases List.mem_append.mp hp with e | e
    · exact (M.pr p (h p e)).mono (Nat.le_succ _)
    · rw [List.mem_singleton.mp e]; exact hq
  len := by have := M.len; simp; omega
  wt := by have := M.wt; rw [wt_app]; simp [Mine.wt]; omega
theorem pr_un {i : Nat} {o : Int} {s : Str} {p : TP} (ho : o = 14 ∨ o = 15 ∨ o = 31) (hs : sg o = some s) (hp : PR i p.1 p.2) : ∃ t, PR (i + 1) (ndD o [p.1]) t ∧ t.length ≤ p.2.length + 6 :=
  ⟨_, .un ho hs hp, by have := (wrT_len (weak o 1 0 p.1) p.2).2; rw [List.length_append]; simp only [List.length_singleton]; omega⟩
theorem pr_bin {i : Nat} {o l : Int} {s : Str} {p q : TP} (ho : fo o = some l) (h31 : o ≠ 31) (hs : sg o = some s) (hp : PR i p.1 p.2) (hq : PR i q.1 q.2) (hd : o = 23 → ∃ x : Tk, q.1 = ndD 0 [tkD x] ∧ x.1 = 1) : ∃ t, PR (i + 1) (ndD o [p.1, q.1]) t ∧ t.length ≤ p.2.length + q.2.length + 5 :=
  ⟨_, .bin ho h31 hs hp hq hd, by have h1 := (wrT_len (weak o 2 0 p.1) p.2).2; have h2 := (wrT_len (weak o 2 1 q.1) q.2).2; rw [List.length_append, List.length_append]; simp only [List.length_singleton]; omega⟩
theorem pr_grp {i : Nat} {o : Int} (ho : o = 9 ∨ o = 25) {kts : List TP} (hl : kts.length ≤ 3) (h : ∀ p ∈ kts, PR i p.1 p.2) : ∃ t, PR (i + 1) (ndD o (kts.map (·.1))) t ∧ t.length ≤ wt kts + 6 := by
  have e : ∀ (l : List Tk) (a b : Tk), l.length ≤ 0 + wt kts + kts.length → ([a] ++ l ++ [b]).length ≤ wt kts + 6 := fun l a b h => by simp; omega
  rcases ho with rfl | rfl
  · exact ⟨_, .grp kts (.inl ⟨rfl, rfl, rfl⟩) hl h, e _ _ _ (jn_le comma kts [])⟩
  · exact ⟨_, .grp kts (.inr ⟨rfl, rfl, rfl⟩) hl h, e _ _ _ (jn_le comma kts [])⟩
theorem map_snoc (S₀ : List TP) (q : TP) : (S₀ ++ [q]).map (·.1) = S₀.map (·.1) ++ [q.1] := by rw [List.map_append]; rfl
theorem tab_at {k : Nat} {r : Row} (h : theRows[k]? = some r) : (theRows.map rowD)[k]? = some (.tuple [.int r.1, .str r.2.1, .int r.2.2]) := by
  rw [List.getElem?_map, h]; rfl
section
variable {c : Cx} {σ : St}
/-- _law_atom((NAME, 'abcdef'[e])) -/
theorem p_lab {e : Expr} {p1 p2 p3 p4 p5 p6 : Pos} {k1 k2 : Nat} {i : Int} (he : EvP c e σ (.d (.int i))) (h0 : 0 ≤ i) (h6 : i < 6) (hr : 1 ≤ c.room) (h1 : c.sc.names.lookup ("_law_atom" : Str) = some .globalImplicit) (h2 : c.sc.names.lookup ("NAME" : Str) = some .globalImplicit)
    (hs : ∀ o j, subscripted e false o j = operate [o, j] (getItem o j)) :
    EvP c (.Call (.Name "_law_atom" p1) [.Tuple [.Name "NAME" p2, .Subscript (.Constant (.str "abcdef") k1 p3) e p4] k2 p5] [] p6) σ (.d (ndD 0 [tkD (lab i.toNat)])) :=
  p_call (pl_cons (p_tuple (pl_cons (p_const (i := 1) rfl h2 rfl) (pl_cons (p_sub p_str he (s_s h0 (by omega) (get_chr1 (show i.toNat < 6 by omega))) hs) pl_nil)) rfl lz2) pl_nil) (con_atom c.g _) hr rfl (List.mem_of_getElem? (i := 5) rfl) h1 rfl ⟨_, _, rfl⟩
end
/-- what _law_grown hands back -/
noncomputable def Grown (r : PyData) : Prop := ∃ kts : List TP, (∀ p ∈ kts, PR 21 p.1 p.2) ∧ kts.length ≤ 21 ∧ wt kts ≤ 300 ∧ r = ndD 13 (kts.map (·.1))
set_option maxHeartbeats 1000000 in
theorem con_grown (g : Gl) (ns : List Int) (hns : ns.length ≤ 1000) : ConX g "_law_grown" 2 [.d (.list (ns.map .int)), .d (.list (theRows.map rowD))] Grown := by
  refine con_introX ["script", "table"] (List.mem_of_getElem? (i := 6) rfl) (fun pm cd doc vs hv => by obtain ⟨x, y, rfl⟩ := len2 hv; rfl) rfl (by decide) rfl rfl rfl rfl rfl (by decide) fun A L fa cd => ?_
  refine x_own (n_list (pl_cons (p_call (pl_cons (p_tuple (pl_cons (p_const rfl rfl rfl) (pl_cons p_str pl_nil)) rfl lz2) pl_nil) (con_atom g _) (Nat.le_refl 1) rfl (List.mem_of_getElem? (i := 5) rfl) rfl rfl ⟨_, _, rfl⟩) pl_nil) rfl lz1) rfl rfl ?_
  refine x_for (xs := (ns.map PyData.int).take 20) (fun i σ => ∃ S, Made i S ∧ Has σ [("script", .d (.list (ns.map .int))), ("table", .d (.list (theRows.map rowD)))] ∧ σ.own = ow "stack" (S.map (·.1)))
    (p_slice_l (l := none) (u := some 20) (p_local rfl rfl rfl) (fun _ k => pt_none k) (pt_some p_int) rfl (by rw [List.length_map, sizeLine_eq]; omega) (pick_upto (k := 20) (by decide))) rfl (fun _ => rfl)
    ⟨[(ndD 0 [tkD (1, Str.ofString "x")], [(1, Str.ofString "x")])], ⟨by simp, fun p hp => by
      rw [List.mem_singleton.mp hp]; exact .atom (.inl ⟨rfl, 120, by decide, by decide⟩), by simp, by simp [wt]⟩, ⟨rfl, rfl, trivial⟩, rfl⟩ ?_ ?_
  · rintro i σ d hd ⟨S, M, hv, ho⟩
    have hi : i < 20 := by have := (List.getElem?_eq_some_iff.mp hd).1; rw [List.length_take] at this; omega
    obtain ⟨n, rfl⟩ : ∃ n : Int, d = .int n := by
      have := List.mem_of_mem_take (List.mem_of_getElem? hd)
      obtain ⟨n, _, rfl⟩ := List.mem_map.mp this
      exact ⟨n, rfl⟩
    refine x_has1 _ _ hv ho ?_
    have m8 : 0 ≤ n % 8 ∧ n % 8 < 8 := by omega
    refine x_set (p_bin (p_local rfl rfl rfl) p_int (o_mod (by decide))) rfl rfl rfl ?_
    refine x_set (p_bin (p_local rfl rfl rfl) p_int (o_div (by decide) (by decide))) rfl rfl rfl ?_
    generalize hm : n / 8 = m
    refine x_set (p_lab (i := m % 6) (p_bin (p_local rfl rfl rfl) p_int (o_mod (by decide))) (by omega) (by omega) (Nat.le_refl 1) rfl rfl (fun _ _ => rfl)) rfl rfl rfl ?_
    have hlab : Leaf (lab (m % 6).toNat) := lab_ok _ (by omega)
    obtain ⟨S₀, p, rfl⟩ := last_of M.ne
    have hlS := M.len
    rw [List.length_append, List.length_singleton] at hlS
    have zS : (S₀.map (fun p : TP => p.1)).length < sizeLine := by rw [List.length_map, sizeLine_eq]; omega
    have hp : PR i p.1 p.2 := M.pr p (by simp)
    have sub0 : ∀ q ∈ S₀, q ∈ S₀ ++ [p] := fun q hq => List.mem_append_left _ hq
    have wtS : wt (S₀ ++ [p]) = wt S₀ + p.2.length := by rw [wt_app]; simp [wt]
    have fin : ∀ (S' : List TP) (σ₂ : St), Made (i + 1) S' → Has σ₂ [("script", .d (.list (ns.map .int))), ("table", .d (.list (theRows.map rowD)))] → σ₂.own = ow "stack" (S'.map (·.1)) → ∃ S, Made (i + 1) S ∧ Has σ₂ [("script", .d (.list (ns.map .int))), ("table", .d (.list (theRows.map rowD)))] ∧ σ₂.own = ow "stack" (S.map (·.1)) := fun S' _ a b c => ⟨S', a, b, c⟩
    rw [map_snoc]
    refine x_if (t_cmp (p_local rfl rfl rfl) p_int o_eq rfl) (fun h2 => ?_) fun h2 => ?_
    · obtain ⟨o, s, ho1, ho2, hs⟩ := un_ok (m % 3).toNat (by omega)
      obtain ⟨t, ht, hw⟩ := pr_un ho2 hs hp
      refine x_appendQ rfl (q_tuple (ql_cons (q_of (p_bin (p_const rfl rfl rfl) (p_sub (p_tuple (pl_cons (p_const rfl rfl rfl) (pl_cons (p_const rfl rfl rfl) (pl_cons (p_const rfl rfl rfl) pl_nil))) rfl lz3) (p_bin (p_local rfl rfl rfl) p_int (o_mod (by decide))) (s_t (j := (m % 3).toNat) (xs := ([14, 15, 31] : List Int).map .int) (x := .int o) (by omega) (by omega) (by rw [List.getElem?_map, ho1]; rfl)) (fun _ _ => rfl)) o_add)) (ql_cons (q_list (ql_cons (q_pop rfl zS rfl rfl rfl) ql_nil) rfl lz1) ql_nil)) rfl lz2) rfl zS rfl rfl rfl rfl rfl rfl rfl ?_
      exact x_nil (Ex_nil (fin (S₀ ++ [(ndD o [p.1], t)]) _ (M.snoc sub0 (by simp) ht (by rw [wtS]; dsimp only; omega)) ⟨rfl, rfl, trivial⟩ (by rw [map_snoc])))
    have hlen : (S₀.map (fun p : TP => p.1) ++ [p.1]).length = S₀.length + 1 := by simp
    refine x_if (t_bool (al_and (t_chain p_int (p_local rfl rfl rfl) p_int rfl) (fun _ => al_and (t_cmp (p_len (p_own rfl rfl rfl) rfl hlen (by omega) rfl rfl) p_int o_gt rfl) (fun _ => al_andN)))) (fun h3 => ?_) fun h3 => ?_
    · have h1 : S₀ ≠ [] := by
        rintro rfl
        simp at h3
      obtain ⟨S₁, q, rfl⟩ := last_of h1
      have hq : PR i q.1 q.2 := M.pr q (by simp)
      obtain ⟨r, hr, hf, hs, h31, h23⟩ := row_ok (15 + m % 19).toNat (by omega)
      obtain ⟨t, ht, hw⟩ := pr_bin hf h31 hs hq hp (fun e => absurd e h23)
      have zS₁ : (S₁.map (fun p : TP => p.1)).length < sizeLine := by rw [List.length_map, sizeLine_eq]; simp at hlS; omega
      rw [map_snoc]
      refine x_setQ (q_pop rfl (by rw [List.length_append, List.length_singleton, List.length_map, sizeLine_eq]; simp at hlS; omega) rfl rfl rfl) rfl rfl rfl ?_
      refine x_appendQ rfl (q_tuple (ql_cons (q_of (p_bin (p_const rfl rfl rfl) (p_sub (p_sub (p_local rfl rfl rfl) (p_bin p_int (p_bin (p_local rfl rfl rfl) p_int (o_mod (by decide))) o_add) (s_l (xs := theRows.map rowD) rfl (by omega) (by omega) (tab_at hr)) (fun _ _ => rfl)) p_int (s_t (j := 0) (x := .int r.1) rfl (by decide) rfl) (fun _ _ => rfl)) o_add)) (ql_cons (q_list (ql_cons (q_pop rfl zS₁ rfl rfl rfl) (ql_cons (q_of (p_local rfl rfl rfl)) ql_nil)) rfl lz2) ql_nil)) rfl lz2) rfl zS₁ rfl rfl rfl rfl rfl rfl rfl ?_
      refine x_nil (x_nil (Ex_nil (fin (S₁ ++ [(ndD r.1 [q.1, p.1], t)]) _ (M.snoc (fun x hx => by simp [hx]) (by simp) ht ?_) ⟨rfl, rfl, trivial⟩ (by rw [map_snoc]))))
      rw [wtS, wt_app]; simp only [wt]; omega
    refine x_if (t_cmp (p_local rfl rfl rfl) p_int o_eq rfl) (fun h4 => ?_) fun h4 => ?_
    · refine x_set (p_bin (p_len (p_own rfl rfl rfl) rfl hlen (by omega) rfl rfl) (p_bi (pl_cons (p_bin (p_bin (p_local rfl rfl rfl) p_int (o_div (by decide) (by decide))) p_int (o_mod (by decide))) (pl_cons (p_len (p_own rfl rfl rfl) rfl hlen (by omega) rfl rfl) pl_nil)) b_min rfl rfl ⟨_, _, rfl⟩ rfl) o_sub) rfl rfl rfl ?_
      generalize hleft : (((S₀.length + 1 : Nat) : Int) - min (m / 2 % 4) ((S₀.length + 1 : Nat) : Int)) = left
      have hl0 : 0 ≤ left ∧ left.toNat ≤ S₀.length + 1 ∧ S₀.length + 1 - left.toNat ≤ 3 := by omega
      obtain ⟨o, ho1, ho2⟩ : ∃ o : Int, ([9, 25] : List Int)[(m % 2).toNat]? = some o ∧ (o = 9 ∨ o = 25) := by
        have : (m % 2).toNat = 0 ∨ (m % 2).toNat = 1 := by omega
        rcases this with e | e <;> rw [e]
        · exact ⟨9, rfl, .inl rfl⟩
        · exact ⟨25, rfl, .inr rfl⟩
      rw [← map_snoc]
      generalize hS : S₀ ++ [p] = S at *
      have hSl : S.length = S₀.length + 1 := by rw [← hS]; simp
      obtain ⟨t, ht, hw⟩ := pr_grp ho2 (kts := S.drop left.toNat) (by rw [List.length_drop]; omega) (fun q hq => M.pr q (List.mem_of_mem_drop hq))
      have zz : (S.map (fun p : TP => p.1)).length ≤ sizeLine := by rw [List.length_map, sizeLine_eq]; omega
      refine x_own (n_add (p_slice_l (l := none) (u := some left) (p_own rfl rfl rfl) (fun _ k => pt_none k) (pt_some (p_local rfl rfl rfl)) rfl zz (pick_upto hl0.1))
        (p_list (pl_cons (p_tuple (pl_cons (p_bin (p_const rfl rfl rfl) (p_sub (p_tuple (pl_cons (p_const rfl rfl rfl) (pl_cons (p_const rfl rfl rfl) pl_nil)) rfl lz2) (p_bin (p_local rfl rfl rfl) p_int (o_mod (by decide))) (s_t (j := (m % 2).toNat) (xs := ([9, 25] : List Int).map .int) (x := .int o) (by omega) (by omega) (by rw [List.getElem?_map, ho1]; rfl)) (fun _ _ => rfl)) o_add)
          (pl_cons (p_slice_l (l := some left) (u := none) (p_own rfl rfl rfl) (pt_some (p_local rfl rfl rfl)) (fun _ k => pt_none k) rfl zz (pick_from hl0.1)) pl_nil)) rfl lz2) pl_nil) rfl lz1) rfl rfl (by rw [List.length_take, List.length_map, sizeLine_eq]; simp; omega)) rfl rfl ?_
      refine x_nil (x_nil (x_nil (Ex_nil (fin (S.take left.toNat ++ [(ndD o ((S.drop left.toNat).map (·.1)), t)]) _ (M.snoc (fun x hx => List.mem_of_mem_take hx) (by rw [List.length_take]; omega) ht ?_) ⟨rfl, rfl, trivial⟩ ?_))))
      · have := wt_app (S.take left.toNat) (S.drop left.toNat)
        rw [List.take_append_drop] at this
        dsimp only; omega
      · rw [map_snoc, List.map_take, List.map_drop]; rfl
    refine x_if (t_cmp (p_local rfl rfl rfl) p_int o_eq rfl) (fun h5 => ?_) fun h5 => ?_
    · obtain ⟨t, ht, hw⟩ := pr_bin (o := 23) (l := 11) (s := Str.ofString ".") (by decide) (by decide) (by decide) hp (q := (ndD 0 [tkD (lab (m % 6).toNat)], [lab (m % 6).toNat])) (.atom hlab) (fun _ => ⟨_, rfl, rfl⟩)
      refine x_appendQ rfl (q_tuple (ql_cons (q_of (p_bin (p_const rfl rfl rfl) (p_const rfl rfl rfl) o_add)) (ql_cons (q_list (ql_cons (q_pop rfl zS rfl rfl rfl) (ql_cons (q_of (p_local rfl rfl rfl)) ql_nil)) rfl lz2) ql_nil)) rfl lz2) rfl zS rfl rfl rfl rfl rfl rfl rfl ?_
      refine x_nil (x_nil (x_nil (x_nil (Ex_nil (fin (S₀ ++ [(ndD 23 [p.1, ndD 0 [tkD (lab (m % 6).toNat)]], t)]) _ (M.snoc sub0 (by simp) ht (by rw [wtS]; simp at hw ⊢; omega)) ⟨rfl, rfl, trivial⟩ (by rw [map_snoc]))))))
    refine x_if (t_cmp (p_local rfl rfl rfl) p_int o_eq rfl) (fun h6 => ?_) fun h6 => ?_
    · obtain ⟨t, ht, hw⟩ := pr_bin (o := 53) (l := 1) (s := Str.ofString ":=") (by decide) (by decide) (by decide) (p := (ndD 0 [tkD (lab (m % 6).toNat)], [lab (m % 6).toNat])) (.atom hlab) hp (fun e => absurd e (by decide))
      refine x_appendQ rfl (q_tuple (ql_cons (q_of (p_bin (p_const rfl rfl rfl) (p_const rfl rfl rfl) o_add)) (ql_cons (q_list (ql_cons (q_of (p_local rfl rfl rfl)) (ql_cons (q_pop rfl zS rfl rfl rfl) ql_nil)) rfl lz2) ql_nil)) rfl lz2) rfl zS rfl rfl rfl rfl rfl rfl rfl ?_
      refine x_nil (x_nil (x_nil (x_nil (x_nil (Ex_nil (fin (S₀ ++ [(ndD 53 [ndD 0 [tkD (lab (m % 6).toNat)], p.1], t)]) _ (M.snoc sub0 (by simp) ht (by rw [wtS]; simp at hw ⊢; omega)) ⟨rfl, rfl, trivial⟩ (by rw [map_snoc])))))))
    refine x_append rfl (p_call (pl_cons (p_call (pl_cons (p_bin (p_local rfl rfl rfl) p_int (o_mod (by decide))) pl_nil) (con_leaf g (m % 14) (by omega) (by omega)) (Nat.le_refl 1) rfl (List.mem_of_getElem? (i := 4) rfl) rfl rfl ⟨_, _, rfl⟩) pl_nil) (con_atom g _) (Nat.le_refl 1) rfl (List.mem_of_getElem? (i := 5) rfl) rfl rfl ⟨_, _, rfl⟩) (by rw [hlen, sizeLine_eq]; omega) rfl rfl rfl rfl rfl rfl rfl ?_
    refine x_nil (x_nil (x_nil (x_nil (x_nil (Ex_nil (fin ((S₀ ++ [p]) ++ [(ndD 0 [tkD (leafX (m % 14))], [leafX (m % 14)])]) _ (M.snoc (fun x hx => hx) (Nat.le_refl _) (.atom (leafX_ok _ (by omega) (by omega))) (by simp)) ⟨rfl, rfl, trivial⟩ (by rw [map_snoc, map_snoc])))))))
  · rintro σ ⟨S, M, hv, ho⟩
    have hlen : ((ns.map PyData.int).take 20).length ≤ 20 := by rw [List.length_take]; omega
    have hSl : S.length ≤ 21 := by have := M.len; omega
    have hSw : wt S ≤ 126 := by have := M.wt; omega
    have hSp : ∀ p ∈ S, PR 20 p.1 p.2 := fun p hp => (M.pr p hp).mono hlen
    refine x_has _ _ hv ho ?_
    refine Ex_freeze rfl ?_
    refine x_set (p_bi (pl_cons (p_local rfl rfl rfl) pl_nil) (b_sum (ns := ns)) rfl rfl ⟨_, _, rfl⟩ rfl) rfl rfl rfl ?_
    refine x_own (n_list pl_nil rfl (Nat.zero_le _)) rfl rfl ?_
    generalize ns.sum = turn
    refine x_enum (xs := S.map (fun p : TP => p.1)) (fun i σ => ∃ K : List TP, K.length = i ∧ (∀ p ∈ K, PR 21 p.1 p.2) ∧ wt K ≤ wt (S.take i) + 6 * i ∧ Has σ [("turn", .d (.int turn)), ("table", .d (.list (theRows.map rowD)))] ∧ σ.own = ow "lines" (K.map (·.1))) (p_local rfl rfl rfl) rfl rfl rfl (fun _ => rfl) rfl
      ⟨[], rfl, (fun _ h => nomatch h), Nat.zero_le _, ⟨rfl, rfl, trivial⟩, rfl⟩ ?_ ?_
    · rintro i σ d hd ⟨K, hK, hKp, hKw, hv, ho⟩
      obtain ⟨p, hp, rfl⟩ : ∃ p, S[i]? = some p ∧ p.1 = d := by simpa using hd
      have hi : i < S.length := (List.getElem?_eq_some_iff.mp hp).1
      have hpp := hSp p (List.mem_of_getElem? hp)
      have hw1 : wt (S.take (i + 1)) = wt (S.take i) + p.2.length := by rw [List.take_add_one, hp, wt_app]; simp [wt]
      have zK : (K.map (fun p : TP => p.1)).length < sizeLine := by rw [List.length_map, sizeLine_eq]; omega
      refine x_has2 _ _ hv ho ?_
      refine x_set (p_bin (p_bin (p_local rfl rfl rfl) (p_local rfl rfl rfl) o_add) p_int (o_mod (by decide))) rfl rfl rfl ?_
      generalize hk : (turn + (i : Int)) % 15 = k
      have fin : ∀ (q : TP) (σ₂ : St), PR 21 q.1 q.2 → q.2.length ≤ p.2.length + 6 → Has σ₂ [("turn", .d (.int turn)), ("table", .d (.list (theRows.map rowD)))] → σ₂.own = ow "lines" ((K ++ [q]).map (·.1)) →
          ∃ K : List TP, K.length = i + 1 ∧ (∀ p ∈ K, PR 21 p.1 p.2) ∧ wt K ≤ wt (S.take (i + 1)) + 6 * (i + 1) ∧ Has σ₂ [("turn", .d (.int turn)), ("table", .d (.list (theRows.map rowD)))] ∧ σ₂.own = ow "lines" (K.map (·.1)) :=
        fun q σ₂ h1 h2 h3 h4 => ⟨K ++ [q], by simp [hK], fun x hx => by
          rcases List.mem_append.mp hx with e | e
          · exact hKp x e
          · rw [List.mem_singleton.mp e]; exact h1, by rw [wt_app, hw1]; simp only [wt]; omega, h3, h4⟩
      refine x_ifn (t_cmp (p_local rfl rfl rfl) p_int o_lt rfl) (fun h => ?_) fun h => ?_
      · have hk14 : k < 14 := of_decide_eq_true h
        obtain ⟨r, hr, hf, hs, h31, h23⟩ := row_ok k.toNat (by omega)
        obtain ⟨t, ht, hw⟩ := pr_bin hf h31 hs (p := (ndD 0 [tkD (lab (i % 6))], [lab (i % 6)])) (.atom (lab_ok (i % 6) (by omega))) hpp (fun e => absurd e h23)
        refine x_set (p_tuple (pl_cons (p_bin (p_const rfl rfl rfl) (p_sub (p_sub (p_local rfl rfl rfl) (p_local rfl rfl rfl) (s_l (xs := theRows.map rowD) rfl (by omega) (by omega) (tab_at hr)) (fun _ _ => rfl)) p_int (s_t (j := 0) (x := .int r.1) rfl (by decide) rfl) (fun _ _ => rfl)) o_add)
          (pl_cons (p_list (pl_cons (p_lab (i := (i : Int) % 6) (p_bin (p_local rfl rfl rfl) p_int (o_mod (by decide))) (by omega) (by omega) (Nat.le_refl 1) rfl rfl (fun _ _ => rfl)) (pl_cons (p_local rfl rfl rfl) pl_nil)) rfl lz2) pl_nil)) rfl lz2) rfl rfl rfl (x_nil ?_)
        refine x_append rfl (p_local rfl rfl rfl) zK rfl rfl rfl rfl rfl rfl rfl ?_
        have e6 : ((i : Int) % 6).toNat = i % 6 := by omega
        rw [e6]
        exact Ex_nil (fin (ndD r.1 [ndD 0 [tkD (lab (i % 6))], p.1], t) _ ht (by simp at hw ⊢; omega) ⟨rfl, rfl, trivial⟩ (by rw [map_snoc]))
      · refine x_append rfl (p_local rfl rfl rfl) zK rfl rfl rfl rfl rfl rfl rfl ?_
        exact Ex_nil (fin p _ (hpp.mono (by decide)) (by omega) ⟨rfl, rfl, trivial⟩ (by rw [map_snoc]))
    · rintro σ ⟨K, hK, hKp, hKw, hv, ho⟩
      rw [List.length_map] at hK hKw
      refine x_has _ _ hv ho ?_
      refine Ex_freeze rfl ?_
      refine x_ret (p_tuple (pl_cons (p_bin (p_const rfl rfl rfl) (p_const rfl rfl rfl) o_add) (pl_cons (p_local rfl rfl rfl) pl_nil)) rfl lz2) ⟨_, rfl, K, hKp, by omega, ?_, rfl⟩
      rw [List.take_of_length_le (Nat.le_refl _)] at hKw
      omega


/-- what the reader makes of some marks -/
noncomputable def Feeds (ts : List Tk) (S S' : List It) : Prop := ∀ ms r, Reads fo ms S' r → Reads fo (ts ++ ms) S r
theorem Feeds.nil (S : List It) : Feeds [] S S := fun _ _ h => h
theorem Feeds.app {a b : List Tk} {S S₁ S₂ : List It} (x : Feeds a S S₁) (y : Feeds b S₁ S₂) : Feeds (a ++ b) S S₂ := fun ms r h => by
  rw [List.append_assoc]; exact x _ _ (y _ _ h)
theorem Feeds.one {t : Tk} {S S' : List It} (h : Stp fo t S S') : Feeds [t] S S' := fun ms r q => .step h q
noncomputable def Lv (v : Int) : Prop := (1 ≤ v ∧ v ≤ 8) ∨ v = 10 ∨ v = 11
noncomputable def Blk (S : List It) (L : Int) : Prop := ∀ v x, L ≤ v → Lv v → folds fo v (x :: S) = false
noncomputable def Cn (v s : Int) : Prop := v = 0 ∨ (1 ≤ v ∧ v ≤ 8 ∧ v ≤ s) ∨ ((v = 10 ∨ v = 11) ∧ 11 ≤ s)
noncomputable def Never (S : List It) : Prop := ∀ v x, folds fo v (x :: S) = false
theorem Never.blk {S : List It} (h : Never S) (L : Int) : Blk S L := fun v x _ _ => h v x
noncomputable def st : It → Int
  | .nd o _ ks => forceF fo o ks.length
  | .mk .. => 0
/-- marks that leave a tree, folded or to be folded -/
noncomputable def Gives (ts : List Tk) (x : It) (S : List It) (C : Int → Prop) : Prop :=
  ∃ R, Feeds ts S (R ++ S) ∧ (∀ B, topT (R ++ B) = true) ∧ ∀ v, C v → ∀ X, FoldTo fo v (x :: S) X → FoldTo fo v (R ++ S) X
theorem never_mk {n : Int} (h : 0 ≤ n ∧ n < 256) (s : Str) (S : List It) (hf : fo n = none) : Never (.mk n h s :: S) := fun v x => by
  show (match fo n with | none => false | some l => _) = false
  rw [hf]
theorem fld_none {t : Tk} {S : List It} (h : topT S = false) : Fld fo t S S := ⟨fun e => (by rw [h] at e; exact nomatch e), fun _ => rfl⟩
theorem feed_open {t : Tk} (h : 0 ≤ t.1 ∧ t.1 < 256) {S : List It} (hl : isLeaf t.1 = false) (hf : fo t.1 = none) (hc : clD t.1 = none) (h0 : t.1 ≠ 0) (hS : topT S = false) : Feeds [t] S (.mk t.1 h t.2 :: S) :=
  .one (.other hl (by rw [hf]; rfl) (fld_none hS) (.push h hc h0))

theorem gives_wrap {ts : List Tk} {x : It} {S : List It} {C : Int → Prop} (hx : x.isT = true) (hS : topT S = false) (h : ∀ S, topT S = false → Never S → Gives ts x S fun v => v = 0) : Gives ([(7, Str.ofString "(")] ++ ts ++ [(8, Str.ofString ")")]) x S C := by
  have hn : 0 ≤ (7 : Int) ∧ (7 : Int) < 256 := by decide
  obtain ⟨R, h1, h2, h3⟩ := h (.mk 7 hn (Str.ofString "(") :: S) rfl (never_mk hn _ S (by decide))
  have hstop : FoldTo fo 0 (x :: .mk 7 hn (Str.ofString "(") :: S) (x :: .mk 7 hn (Str.ofString "(") :: S) := .stop (never_mk hn _ S (by decide) 0 x)
  refine ⟨[x], ((feed_open (t := (7, Str.ofString "(")) hn (by decide) (by decide) (by decide) (by decide) hS).app h1).app (.one ?_), fun B => hx, fun v _ X h => h⟩
  refine .other (S' := x :: .mk 7 hn (Str.ofString "(") :: S) (by decide) (by rw [show fo ((8, Str.ofString ")") : Tk).1 = none from by decide]; rfl) ⟨fun _ => h3 0 rfl _ hstop, fun e => (by rw [h2] at e; exact nomatch e)⟩ ?_
  refine .paren (ks := [x]) (g := 0) (x := .mk 7 hn (Str.ofString "(")) rfl ?_ rfl
  have hne : x.num ≠ 7 := by
    intro e
    have := x.term
    rw [e, hx] at this
    exact absurd this (by decide)
  show coll 7 12 (x :: .mk 7 hn _ :: S) [] 0 = _
  unfold coll
  rw [if_neg hne]
  cases x with
  | mk n hn s => cases hx
  | nd o ho k =>
    show coll 7 12 (.mk 7 hn _ :: S) [.nd o ho k] 0 = _
    unfold coll
    exact if_pos rfl
theorem gives_kid {ts : List Tk} {x : It} {S : List It} (w : Bool) (hx : x.isT = true) (hS : topT S = false) (h : ∀ S, topT S = false → Blk S (st x) → Gives ts x S fun v => Cn v (st x)) (hb : w = false → Blk S (st x)) : Gives (wrT w ts) x S fun v => w = false → Cn v (st x) := by
  cases w with
  | false =>
    obtain ⟨R, h1, h2, h3⟩ := h S hS (hb rfl)
    exact ⟨R, h1, h2, fun v hv => h3 v (hv rfl)⟩
  | true =>
    refine gives_wrap hx hS fun S' h1 h2 => ?_
    obtain ⟨R, q1, q2, q3⟩ := h S' h1 (h2.blk _)
    exact ⟨R, q1, q2, fun v hv => q3 v (.inl hv)⟩
/-- a row of trees, the mark between -/
noncomputable def jr {α : Type} (sep : α) : List (List α) → List α
  | [] => []
  | [p] => p
  | p :: q :: r => p ++ [sep] ++ jr sep (q :: r)
theorem jn_jr {α : Type} (sep : α) : ∀ (ps : List (List α)) (acc : List α), acc ≠ [] → (∀ p ∈ ps, p ≠ []) → jn sep acc ps = match ps with | [] => acc | _ => acc ++ [sep] ++ jr sep ps
  | [], acc, _, _ => rfl
  | [p], acc, h, _ => by
    rw [jn_cons]
    cases acc with
    | nil => exact absurd rfl h
    | cons a acc => simp [jn, jr]
  | p :: q :: r, acc, h, hp => by
    rw [jn_cons]
    have e : (if acc.isEmpty then acc else acc ++ [sep]) = acc ++ [sep] := by cases acc <;> simp_all
    rw [e, jn_jr sep (q :: r) (acc ++ [sep] ++ p) (by simp) fun x hx => hp x (.tail _ hx)]
    simp [jr]
theorem jn_row {α : Type} (sep : α) (ps : List (List α)) (hp : ∀ p ∈ ps, p ≠ []) : jn sep [] ps = jr sep ps := by
  cases ps with
  | nil => rfl
  | cons p r =>
    rw [jn_cons]
    simp only [List.isEmpty_nil, if_true, List.nil_append]
    rw [jn_jr sep r p (hp p (.head _)) fun x hx => hp x (.tail _ hx)]
    cases r <;> simp [jr]
/-- the stack behind a row -/
noncomputable def stk (m : It) : List It → List It → List It
  | B, [] => B
  | B, [x] => x :: B
  | B, x :: y :: r => stk m (m :: x :: B) (y :: r)
structure RowOf (p : It × List Tk) : Prop where
  tree : p.1.isT = true
  gives : ∀ S, topT S = false → Never S → Gives p.2 p.1 S fun v => v = 0
theorem feed_row {sep : Tk} (hn : 0 ≤ sep.1 ∧ sep.1 < 256) (hl : isLeaf sep.1 = false) (hf : fo sep.1 = none) (hc : clD sep.1 = none) (h0 : sep.1 ≠ 0) : ∀ (ps : List (It × List Tk)) (B : List It), (∀ p ∈ ps, RowOf p) → topT B = false → Never B →
    ∃ S, Feeds (jr sep (ps.map (·.2))) B S ∧ (∀ t : Tk, fo t.1 = none → Fld fo t S (stk (.mk sep.1 hn sep.2) B (ps.map (·.1))))
  | [], B, _, hB, _ => ⟨B, .nil B, fun t ht => fld_none hB⟩
  | [p], B, hp, hB, hN => by
    obtain ⟨R, h1, h2, h3⟩ := (hp p (.head _)).gives B hB hN
    refine ⟨R ++ B, h1, fun t ht => ⟨fun _ => ?_, fun e => (by rw [h2] at e; exact nomatch e)⟩⟩
    rw [ht]
    exact h3 0 rfl _ (.stop (hN 0 p.1))
  | p :: q :: r, B, hp, hB, hN => by
    obtain ⟨R, h1, h2, h3⟩ := (hp p (.head _)).gives B hB hN
    obtain ⟨S, q1, q2⟩ := feed_row hn hl hf hc h0 (q :: r) (.mk sep.1 hn sep.2 :: p.1 :: B) (fun x hx => hp x (.tail _ hx)) rfl (never_mk hn _ _ hf)
    refine ⟨S, ?_, q2⟩
    show Feeds (p.2 ++ [sep] ++ jr sep (q.2 :: r.map (·.2))) B S
    refine (h1.app (.one (.other hl (by rw [hf]; rfl) ⟨fun _ => ?_, fun e => (by rw [h2] at e; exact nomatch e)⟩ (.push hn hc h0)))).app q1
    rw [hf]
    exact h3 0 rfl _ (.stop (hN 0 p.1))
theorem coll_tree {m a : Int} {x : It} {S ks : List It} {g : Nat} (hx : x.isT = true) (hm : m < 256) : coll m a (x :: S) ks g = coll m a S (x :: ks) g := by
  have hne : x.num ≠ m := by
    intro e
    have := x.term
    rw [e, hx, decide_eq_true hm] at this
    exact absurd this (by decide)
  conv => lhs; unfold coll
  rw [if_neg hne]
  cases x with
  | mk n hn s => cases hx
  | nd o ho k => rfl
theorem coll_row {m a : Int} {s : Str} (ha : 0 ≤ a ∧ a < 256) (hm : m < 256) (hma : a ≠ m) : ∀ (xs : List It) (B ks : List It) (g : Nat), (∀ x ∈ xs, x.isT = true) → coll m a (stk (.mk a ha s) B xs) ks g = coll m a B (xs ++ ks) (g + (xs.length - 1))
  | [], B, ks, g, _ => rfl
  | [x], B, ks, g, h => coll_tree (h x (.head _)) hm
  | x :: y :: r, B, ks, g, h => by
    show coll m a (stk (.mk a ha s) (.mk a ha s :: x :: B) (y :: r)) ks g = _
    rw [coll_row ha hm hma (y :: r) _ ks g fun z hz => h z (.tail _ hz)]
    have e : coll m a (.mk a ha s :: x :: B) (y :: r ++ ks) (g + ((y :: r).length - 1)) = coll m a (x :: B) (y :: r ++ ks) (g + ((y :: r).length - 1) + 1) := by
      conv => lhs; unfold coll
      rw [if_neg (show ¬ (It.mk a ha s).num = m from hma)]
      exact if_pos rfl
    rw [e, coll_tree (h x (.head _)) hm]
    congr 1
/-- a tree's item, and what its pieces give -/
structure Core (t : PyData) (ts : List Tk) (x : It) : Prop where
  tree : x.isT = true
  d : x.d = t
  st : st x = forceF fo (ownO t) (kidsO t).length
  gives : ∀ S, topT S = false → Blk S (Mine.st x) → Gives ts x S fun v => Cn v (Mine.st x)
theorem Core.row {t : PyData} {ts : List Tk} {x : It} (C : Core t ts x) (w : Bool) : RowOf (x, wrT w ts) where
  tree := C.tree
  gives := fun S h1 h2 => by
    obtain ⟨R, q1, q2, q3⟩ := gives_kid w C.tree h1 C.gives fun _ => h2.blk _
    exact ⟨R, q1, q2, fun v hv => q3 v fun _ => .inl hv⟩
theorem leaf_self {t : Tk} (h : Leaf t) : isLeaf t.1 = true := by
  rcases h with ⟨e, _⟩ | ⟨e, _⟩ | e
  · rw [e]; rfl
  · rw [e]; rfl
  · rw [e]; rfl
theorem least_le {o l : Int} (h : fo o = some l) (cnt : Nat) (hc : cnt = 2) (place : Nat) : leastF fo o cnt place = if l = 10 then 11 - 2 * (place : Int) else if place = 1 ∨ l = 2 then l + 1 else l := by
  subst hc
  unfold leastF
  rw [h]
  have e : ((place : Int) = 1) = (place = 1) := propext ⟨fun h => by omega, fun h => by omega⟩
  dsimp only
  rw [if_neg (by decide)]
  simp only [e]
theorem weak_strong {own : Int} {cnt place : Nat} {t : PyData} (h : weak own cnt place t = false) : leastF fo own cnt place ≤ forceF fo (ownO t) (kidsO t).length := by
  unfold weak weakD at h
  rw [Bool.or_eq_false_iff, Bool.or_eq_false_iff] at h
  have := of_decide_eq_false h.1.1
  omega
theorem lv_of {o l : Int} (h : fo o = some l) (h31 : o ≠ 31) : Lv l := by
  obtain ⟨r, hr, rfl, rfl⟩ := fo_mem h
  have : ∀ r ∈ theRows, r.1 ≠ 31 → (1 ≤ r.2.2 ∧ r.2.2 ≤ 8) ∨ r.2.2 = 10 ∨ r.2.2 = 11 := by decide
  exact this r hr h31
theorem notLeaf {o l : Int} (h : fo o = some l) : isLeaf o = false ∧ clD o = none ∧ o ≠ 0 := by
  obtain ⟨r, hr, rfl, rfl⟩ := fo_mem h
  have : ∀ r ∈ theRows, isLeaf r.1 = false ∧ (clD r.1).isNone = true ∧ r.1 ≠ 0 := by decide
  have h := this r hr
  exact ⟨h.1, by simpa using h.2.1, h.2.2⟩
theorem folds_mk {n l : Int} (h : 0 ≤ n ∧ n < 256) (s : Str) (x : It) (S : List It) (v : Int) (hf : fo n = some l) : folds fo v (x :: .mk n h s :: S) = (decide (v < (bif topT S then l else 9)) || (decide ((bif topT S then l else 9) = v) && decide ((bif topT S then l else 9) ≠ 10))) := by
  show (match fo n with | none => false | some l => _) = _
  rw [hf]
theorem core_un {o l : Int} {s : Str} {a : PyData} {ta : List Tk} {xa : It} (hf : fo o = some l) (C : Core a ta xa) : ∃ x, Core (ndD o [a]) ([(o, s)] ++ wrT (weak o 1 0 a) ta) x := by
  have hp := fo_pos hf
  have hn : 0 ≤ o ∧ o < 256 := by omega
  have hs : st (.nd o hn.1 [a]) = 9 := by
    show forceF fo o 1 = 9
    unfold forceF; rw [hf]; rfl
  refine ⟨.nd o hn.1 [a], rfl, rfl, by rw [ownO_nd]; rfl, fun S hS _ => ?_⟩
  have hw : weak o 1 0 a = false → 9 ≤ st xa := fun h => by
    have := weak_strong h
    rw [C.st]
    have e : leastF fo o (1 : Nat) (0 : Nat) = 9 := by unfold leastF; rw [hf]; rfl
    omega
  have hfold : ∀ v x, folds fo v (x :: .mk o hn s :: S) = (decide (v < 9) || (decide ((9 : Int) = v) && decide ((9 : Int) ≠ 10))) := fun v x => by
    rw [folds_mk hn s x S v hf, hS]; rfl
  obtain ⟨R, h1, h2, h3⟩ := gives_kid (weak o 1 0 a) C.tree (S := .mk o hn s :: S) rfl C.gives fun h v x hv hL => by
    rw [hfold]
    have := hw h
    rcases hL with q | q | q <;> simp <;> omega
  refine ⟨R ++ [.mk o hn s], ?_, fun B => by rw [List.append_assoc]; exact h2 _, fun v hv X hX => ?_⟩
  · rw [List.append_assoc]
    exact (Feeds.one (.pre hn (notLeaf hf).1 (by rw [hf]; rfl) hS)).app h1
  · rw [hs] at hv
    rw [List.append_assoc]
    have hv9 : v < 9 := by
      rcases hv with q | q | q <;> omega
    refine h3 v (fun hw0 => ?_) X (.step (by rw [hfold, decide_eq_true hv9]; rfl) ?_)
    · have := hw hw0
      rcases hv with q | q | q
      · exact .inl q
      · exact .inr (.inl ⟨q.1, q.2.1, by omega⟩)
      · omega
    · have e : fold1 (xa :: .mk o hn s :: S) = .nd o hn.1 [xa.d] :: S := by
        cases S with
        | nil => rfl
        | cons b S =>
          show (bif b.isT then _ else _) = _
          rw [show b.isT = false from hS]; rfl
      rw [e, C.d]; exact hX
theorem core_bin {o l : Int} {s : Str} {a b : PyData} {ta tb : List Tk} {xa xb : It} (hf : fo o = some l) (h31 : o ≠ 31) (Ca : Core a ta xa) (Cb : Core b tb xb) : ∃ x, Core (ndD o [a, b]) (wrT (weak o 2 0 a) ta ++ [(o, s)] ++ wrT (weak o 2 1 b) tb) x := by
  have hp := fo_pos hf
  have hn : 0 ≤ o ∧ o < 256 := by omega
  have hlv := lv_of hf h31
  have hs : st (.nd o hn.1 [a, b]) = l := by
    show forceF fo o 2 = l
    unfold forceF; rw [hf]; rfl
  have hwa : weak o 2 0 a = false → l ≤ st xa ∧ (l = 10 → 11 ≤ st xa) := fun h => by
    have := weak_strong h
    rw [Ca.st]
    rw [least_le hf _ rfl] at this
    split at this
    · exact ⟨by omega, fun _ => by omega⟩
    · split at this <;> exact ⟨by omega, fun _ => by omega⟩
  have hwb : weak o 2 1 b = false → (l ≠ 10 → l + 1 ≤ st xb) ∧ (l = 10 → 9 ≤ st xb) := fun h => by
    have := weak_strong h
    rw [Cb.st]
    rw [least_le hf _ rfl] at this
    split at this
    · exact ⟨fun _ => by omega, fun _ => by omega⟩
    · rw [if_pos (.inl rfl)] at this
      exact ⟨fun _ => this, fun _ => by omega⟩
  refine ⟨.nd o hn.1 [a, b], rfl, rfl, by rw [ownO_nd]; rfl, fun S hS hB => ?_⟩
  rw [hs] at hB
  obtain ⟨Ra, a1, a2, a3⟩ := gives_kid (weak o 2 0 a) Ca.tree hS Ca.gives fun h v x hv hL => hB v x (by have := hwa h; omega) hL
  have hfold : ∀ v x, folds fo v (x :: .mk o hn s :: xa :: S) = (decide (v < l) || (decide (l = v) && decide (l ≠ 10))) := fun v x => by
    rw [folds_mk hn s x (xa :: S) v hf, show topT (xa :: S) = true from Ca.tree]; rfl
  obtain ⟨Rb, b1, b2, b3⟩ := gives_kid (weak o 2 1 b) Cb.tree (S := .mk o hn s :: xa :: S) rfl Cb.gives fun h v x hv hL => by
    rw [hfold]
    have := hwb h
    by_cases h10 : l = 10
    · have := this.2 h10
      rcases hL with q | q | q <;> simp <;> omega
    · have := this.1 h10
      simp; omega
  have nl := notLeaf hf
  refine ⟨Rb ++ [.mk o hn s, xa], ?_, fun B => by rw [List.append_assoc]; exact b2 _, fun v hv X hX => ?_⟩
  · have e : (Rb ++ [.mk o hn s, xa]) ++ S = Rb ++ .mk o hn s :: xa :: S := by rw [List.append_assoc]; rfl
    rw [e]
    refine (a1.app (.one (.other (S' := xa :: S) nl.1 (by rw [a2, Bool.not_true, Bool.and_false]) ⟨fun _ => ?_, fun e => (by rw [a2] at e; exact nomatch e)⟩ (.push (t := (o, s)) hn nl.2.1 nl.2.2)))).app b1
    rw [hf]
    refine a3 l (fun h => ?_) _ (.stop (hB l xa (Int.le_refl _) hlv))
    have := hwa h
    rcases hlv with q | q | q
    · exact .inr (.inl ⟨q.1, q.2, this.1⟩)
    · exact .inr (.inr ⟨.inl q, this.2 q⟩)
    · exact .inr (.inr ⟨.inr q, by omega⟩)
  · rw [hs] at hv
    rw [List.append_assoc]
    refine b3 v (fun h => ?_) X (.step (by rw [hfold]; rcases hv with q | q | q <;> simp <;> omega) ?_)
    · have := hwb h
      rcases hv with q | q | q
      · exact .inl q
      · refine .inr (.inl ⟨q.1, q.2.1, ?_⟩)
        by_cases h10 : l = 10
        · have := this.2 h10; omega
        · have := this.1 h10; omega
      · refine .inr (.inr ⟨q.1, ?_⟩)
        rcases hlv with z | z | z
        · omega
        · omega
        · have := this.1 (by omega); omega
    · have e : fold1 (xb :: .mk o hn s :: xa :: S) = .nd o hn.1 [xa.d, xb.d] :: S := by
        show (bif xa.isT then _ else _) = _
        rw [Ca.tree]; rfl
      rw [e, Ca.d, Cb.d]; exact hX
theorem core_grp {o : Int} {k1 k2 : Tk} (ho : (o = 9 ∧ k1 = (9, Str.ofString "[") ∧ k2 = (10, Str.ofString "]")) ∨ (o = 25 ∧ k1 = (25, Str.ofString "{") ∧ k2 = (26, Str.ofString "}"))) (ps : List (It × List Tk)) (hp : ∀ p ∈ ps, RowOf p) (hne : ∀ p ∈ ps, p.2 ≠ []) :
    ∃ x, Core (ndD o (ps.map fun p : It × List Tk => p.1.d)) ([k1] ++ jn comma [] (ps.map (·.2)) ++ [k2]) x := by
  have h0 : 0 ≤ o ∧ o < 256 := by omega
  have hc : 0 ≤ (12 : Int) ∧ (12 : Int) < 256 := by decide
  refine ⟨.nd o h0.1 (ps.map fun p : It × List Tk => p.1.d), rfl, rfl, by rw [ownO_nd]; rfl, fun S hS _ => ⟨[.nd o h0.1 (ps.map fun p : It × List Tk => p.1.d)], ?_, fun _ => rfl, fun v _ X h => h⟩⟩
  rw [jn_row comma (ps.map (·.2)) fun q hq => by obtain ⟨p, hm, rfl⟩ := List.mem_map.mp hq; exact hne p hm]
  have go : ∀ (hk1 : 0 ≤ k1.1 ∧ k1.1 < 256), k1.1 = o → isLeaf k1.1 = false → fo k1.1 = none → clD k1.1 = none → k1.1 ≠ 0 → isLeaf k2.1 = false → fo k2.1 = none → clD k2.1 = some (.int o) → k2.1 ≠ 8 → o ≠ 12 → Feeds ([k1] ++ jr comma (ps.map (·.2)) ++ [k2]) S ([.nd o h0.1 (ps.map fun p : It × List Tk => p.1.d)] ++ S) := by
    intro hk1 e1 l1 f1 c1 z1 l2 f2 c2 z2 z3
    obtain ⟨S', q1, q2⟩ := feed_row (sep := comma) hc (by decide) (by decide) (by decide) (by decide) ps (.mk k1.1 hk1 k1.2 :: S) hp rfl (never_mk hk1 _ _ f1)
    refine ((feed_open hk1 l1 f1 c1 z1 hS).app q1).app (.one (.other l2 (by rw [f2]; rfl) (q2 k2 f2) ?_))
    have e : ps.map (fun (p : It × List Tk) => p.1.d) = (ps.map (·.1)).map It.d := by rw [List.map_map]; rfl
    rw [e]
    refine .brack (g := (ps.map (·.1)).length - 1) (x := .mk k1.1 hk1 k1.2) (ks := ps.map (·.1)) h0.1 c2 z2 ?_ rfl
    rw [coll_row hc h0.2 (Ne.symm z3) (ps.map (·.1)) _ [] 0 fun x hx => by obtain ⟨p, hm, rfl⟩ := List.mem_map.mp hx; exact (hp p hm).tree]
    rw [List.append_nil, Nat.zero_add]
    unfold coll
    exact if_pos e1
  rcases ho with ⟨rfl, rfl, rfl⟩ | ⟨rfl, rfl, rfl⟩
  · exact go (by decide) rfl (by decide) (by decide) (by decide) (by decide) (by decide) (by decide) rfl (by decide) (by decide)
  · exact go (by decide) rfl (by decide) (by decide) (by decide) (by decide) (by decide) (by decide) rfl (by decide) (by decide)
theorem PR.ne {n : Nat} {t : PyData} {ts : List Tk} (h : PR n t ts) : ts ≠ [] := by
  cases h <;> simp
theorem PR.core {n : Nat} {t : PyData} {ts : List Tk} (h : PR n t ts) : ∃ x, Core t ts x := by
  induction h with
  | @atom n t h =>
    refine ⟨.nd 0 (Int.le_refl 0) [tkD t], rfl, rfl, by rw [ownO_nd]; rfl, fun S hS _ => ⟨[.nd 0 (Int.le_refl 0) [tkD t]], .one (.leaf (leaf_self h)), fun _ => rfl, fun v _ X h => h⟩⟩
  | @un n o s a ta ho hs ha ih =>
    obtain ⟨xa, C⟩ := ih
    have : ∃ l, fo o = some l := by
      rcases ho with rfl | rfl | rfl
      · exact ⟨7, by decide⟩
      · exact ⟨7, by decide⟩
      · exact ⟨9, by decide⟩
    obtain ⟨l, hf⟩ := this
    exact core_un hf C
  | bin ho h31 hs ha hb hd iha ihb =>
    obtain ⟨xa, Ca⟩ := iha
    obtain ⟨xb, Cb⟩ := ihb
    exact core_bin ho h31 Ca Cb
  | @grp n o k1 k2 kts ho hl hk ih =>
    obtain ⟨ps, e1, e2, h1⟩ : ∃ ps : List (It × List Tk), ps.map (fun (p : It × List Tk) => p.1.d) = kts.map (·.1) ∧ ps.map (·.2) = kts.map (·.2) ∧ ∀ p ∈ ps, RowOf p := by
      clear hl
      induction kts with
      | nil => exact ⟨[], rfl, rfl, fun _ h => nomatch h⟩
      | cons p r ihr =>
        obtain ⟨x, C⟩ := ih p (.head _)
        obtain ⟨ps, e1, e2, h1⟩ := ihr (fun q hq => hk q (.tail _ hq)) (fun q hq => ih q (.tail _ hq))
        refine ⟨(x, p.2) :: ps, by rw [List.map_cons, List.map_cons, e1, C.d], by rw [List.map_cons, List.map_cons, e2], fun q hq => ?_⟩
        rcases List.mem_cons.mp hq with e | e
        · rw [e]; exact C.row false
        · exact h1 q e
    have := core_grp ho ps h1 (fun p hp => by
      have : p.2 ∈ kts.map (·.2) := by rw [← e2]; exact List.mem_map.mpr ⟨p, hp, rfl⟩
      obtain ⟨q, hq, e⟩ := List.mem_map.mp this
      rw [← e]; exact (hk q hq).ne)
    rw [e1, e2] at this
    exact this
/-- the lines, read back -/
theorem reads_prog {n : Nat} (kts : List TP) (hk : ∀ p ∈ kts, PR n p.1 p.2) : Reads fo (jn semi [] (kts.map lineT) ++ [theEnd]) [] (kts.map (·.1)) := by
  obtain ⟨ps, e1, e2, h1⟩ : ∃ ps : List (It × List Tk), ps.map (fun (p : It × List Tk) => p.1.d) = kts.map (·.1) ∧ ps.map (·.2) = kts.map lineT ∧ ∀ p ∈ ps, RowOf p := by
    induction kts with
    | nil => exact ⟨[], rfl, rfl, fun _ h => nomatch h⟩
    | cons p r ihr =>
      obtain ⟨x, C⟩ := (hk p (.head _)).core
      obtain ⟨ps, e1, e2, h1⟩ := ihr (fun q hq => hk q (.tail _ hq))
      refine ⟨(x, lineT p) :: ps, by rw [List.map_cons, List.map_cons, e1, C.d], by rw [List.map_cons, List.map_cons, e2], fun q hq => ?_⟩
      rcases List.mem_cons.mp hq with e | e
      · rw [e]; exact C.row _
      · exact h1 q e
  rw [jn_row semi (kts.map lineT) fun q hq => by
    obtain ⟨p, hp, rfl⟩ := List.mem_map.mp hq
    have h1 : p.2.length ≤ (lineT p).length := (wrT_len _ p.2).1
    have h2 := List.length_pos_iff.mpr (hk p hp).ne
    exact List.length_pos_iff.mp (by omega)]
  rw [← e1, ← e2]
  have hc : 0 ≤ (13 : Int) ∧ (13 : Int) < 256 := by decide
  obtain ⟨S', q1, q2⟩ := feed_row (sep := semi) hc (by decide) (by decide) (by decide) (by decide) ps [] h1 rfl fun v x => rfl
  have e : ps.map (fun (p : It × List Tk) => p.1.d) = (ps.map (·.1)).map It.d := by rw [List.map_map]; rfl
  rw [e]
  refine q1 [theEnd] _ (.fin (g := (ps.map (·.1)).length - 1) (R := []) rfl (by rw [show fo theEnd.1 = none from by decide]; rfl) (q2 theEnd (by decide)) ?_ rfl)
  rw [coll_row hc (by decide) (by decide) (ps.map (·.1)) _ [] 0 fun x hx => by obtain ⟨p, hm, rfl⟩ := List.mem_map.mp hx; exact (h1 p hm).tree]
  rw [List.append_nil, Nat.zero_add]; rfl


noncomputable abbrev cs (x : Str) : List Nat := x.cps.toList
/-- first signs of what may stand behind an open mark -/
noncomputable def startC : List Nat := [97, 98, 99, 100, 101, 102, 120, 48, 49, 50, 51, 52, 53, 54, 46, 40, 91, 123, 43, 45, 126, 93, 125]
/-- marks behind which more must come (but the point) -/
noncomputable def preL : List Tk := ((theRows.filter fun r => r.1 ≠ 23).map fun r => (r.1, r.2.1)) ++ [(7, Str.ofString "("), (9, Str.ofString "["), (25, Str.ofString "{"), comma, semi]
noncomputable def endL : List Tk := [(52, Str.ofString "..."), (8, Str.ofString ")"), (10, Str.ofString "]"), (26, Str.ofString "}")]
noncomputable def dotT : Tk := (23, Str.ofString ".")
/-- no mark goes on behind x with d -/
noncomputable def noExt (x : List Nat) (d : Nat) : Bool := exacts.all fun e => !((cs e.1).take x.length == x) || !((cs e.1)[x.length]? == some d)
noncomputable def chk : Bool :=
  (exacts.all fun e => decide ((cs e.1).length ≤ 3) && [1, 2].all fun j => match (cs e.1)[j]? with
    | none => true
    | some d => d != 32 && (!((preL.map fun t => cs t.2).contains ((cs e.1).take j)) || !(startC.contains d)) && !((endL.map fun t => cs t.2).contains ((cs e.1).take j)) && (!((cs e.1).take j == [46]) || d == 46))
theorem chk_ok : chk = true := by kernel_rfl
noncomputable def signOk (t : Tk) : Bool := match cs t.2 with
  | c :: p => decide (c ≠ 32) && !(let7.contains c) && !(dig7.contains c) && decide (p.length ≤ 2) && exacts.lookup t.2 == some t.1
  | [] => false
noncomputable def signL : List Tk := preL ++ endL ++ [dotT]
theorem sign_ok : signL.all signOk = true := by kernel_rfl
theorem lookup_mem' {α β : Type} [BEq α] [LawfulBEq α] {x : α} {i : β} : ∀ {l : List (α × β)}, l.lookup x = some i → (x, i) ∈ l
  | [], h => nomatch h
  | (y, j) :: r, h => by
    rw [List.lookup_cons] at h
    cases e : x == y with
    | true => rw [e] at h; cases h; rw [eq_of_beq e]; exact .head _
    | false => rw [e] at h; exact .tail _ (lookup_mem' h)
theorem noExt_none {x q : List Nat} {d : Nat} (h : noExt x d = true) : exacts.lookup (sL (x ++ d :: q)) = none := by
  cases e : exacts.lookup (sL (x ++ d :: q)) with
  | none => rfl
  | some i =>
    have := List.all_eq_true.mp h _ (lookup_mem' e)
    rw [show cs (sL (x ++ d :: q)) = x ++ d :: q from rfl] at this
    simp at this
theorem noExt_of {x : List Nat} {d : Nat} (h1 : 1 ≤ x.length) (h : d = 32 ∨ ((∃ t ∈ preL, cs t.2 = x) ∧ d ∈ startC) ∨ (∃ t ∈ endL, cs t.2 = x) ∨ (x = [46] ∧ d ≠ 46)) : noExt x d = true := by
  unfold noExt
  rw [List.all_eq_true]
  intro e he
  cases h2 : ((cs e.1).take x.length == x) with
  | false => rfl
  | true =>
    cases h3 : ((cs e.1)[x.length]? == some d) with
    | false => rfl
    | true =>
      exfalso
      have h2 := eq_of_beq h2
      have h3 := eq_of_beq h3
      have c := List.all_eq_true.mp chk_ok e he
      rw [Bool.and_eq_true] at c
      have hl := (List.getElem?_eq_some_iff.mp h3).1
      have hl3 := of_decide_eq_true c.1
      have c2 := List.all_eq_true.mp c.2 x.length (by
        have : x.length = 1 ∨ x.length = 2 := by omega
        rcases this with q | q <;> rw [q] <;> decide)
      rw [h3] at c2
      dsimp only at c2
      rw [h2] at c2
      simp only [Bool.and_eq_true, Bool.not_eq_true', Bool.or_eq_true, bne_iff_ne, ne_eq] at c2
      obtain ⟨⟨⟨a1, a2⟩, a3⟩, a4⟩ := c2
      rcases h with q | ⟨⟨t, ht, rfl⟩, q⟩ | ⟨t, ht, rfl⟩ | ⟨q1, q2⟩
      · exact a1 q
      · rcases a2 with z | z
        · have : (preL.map fun t => cs t.2).contains (cs t.2) = true := by rw [List.contains_iff_mem]; exact List.mem_map.mpr ⟨t, ht, rfl⟩
          rw [this] at z; cases z
        · have : startC.contains d = true := by rw [List.contains_iff_mem]; exact q
          rw [this] at z; cases z
      · have : (endL.map fun t => cs t.2).contains (cs t.2) = true := by rw [List.contains_iff_mem]; exact List.mem_map.mpr ⟨t, ht, rfl⟩
        rw [this] at a3; cases a3
      · subst q1
        rcases a4 with z | z
        · cases z
        · exact q2 (eq_of_beq z)
noncomputable def NamT (t : Tk) : Prop := (t.1 = 1 ∧ ∃ c ∈ let7, t.2 = s1 c) ∨ (t.1 = 2 ∧ ∃ c ∈ dig7, t.2 = s1 c)
noncomputable def Tok (t : Tk) : Prop := NamT t ∨ t ∈ signL
theorem sL_cs (x : Str) : sL (cs x) = x := by cases x; simp
theorem lex_one {t : Tk} {r : List Nat} {ms : List Tk} (ht : Tok t) (hr : r = [] ∨ ∃ d r', r = d :: r' ∧ (NamT t ∨ noExt (cs t.2) d = true)) (h : Lexes r ms) : Lexes (cs t.2 ++ r) (t :: ms) := by
  have nam : NamT t → Lexes (cs t.2 ++ r) (t :: ms) := fun hn => by
    obtain ⟨i, x⟩ := t
    rcases hn with ⟨e1, c, hc, e2⟩ | ⟨e1, c, hc, e2⟩
    · dsimp only at e1 e2; subst e1; subst e2; exact .letter hc h
    · dsimp only at e1 e2; subst e1; subst e2; exact .digit hc h
  rcases ht with hn | hs
  · exact nam hn
  · have hr' : NamT t ∨ (r = [] ∨ ∃ d r', r = d :: r' ∧ noExt (cs t.2) d = true) := by
      rcases hr with e | ⟨d, r', e, q | q⟩
      · exact .inr (.inl e)
      · exact .inl q
      · exact .inr (.inr ⟨d, r', e, q⟩)
    rcases hr' with hn | hr
    · exact nam hn
    have k := List.all_eq_true.mp sign_ok t hs
    unfold signOk at k
    split at k
    · rename_i c p e
      simp only [Bool.and_eq_true, Bool.not_eq_true', decide_eq_true_eq, beq_iff_eq] at k
      obtain ⟨⟨⟨⟨k1, k2⟩, k3⟩, k4⟩, k5⟩ := k
      obtain ⟨i, x⟩ := t
      dsimp only at e k5 hr ⊢
      rw [e] at hr ⊢
      have ex : x = sL (c :: p) := by rw [← e, sL_cs]
      rw [ex] at k5 ⊢
      refine .sign k1 (fun h => by rw [List.contains_iff_mem.mpr h] at k2; cases k2) (fun h => by rw [List.contains_iff_mem.mpr h] at k3; cases k3) k4 k5 (fun k q1 q2 q3 => ?_) h
      rcases hr with e' | ⟨d, r', e', z⟩
      · subst e'; simp at q3; omega
      · subst e'
        have hk : (c :: (p ++ d :: r')).take k = (c :: p) ++ d :: r'.take (k - (p.length + 2)) := by
          obtain ⟨j, rfl⟩ : ∃ j, k = (c :: p).length + (j + 1) := ⟨k - (p.length + 2), by simp; omega⟩
          rw [show c :: (p ++ d :: r') = (c :: p) ++ d :: r' from rfl, List.take_length_add_append]
          simp only [List.take_succ_cons, List.length_cons]
          congr 3
          omega
        rw [hk]
        exact noExt_none z
    · cases k
noncomputable def startL : List Tk := [(7, Str.ofString "("), (9, Str.ofString "["), (25, Str.ofString "{"), (14, Str.ofString "+"), (15, Str.ofString "-"), (31, Str.ofString "~"), (52, Str.ofString "..."), (10, Str.ofString "]"), (26, Str.ofString "}")]
noncomputable def StartT (t : Tk) : Prop := NamT t ∨ t ∈ startL
noncomputable def EndT (t : Tk) : Prop := NamT t ∨ t ∈ endL
noncomputable def Nx' (x y : Tk) : Prop := EndT x ∨ (x ∈ preL ∧ StartT y) ∨ (x = dotT ∧ NamT y)
noncomputable def Adj : List Tk → Prop
  | [] => True
  | [_] => True
  | x :: y :: r => Nx' x y ∧ Adj (y :: r)
theorem Adj.app : ∀ {a : List Tk} {x y : Tk} {b : List Tk}, Adj (a ++ [x]) → Adj (y :: b) → Nx' x y → Adj ((a ++ [x]) ++ y :: b)
  | [], x, y, b, _, h2, h3 => ⟨h3, h2⟩
  | [z], x, y, b, h1, h2, h3 => ⟨h1.1, h3, h2⟩
  | z :: w :: a, x, y, b, h1, h2, h3 => ⟨h1.1, Adj.app (a := w :: a) h1.2 h2 h3⟩
noncomputable def flat (ts : List Tk) : List Nat := ts.flatMap fun t => cs t.2
noncomputable def flatS : List Tk → List Nat
  | [] => []
  | [t] => cs t.2
  | t :: u :: r => cs t.2 ++ 32 :: flatS (u :: r)
theorem nam_first {t : Tk} (h : NamT t) : ∃ c, cs t.2 = [c] ∧ c ∈ startC ∧ c ≠ 46 := by
  have h1 : ∀ c ∈ let7, c ∈ startC ∧ c ≠ 46 := by decide
  have h2 : ∀ c ∈ dig7, c ∈ startC ∧ c ≠ 46 := by decide
  rcases h with ⟨_, c, hc, e⟩ | ⟨_, c, hc, e⟩
  · exact ⟨c, by rw [e], h1 c hc⟩
  · exact ⟨c, by rw [e], h2 c hc⟩
theorem start_first {t : Tk} (h : StartT t) : ∃ d q, cs t.2 = d :: q ∧ d ∈ startC := by
  rcases h with h | h
  · obtain ⟨c, e, h1, _⟩ := nam_first h
    exact ⟨c, [], e, h1⟩
  · have k : ∀ t ∈ startL, (match cs t.2 with | d :: _ => startC.contains d | [] => false) = true := by decide
    have := k t h
    split at this
    · rename_i d q e
      exact ⟨d, q, e, by rwa [List.contains_iff_mem] at this⟩
    · cases this
theorem sign_pos {t : Tk} (h : t ∈ signL) : 1 ≤ (cs t.2).length := by
  have k := List.all_eq_true.mp sign_ok t h
  unfold signOk at k
  split at k
  · rename_i c p e; rw [e]; simp
  · cases k
theorem tok_pos {t : Tk} (h : Tok t) : 1 ≤ (cs t.2).length := by
  rcases h with h | h
  · obtain ⟨c, e, _⟩ := nam_first h; rw [e]; simp
  · exact sign_pos h
theorem next_ok {x y : Tk} {r : List Nat} (hx : Tok x) (hy : Tok y) (h : Nx' x y) : cs y.2 ++ r = [] ∨ ∃ d r', cs y.2 ++ r = d :: r' ∧ (NamT x ∨ noExt (cs x.2) d = true) := by
  right
  have one := tok_pos hx
  have any : ∃ d q, cs y.2 = d :: q := by
    have := tok_pos hy
    cases e : cs y.2 with
    | nil => rw [e] at this; simp at this
    | cons d q => exact ⟨d, q, rfl⟩
  rcases h with (h | h) | ⟨h1, h2⟩ | ⟨h1, h2⟩
  · obtain ⟨d, q, e⟩ := any
    exact ⟨d, q ++ r, by rw [e]; rfl, .inl h⟩
  · obtain ⟨d, q, e⟩ := any
    exact ⟨d, q ++ r, by rw [e]; rfl, .inr (noExt_of one (.inr (.inr (.inl ⟨x, h, rfl⟩))))⟩
  · obtain ⟨d, q, e, hd⟩ := start_first h2
    exact ⟨d, q ++ r, by rw [e]; rfl, .inr (noExt_of one (.inr (.inl ⟨⟨x, h1, rfl⟩, hd⟩)))⟩
  · obtain ⟨d, e, _, hd⟩ := nam_first h2
    exact ⟨d, [] ++ r, by rw [e]; rfl, .inr (noExt_of one (.inr (.inr (.inr ⟨by rw [h1]; rfl, hd⟩))))⟩
theorem lex_flat : ∀ (ts : List Tk), (∀ t ∈ ts, Tok t) → Adj ts → Lexes (flat ts) ts
  | [], _, _ => .nil
  | [t], h, _ => by
    have := lex_one (h t (.head _)) (.inl rfl) Lexes.nil
    simpa [flat] using this
  | x :: y :: r, h, ha => by
    have ih := lex_flat (y :: r) (fun t ht => h t (.tail _ ht)) ha.2
    have := lex_one (h x (.head _)) (r := cs y.2 ++ flat r) (next_ok (h x (.head _)) (h y (.tail _ (.head _))) ha.1) (by simpa [flat] using ih)
    simpa [flat] using this
theorem lex_flatS : ∀ (ts : List Tk), (∀ t ∈ ts, Tok t) → Lexes (flatS ts) ts
  | [], _ => .nil
  | [t], h => by
    have := lex_one (h t (.head _)) (.inl rfl) Lexes.nil
    simpa [flatS] using this
  | x :: y :: r, h => by
    have ih := lex_flatS (y :: r) (fun t ht => h t (.tail _ ht))
    exact lex_one (h x (.head _)) (.inr ⟨32, _, rfl, .inr (noExt_of (tok_pos (h x (.head _))) (.inl rfl))⟩) (.blank ih)
structure Good (ts : List Tk) : Prop where
  first : ∃ x r, ts = x :: r ∧ StartT x
  last : ∃ r x, ts = r ++ [x] ∧ EndT x
  tok : ∀ t ∈ ts, Tok t
  adj : Adj ts
theorem Good.one {t : Tk} (h1 : StartT t) (h2 : EndT t) (h3 : Tok t) : Good [t] := ⟨⟨t, [], rfl, h1⟩, ⟨[], t, rfl, h2⟩, fun u hu => by rw [List.mem_singleton.mp hu]; exact h3, trivial⟩
theorem Good.pre {o : Tk} {b : List Tk} (G : Good b) (h1 : StartT o) (h3 : Tok o) (h : ∀ y r, b = y :: r → Nx' o y) : Good ([o] ++ b) := by
  obtain ⟨y, r, rfl, hy⟩ := G.first
  obtain ⟨q, z, e, hz⟩ := G.last
  refine ⟨⟨o, y :: r, rfl, h1⟩, ⟨o :: q, z, by rw [e]; rfl, hz⟩, fun u hu => ?_, ⟨h y r rfl, G.adj⟩⟩
  rcases List.mem_cons.mp hu with q | q
  · rw [q]; exact h3
  · exact G.tok u q
theorem Good.post {k : Tk} {a : List Tk} (G : Good a) (h2 : EndT k) (h3 : Tok k) : Good (a ++ [k]) := by
  obtain ⟨y, r, e, hy⟩ := G.first
  obtain ⟨q, z, rfl, hz⟩ := G.last
  refine ⟨⟨y, r ++ [k], by rw [e]; rfl, hy⟩, ⟨q ++ [z], k, rfl, h2⟩, fun u hu => ?_, Adj.app G.adj trivial (.inl hz)⟩
  rcases List.mem_append.mp hu with q | q
  · exact G.tok u q
  · rw [List.mem_singleton.mp q]; exact h3
theorem Good.cat {o : Tk} {a b : List Tk} (Ga : Good a) (Gb : Good b) (h3 : Tok o) (h : ∀ y r, b = y :: r → Nx' o y) : Good (a ++ [o] ++ b) := by
  obtain ⟨y, r, e, hy⟩ := Ga.first
  obtain ⟨q, z, rfl, hz⟩ := Ga.last
  obtain ⟨y', r', rfl, hy'⟩ := Gb.first
  obtain ⟨q', z', e', hz'⟩ := Gb.last
  have adj : Adj ((q ++ [z]) ++ o :: y' :: r') := Adj.app Ga.adj ⟨h y' r' rfl, Gb.adj⟩ (.inl hz)
  refine ⟨⟨y, r ++ [o] ++ y' :: r', by rw [e]; rfl, hy⟩, ⟨(q ++ [z]) ++ [o] ++ q', z', by rw [e']; simp, hz'⟩, fun u hu => ?_, by simpa using adj⟩
  rcases List.mem_append.mp hu with w | w
  · rcases List.mem_append.mp w with w | w
    · exact Ga.tok u w
    · rw [List.mem_singleton.mp w]; exact h3
  · exact Gb.tok u w
theorem pre_tok {t : Tk} (h : t ∈ preL) : Tok t := .inr (List.mem_append_left _ (List.mem_append_left _ h))
theorem end_tok {t : Tk} (h : t ∈ endL) : Tok t := .inr (List.mem_append_left _ (List.mem_append_right _ h))
theorem Good.wrap {ts : List Tk} (w : Bool) (G : Good ts) : Good (wrT w ts) := by
  cases w with
  | false => exact G
  | true => 
    refine Good.post (G.pre (.inr (.head _)) (pre_tok (by decide)) fun y r e => ?_) (.inr (by decide)) (end_tok (by decide))
    obtain ⟨x, q, e', hx⟩ := G.first
    rw [e] at e'; cases e'
    exact .inr (.inl ⟨by decide, hx⟩)
theorem Good.start {ts : List Tk} {o : Tk} (G : Good ts) (h : o ∈ preL) : ∀ y r, ts = y :: r → Nx' o y := fun y r e => by
  obtain ⟨x, q, e', hx⟩ := G.first
  rw [e] at e'; cases e'
  exact .inr (.inl ⟨h, hx⟩)
theorem Good.row {sep : Tk} (h : sep ∈ preL) : ∀ (p : List Tk) (ps : List (List Tk)), (∀ q ∈ p :: ps, Good q) → Good (jr sep (p :: ps))
  | p, [], hp => hp p (.head _)
  | p, q :: r, hp => by
    have ih := Good.row h q r fun x hx => hp x (.tail _ hx)
    exact (hp p (.head _)).cat ih (pre_tok h) (ih.start h)
theorem Leaf.good {t : Tk} (h : Leaf t) : StartT t ∧ EndT t ∧ Tok t := by
  rcases h with h | h | h
  · exact ⟨.inl (.inl h), .inl (.inl h), .inl (.inl h)⟩
  · exact ⟨.inl (.inr h), .inl (.inr h), .inl (.inr h)⟩
  · rw [h]; exact ⟨.inr (by decide), .inr (by decide), end_tok (by decide)⟩
theorem sg_mem {k : Int} {s : Str} (h : sg k = some s) : ∃ r ∈ theRows, r.1 = k ∧ r.2.1 = s := by
  rcases lastV_mem h with e | e
  · cases e
  · exact e
theorem sg_pre {k : Int} {s : Str} (h : sg k = some s) (h23 : k ≠ 23) : ((k, s) : Tk) ∈ preL := by
  obtain ⟨r, hr, rfl, rfl⟩ := sg_mem h
  exact List.mem_append_left _ (List.mem_map.mpr ⟨r, List.mem_filter.mpr ⟨hr, by simpa using h23⟩, rfl⟩)
theorem weak_dot {x : Tk} (h : x.1 = 1) : weak 23 2 1 (ndD 0 [tkD x]) = false := by
  obtain ⟨i, s⟩ := x
  dsimp only at h
  subst h
  unfold weak
  rw [ownO_nd, kidsO_nd]
  unfold weakD leastF forceF
  rw [show fo 0 = none from by decide, show fo 23 = some 11 from by decide]
  rfl
theorem PR.good {n : Nat} {t : PyData} {ts : List Tk} (h : PR n t ts) : Good ts := by
  induction h with
  | atom h => exact Good.one h.good.1 h.good.2.1 h.good.2.2
  | @un n o s a ta ho hs ha ih =>
    have hp : ((o, s) : Tk) ∈ preL := sg_pre hs (by omega)
    have G := Good.wrap (weak o 1 0 a) ih
    refine G.pre ?_ (pre_tok hp) (G.start hp)
    rcases ho with rfl | rfl | rfl
    · have e : sg 14 = some (Str.ofString "+") := by decide
      rw [e] at hs; cases hs; exact .inr (by decide)
    · have e : sg 15 = some (Str.ofString "-") := by decide
      rw [e] at hs; cases hs; exact .inr (by decide)
    · have e : sg 31 = some (Str.ofString "~") := by decide
      rw [e] at hs; cases hs; exact .inr (by decide)
  | @bin n o s l a b ta tb hf h31 hs ha hb hd iha ihb =>
    have Ga := Good.wrap (weak o 2 0 a) iha
    have Gb := Good.wrap (weak o 2 1 b) ihb
    by_cases h23 : o = 23
    · subst h23
      obtain ⟨x, rfl, hx⟩ := hd rfl
      have e : sg 23 = some (Str.ofString ".") := by decide
      rw [e] at hs; cases hs
      refine Ga.cat Gb (.inr (by decide)) fun y r e => .inr (.inr ⟨rfl, ?_⟩)
      rw [weak_dot hx] at e
      have e : tb = y :: r := e
      generalize hq : ndD 0 [tkD x] = q at hb
      cases hb with
      | atom hl =>
        rename_i u _
        injection e with e1 e2
        subst e1
        have : x = u := by
          injection hq with hq
          injection hq with h1 h2
          injection h2 with h2 h3
          injection h2 with h2
          injection h2 with h2 h4
          injection h2 with h2
          injection h2 with h2 h5
          injection h5 with h5 h6
          injection h5 with h5
          injection h2 with h2
          exact Prod.ext h2 h5
        rw [← this] at hl ⊢
        rcases hl with z | z | z
        · exact .inl z
        · exact .inr z
        · rw [z] at hx; exact absurd hx (by decide)
      | un ho =>
        exfalso
        injection hq with hq
        injection hq with h1 h2
        injection h1 with h1
        omega
      | bin => simp at hq
      | grp kts ho =>
        exfalso
        injection hq with hq
        injection hq with h1 h2
        injection h1 with h1
        omega
    · have hp := sg_pre hs h23
      exact Ga.cat Gb (pre_tok hp) (Gb.start hp)
  | @grp n o k1 k2 kts ho hl hk ih =>
    have hk1 : k1 ∈ preL ∧ StartT k1 ∧ k2 ∈ endL ∧ StartT k2 := by
      rcases ho with ⟨_, rfl, rfl⟩ | ⟨_, rfl, rfl⟩
      · exact ⟨by decide, .inr (by decide), by decide, .inr (by decide)⟩
      · exact ⟨by decide, .inr (by decide), by decide, .inr (by decide)⟩
    rw [jn_row comma (kts.map (·.2)) fun q hq => by obtain ⟨p, hm, rfl⟩ := List.mem_map.mp hq; exact (hk p hm).ne]
    cases kts with
    | nil => exact (Good.one hk1.2.2.2 (.inr hk1.2.2.1) (end_tok hk1.2.2.1)).pre hk1.2.1 (pre_tok hk1.1) fun y r e => (by
        injection e with e1 e2
        rw [← e1]; exact .inr (.inl ⟨hk1.1, hk1.2.2.2⟩))
    | cons p r =>
      have G := Good.row (sep := comma) (by decide) p.2 (r.map (·.2)) fun q hq => by
        have : q ∈ (p :: r).map (·.2) := hq
        obtain ⟨p', hm, rfl⟩ := List.mem_map.mp this
        exact ih p' hm
      exact (G.pre hk1.2.1 (pre_tok hk1.1) (G.start hk1.1)).post (.inr hk1.2.2.1) (end_tok hk1.2.2.1)
/-- both texts of a program, cut -/
theorem prog_toks {n : Nat} (kts : List TP) (hk : ∀ p ∈ kts, PR n p.1 p.2) : (∀ t ∈ jn semi [] (kts.map lineT), Tok t) ∧ Adj (jn semi [] (kts.map lineT)) := by
  rw [jn_row semi (kts.map lineT) fun q hq => by
    obtain ⟨p, hp, rfl⟩ := List.mem_map.mp hq
    have h1 : p.2.length ≤ (lineT p).length := (wrT_len _ p.2).1
    have h2 := List.length_pos_iff.mpr (hk p hp).ne
    exact List.length_pos_iff.mp (by omega)]
  cases kts with
  | nil => exact ⟨fun t h => (nomatch h), trivial⟩
  | cons p r =>
    have G := Good.row (sep := semi) (by decide) (lineT p) (r.map lineT) fun q hq => by
      have : q ∈ (p :: r).map lineT := hq
      obtain ⟨p', hm, rfl⟩ := List.mem_map.mp this
      exact Good.wrap _ (hk p' hm).good
    exact ⟨G.tok, G.adj⟩


theorem cs_app (a b : Str) : cs (a ++ b) = cs a ++ cs b := cps_toList_append a b
theorem join_flat : ∀ ts : List Tk, cs (Txt.join (Str.ofString "") (snds ts)) = flat ts := by
  intro ts
  show cs (Builtin.Str.glued _ _) = _
  rw [StrLaws.glued_eq_join]
  induction ts with
  | nil => rfl
  | cons t r ih =>
    cases r with
    | nil => simp [snds, join_one, flat]
    | cons u r =>
      show cs (Str.join _ (t.2 :: u.2 :: snds r)) = _
      rw [join_cons_cons, cs_app, cs_app]
      have : cs (Str.join (Str.ofString "") (u.2 :: snds r)) = flat (u :: r) := ih
      rw [this, show cs (Str.ofString "") = [] from rfl]
      simp [flat]
theorem join_flatS : ∀ ts : List Tk, cs (Txt.join (Str.ofString " ") (snds ts)) = flatS ts := by
  intro ts
  show cs (Builtin.Str.glued _ _) = _
  rw [StrLaws.glued_eq_join]
  induction ts with
  | nil => rfl
  | cons t r ih =>
    cases r with
    | nil => simp [snds, join_one, flatS]
    | cons u r =>
      show cs (Str.join _ (t.2 :: u.2 :: snds r)) = _
      rw [join_cons_cons, cs_app, cs_app]
      have : cs (Str.join (Str.ofString " ") (u.2 :: snds r)) = flatS (u :: r) := ih
      rw [this, show cs (Str.ofString " ") = [32] from rfl]
      simp [flatS]
theorem tok_len {t : Tk} (h : Tok t) : t.2.length ≤ 3 := by
  have e : t.2.length = (cs t.2).length := by simp [Str.length, cs]
  rw [e]
  rcases h with h | h
  · obtain ⟨c, e, _⟩ := nam_first h; rw [e]; simp
  · have k := List.all_eq_true.mp sign_ok t h
    unfold signOk at k
    split at k
    · rename_i c p e
      simp only [Bool.and_eq_true, decide_eq_true_eq] at k
      rw [e]
      have := k.1.2
      simp; omega
    · cases k
theorem sum_len : ∀ {ts : List Tk}, (∀ t ∈ ts, Tok t) → ((snds ts).map (·.length)).sum ≤ 3 * ts.length
  | [], _ => Nat.zero_le _
  | t :: r, h => by
    have h1 := tok_len (h t (.head _))
    have h2 := sum_len fun u hu => h u (.tail _ hu)
    simp only [snds, List.map_cons, List.sum_cons, List.length_cons] at h2 ⊢
    omega
theorem join_len {ts : List Tk} (h : ∀ t ∈ ts, Tok t) (sep : Str) (hs : sep.length ≤ 1) : (Txt.join sep (snds ts)).length ≤ 4 * ts.length := by
  show (Builtin.Str.glued _ _).length ≤ _
  rw [StrLaws.glued_eq_join]
  have h1 := StrLaws.join_length_le sep (snds ts)
  have h2 := sum_len h
  have h3 : (snds ts).length * sep.length ≤ ts.length * 1 := by
    rw [List.length_map]; exact Nat.mul_le_mul_left _ hs
  omega
theorem lay_nd {o : Int} {ks : List PyData} (h : PyData.canLayAll0 ks = true) : (ndD o ks).canLay0 = true ∧ (ndD o ks).depth = PyData.depthAll ks + 2 := by
  constructor
  · show (true && ((PyData.list ks).canLay0 && true)) = true
    rw [show (PyData.list ks).canLay0 = PyData.canLayAll0 ks from rfl, h]; rfl
  · show max 0 (max (PyData.depthAll ks + 1) 0) + 1 = _
    omega
theorem lay_all {n : Nat} : ∀ (kts : List TP), (∀ p ∈ kts, p.1.canLay0 = true ∧ p.1.depth ≤ n) → PyData.canLayAll0 (kts.map (·.1)) = true ∧ PyData.depthAll (kts.map (·.1)) ≤ n
  | [], _ => ⟨rfl, Nat.zero_le _⟩
  | p :: r, h => by
    obtain ⟨a, b⟩ := lay_all r fun q hq => h q (.tail _ hq)
    obtain ⟨c, d⟩ := h p (.head _)
    refine ⟨?_, ?_⟩
    · show (p.1.canLay0 && PyData.canLayAll0 (r.map (·.1))) = true
      rw [a, c]; rfl
    · show max p.1.depth (PyData.depthAll (r.map (·.1))) ≤ n
      omega
theorem strOk_of {x : Str} (h : (cs x).all (fun c => decide (c < 0x110000)) = true) : PyData.strOk x = true := by
  unfold PyData.strOk
  rw [← Array.all_toList]
  exact h
theorem lay_leaf {t : Tk} (h : Leaf t) : (tkD t).canLay0 = true ∧ (tkD t).depth = 1 := by
  refine ⟨?_, rfl⟩
  show (true && (PyData.strOk t.2 && true)) = true
  have e : PyData.strOk t.2 = true := by
    have h1 : ∀ c ∈ let7, c < 0x110000 := by decide
    have h2 : ∀ c ∈ dig7, c < 0x110000 := by decide
    rcases h with ⟨_, c, hc, e⟩ | ⟨_, c, hc, e⟩ | e
    · rw [e]; exact strOk_of (by simpa [cs] using h1 c hc)
    · rw [e]; exact strOk_of (by simpa [cs] using h2 c hc)
    · rw [e]; exact strOk_of (by decide)
  rw [e]; rfl
theorem lay_pr {n : Nat} {t : PyData} {ts : List Tk} (h : PR n t ts) : t.canLay0 = true ∧ t.depth ≤ 2 * n + 3 := by
  induction h with
  | @atom n t h =>
    have := lay_leaf h
    obtain ⟨a, b⟩ := lay_nd (o := 0) (ks := [tkD t]) (by show ((tkD t).canLay0 && true) = true; rw [this.1]; rfl)
    refine ⟨a, ?_⟩
    rw [b]
    show max (tkD t).depth 0 + 2 ≤ _
    rw [this.2]; omega
  | @un n o s a ta _ _ _ ih =>
    obtain ⟨p, q⟩ := lay_nd (o := o) (ks := [a]) (by show (a.canLay0 && true) = true; rw [ih.1]; rfl)
    refine ⟨p, ?_⟩
    rw [q]
    show max a.depth 0 + 2 ≤ _
    omega
  | @bin n o s l a b ta tb _ _ _ _ _ _ iha ihb =>
    obtain ⟨p, q⟩ := lay_nd (o := o) (ks := [a, b]) (by show (a.canLay0 && (b.canLay0 && true)) = true; rw [iha.1, ihb.1]; rfl)
    refine ⟨p, ?_⟩
    rw [q]
    show max a.depth (max b.depth 0) + 2 ≤ _
    omega
  | @grp n o k1 k2 kts _ _ _ ih =>
    obtain ⟨x, y⟩ := lay_all kts ih
    obtain ⟨p, q⟩ := lay_nd (o := o) x
    exact ⟨p, Nat.le_trans (Nat.le_of_eq q) (by omega)⟩
theorem toks_few {kts : List TP} : (jn semi [] (kts.map lineT)).length ≤ wt kts + 3 * kts.length := by
  have h : ∀ kts : List TP, wt (kts.map fun p => (p.1, lineT p)) ≤ wt kts + 2 * kts.length := by
    intro kts
    induction kts with
    | nil => exact Nat.zero_le _
    | cons p r ih =>
      rw [List.map_cons, wt_cons, wt_cons, List.length_cons]
      have : (lineT p).length ≤ p.2.length + 2 := (wrT_len _ p.2).2
      dsimp only
      omega
  have := jn_le semi (kts.map fun p => (p.1, lineT p)) []
  rw [List.map_map, List.length_map] at this
  have e : (kts.map lineT) = kts.map ((fun x : TP => x.2) ∘ fun p => (p.1, lineT p)) := rfl
  rw [e]
  have := h kts
  simp only [List.length_nil] at *
  omega
theorem sg_av : AV.di (fun k => lastAt (fun r : Row => r.1) (fun r => .str r.2.1) theRows k none) = dS sg := by
  congr 1
  funext k
  exact lastV_map .str (fun r => r.2.1) k theRows none
theorem fo_av : AV.di (fun k => lastAt (fun r : Row => r.1) (fun r => .int r.2.2) theRows k none) = dI fo := by
  congr 1
  funext k
  exact lastV_map .int (fun r => r.2.2) k theRows none
theorem o_ned0 {c : Cx} {σ : St} {x : PyData} (hx : x.canLay0 = true) (hd : min x.depth x.depth ≤ 100) (h : PyData.eqv x x = true) : OpP c (compareOp .NotEq) (.d x) (.d x) σ (.d (.bool false)) := by
  have := o_ned (c := c) (σ := σ) hx hx hd
  rw [h] at this
  exact this
set_option maxHeartbeats 1000000 in
theorem con_law (g : Gl) (ns : List Int) (hns : ns.length ≤ 1000) : Con g "law" 31 [.d (.list (ns.map .int))] (.bool true) := by
  refine con_intro ["script"] (List.mem_of_getElem? (i := 14) rfl) (fun pm cd doc vs hv => by obtain ⟨x, rfl⟩ := len1 hv; rfl) rfl (by decide) rfl rfl rfl rfl rfl (by decide) fun A L fa cd => ?_
  refine x_cons (Ex1_Assign rfl rfl (Ev_call0 (List.mem_of_getElem? (i := 3) rfl) rfl rfl (con_table g) (show 1 ≤ 30 by decide) ⟨rfl, ?_⟩))
  refine x_comp (rs := theRows) (j := 1) (g := fun r => .str r.2.1) rfl rfl rfl (fun _ => rfl) (by decide) (by decide) rfl (by decide) rfl (by decide) rfl rfl rfl rfl ?_
  rw [sg_av]
  refine x_comp (rs := theRows) (j := 2) (g := fun r => .int r.2.2) rfl rfl rfl (fun _ => rfl) (by decide) (by decide) rfl (by decide) rfl (by decide) rfl rfl rfl rfl ?_
  rw [fo_av]
  refine x_cons (Ex1_Assign rfl rfl (Ev_callX (R := Grown) (List.mem_of_getElem? (i := 6) rfl) rfl rfl ⟨_, _, rfl⟩ (EvL_cons (p_local rfl rfl rfl _ (EvL_cons (p_local rfl rfl rfl _ (EvL_nil ⟨2, con_grown g ns hns, show 2 ≤ 30 by decide, rfl, fun r hr => ⟨rfl, ?_⟩⟩)))))))
  obtain ⟨kts, hk, hl, hw, rfl⟩ := hr
  have hfew := toks_few (kts := kts)
  have hT := prog_toks kts hk
  have hR := reads_prog kts hk
  have hz : (jn semi [] (kts.map lineT)).length < 1000000 := by omega
  have C := con_prog (g := g) kts (by omega) hk hz
  have hlay : (ndD 13 (kts.map (·.1))).canLay0 = true ∧ (ndD 13 (kts.map (·.1))).depth ≤ 100 := by
    obtain ⟨a, b⟩ := lay_all kts (n := 45) fun p hp => (lay_pr (hk p hp))
    obtain ⟨c, d⟩ := lay_nd (o := 13) a
    exact ⟨c, Nat.le_trans (Nat.le_of_eq d) (by omega)⟩
  generalize jn semi [] (kts.map lineT) = ts at hT hR hz C hfew
  have hts : ts.length < 400 := by omega
  have hself : PyData.eqv (ndD 13 (kts.map (·.1))) (ndD 13 (kts.map (·.1))) = true := PySem.SeqAt.eqv_refl _ hlay.1
  have hd : min (ndD 13 (kts.map (·.1))).depth (ndD 13 (kts.map (·.1))).depth ≤ 100 := Nat.le_trans (Nat.min_le_left _ _) hlay.2
  have L1 : Lexes (cs (Txt.join (Str.ofString "") (snds ts))) ts := by rw [join_flat]; exact lex_flat ts hT.1 hT.2
  have L2 : Lexes (cs (Txt.join (Str.ofString " ") (snds ts))) ts := by rw [join_flatS]; exact lex_flatS ts hT.1
  have z1 := join_len hT.1 (Str.ofString "") (by decide)
  have z2 := join_len hT.1 (Str.ofString " ") (by decide)
  have zs := sum_len hT.1
  have R1 := con_read g fo _ ts _ (by omega) (by omega) L1 hR
  have R2 := con_read g fo _ ts _ (by omega) (by omega) L2 hR
  generalize ndD 13 (kts.map (·.1)) = tree at *
  refine x_set (p_call (pl_cons (p_local rfl rfl rfl) (pl_cons (p_local rfl rfl rfl) (pl_cons (p_local rfl rfl rfl) pl_nil))) C (show 24 ≤ 30 by decide) rfl (List.mem_of_getElem? (i := 10) rfl) rfl rfl ⟨_, _, rfl⟩) rfl rfl rfl ?_
  have hj : ∀ x : Str, x.length ≤ 1 → ((snds ts).map (·.length)).sum + (snds ts).length * x.length ≤ 16777216 := fun x hx => by
    have : (snds ts).length * x.length ≤ ts.length * 1 := by
      rw [List.length_map]; exact Nat.mul_le_mul_left _ hx
    omega
  refine x_ifn (q := false) (t_cmp (p_call (pl_cons (p_join (p_local (a := .d (strsD (snds ts))) rfl rfl rfl) (hj _ (by decide)) rfl rfl rfl) (pl_cons (p_local rfl rfl rfl) pl_nil)) R1 (show 4 ≤ 30 by decide) rfl (List.mem_of_getElem? (i := 13) rfl) rfl rfl ⟨_, _, rfl⟩) (p_local rfl rfl rfl) (o_ned0 hlay.1 hd hself) rfl) (fun h => nomatch h) fun _ => ?_
  refine x_ret (p_cmp (p_call (pl_cons (p_join (p_local (a := .d (strsD (snds ts))) rfl rfl rfl) (hj _ (by decide)) rfl rfl rfl) (pl_cons (p_local rfl rfl rfl) pl_nil)) R2 (show 4 ≤ 30 by decide) rfl (List.mem_of_getElem? (i := 13) rfl) rfl rfl ⟨_, _, rfl⟩) (p_local rfl rfl rfl) (o_eqd hlay.1 hlay.1 hd) rfl) (ret_d (by rw [hself]))

noncomputable abbrev Ent := Str × Nat × Int × Nat
noncomputable def exRaw : List Ent := [(Str.ofString "!", 293, 54, 289), (Str.ofString "!=", 295, 28, 237), (Str.ofString "%", 297, 24, 229), (Str.ofString "%=", 299, 40, 261), (Str.ofString "&", 301, 19, 219), (Str.ofString "&=", 303, 41, 263), (Str.ofString "(", 305, 7, 195), (Str.ofString ")", 307, 8, 197), (Str.ofString "*", 309, 16, 213), (Str.ofString "**", 311, 35, 251), (Str.ofString "**=", 313, 46, 273), (Str.ofString "*=", 315, 38, 257), (Str.ofString "+", 317, 14, 209), (Str.ofString "+=", 319, 36, 253), (Str.ofString ",", 321, 12, 205), (Str.ofString "-", 323, 15, 211), (Str.ofString "-=", 325, 37, 255), (Str.ofString "->", 327, 51, 283), (Str.ofString ".", 329, 23, 227), (Str.ofString "...", 331, 52, 285), (Str.ofString "/", 333, 17, 215), (Str.ofString "//", 335, 47, 275), (Str.ofString "//=", 337, 48, 277), (Str.ofString "/=", 339, 39, 259), (Str.ofString ":", 341, 11, 203), (Str.ofString ":=", 343, 53, 287), (Str.ofString ";", 345, 13, 207), (Str.ofString "<", 347, 20, 221), (Str.ofString "<<", 349, 33, 247), (Str.ofString "<<=", 351, 44, 269), (Str.ofString "<=", 353, 29, 239), (Str.ofString "=", 355, 22, 225), (Str.ofString "==", 357, 27, 235), (Str.ofString ">", 359, 21, 223), (Str.ofString ">=", 361, 30, 241), (Str.ofString ">>", 362, 34, 249), (Str.ofString ">>=", 363, 45, 271), (Str.ofString "@", 364, 49, 279), (Str.ofString "@=", 365, 50, 281), (Str.ofString "[", 366, 9, 199), (Str.ofString "]", 367, 10, 201), (Str.ofString "^", 368, 32, 245), (Str.ofString "^=", 369, 43, 267), (Str.ofString "{", 370, 25, 231), (Str.ofString "|", 371, 18, 217), (Str.ofString "|=", 372, 42, 265), (Str.ofString "}", 373, 26, 233), (Str.ofString "~", 374, 31, 243)]
noncomputable def exEnt (P : Params) (e : Ent) : DictEntry := ⟨PyData.keyHash P e.1, .str e.1 e.2.1, .int e.2.2.1 e.2.2.2⟩
theorem exRaw_ok : exRaw.map (fun e => (e.1, e.2.2.1)) = exacts := by kernel_rfl
noncomputable abbrev fr (P : Params) (x : Str) (k : Nat) (v : Value) : DictEntry := ⟨PyData.keyHash P x, .str x k, v⟩
/-- the part of the heap that is looked at: the names of the top, the table of marks -/
noncomputable def frag (P : Params) : Frag := [(3, ⟨.type "dict", none, .dict #[fr P "__name__" 165 (.str (Str.ofString "law_sn0120_01") 411),
    fr P "__doc__" 166 (.none),
    fr P "__package__" 167 (.none),
    fr P "__loader__" 168 (.builtin "__main__.__loader__#opaque"),
    fr P "__spec__" 169 (.none),
    fr P "__annotations__" 170 (.ref 6),
    fr P "__builtins__" 171 (.ref 4),
    fr P "__file__" 173 (.str (Str.ofString "/claim/cut.py") 172),
    fr P "__cached__" 174 (.none),
    fr P "ENDMARKER" 190 (.int 0 189),
    fr P "NAME" 192 (.int 1 191),
    fr P "NUMBER" 194 (.int 2 193),
    fr P "LPAR" 196 (.int 7 195),
    fr P "RPAR" 198 (.int 8 197),
    fr P "LSQB" 200 (.int 9 199),
    fr P "RSQB" 202 (.int 10 201),
    fr P "COLON" 204 (.int 11 203),
    fr P "COMMA" 206 (.int 12 205),
    fr P "SEMI" 208 (.int 13 207),
    fr P "PLUS" 210 (.int 14 209),
    fr P "MINUS" 212 (.int 15 211),
    fr P "STAR" 214 (.int 16 213),
    fr P "SLASH" 216 (.int 17 215),
    fr P "VBAR" 218 (.int 18 217),
    fr P "AMPER" 220 (.int 19 219),
    fr P "LESS" 222 (.int 20 221),
    fr P "GREATER" 224 (.int 21 223),
    fr P "EQUAL" 226 (.int 22 225),
    fr P "DOT" 228 (.int 23 227),
    fr P "PERCENT" 230 (.int 24 229),
    fr P "LBRACE" 232 (.int 25 231),
    fr P "RBRACE" 234 (.int 26 233),
    fr P "EQEQUAL" 236 (.int 27 235),
    fr P "NOTEQUAL" 238 (.int 28 237),
    fr P "LESSEQUAL" 240 (.int 29 239),
    fr P "GREATEREQUAL" 242 (.int 30 241),
    fr P "TILDE" 244 (.int 31 243),
    fr P "CIRCUMFLEX" 246 (.int 32 245),
    fr P "LEFTSHIFT" 248 (.int 33 247),
    fr P "RIGHTSHIFT" 250 (.int 34 249),
    fr P "DOUBLESTAR" 252 (.int 35 251),
    fr P "PLUSEQUAL" 254 (.int 36 253),
    fr P "MINEQUAL" 256 (.int 37 255),
    fr P "STAREQUAL" 258 (.int 38 257),
    fr P "SLASHEQUAL" 260 (.int 39 259),
    fr P "PERCENTEQUAL" 262 (.int 40 261),
    fr P "AMPEREQUAL" 264 (.int 41 263),
    fr P "VBAREQUAL" 266 (.int 42 265),
    fr P "CIRCUMFLEXEQUAL" 268 (.int 43 267),
    fr P "LEFTSHIFTEQUAL" 270 (.int 44 269),
    fr P "RIGHTSHIFTEQUAL" 272 (.int 45 271),
    fr P "DOUBLESTAREQUAL" 274 (.int 46 273),
    fr P "DOUBLESLASH" 276 (.int 47 275),
    fr P "DOUBLESLASHEQUAL" 278 (.int 48 277),
    fr P "AT" 280 (.int 49 279),
    fr P "ATEQUAL" 282 (.int 50 281),
    fr P "RARROW" 284 (.int 51 283),
    fr P "ELLIPSIS" 286 (.int 52 285),
    fr P "COLONEQUAL" 288 (.int 53 287),
    fr P "EXCLAMATION" 290 (.int 54 289),
    fr P "NT_OFFSET" 292 (.int 256 291),
    fr P "EXACT_TOKEN_TYPES" 389 (.ref 15),
    fr P "ISTERMINAL" 396 (.ref 24),
    fr P "ISNONTERMINAL" 403 (.ref 31),
    fr P "ISEOF" 410 (.ref 38),
    fr P "_law_table" 418 (.ref 45),
    fr P "_law_leaf" 425 (.ref 52),
    fr P "_law_atom" 432 (.ref 59),
    fr P "_law_grown" 452 (.ref 66),
    fr P "_law_force" 461 (.ref 73),
    fr P "_law_least" 472 (.ref 80),
    fr P "_law_joined" 482 (.ref 87),
    fr P "_law_pieces" 499 (.ref 94),
    fr P "_law_marks" 510 (.ref 101),
    fr P "_law_folds" 521 (.ref 108),
    fr P "_law_read" 540 (.ref 115),
    fr P "law" 546 (.ref 120)] 77, #[]⟩),
  (15, ⟨.type "dict", none, .dict (exRaw.map (exEnt P)).toArray 48, #[]⟩)]
theorem exQ_ok (P : Params) (P' : Part) (k : Str) : ∀ l : List Ent, OptRep P' (findBy Value.isStrOf ((l.map (exEnt P)).toArray) k) (((l.map fun e => (e.1, e.2.2.1)).lookup k).map .int)
  | [] => by simp [findBy, OptRep]
  | e :: r => by
    have ih := exQ_ok P P' k r
    unfold findBy at ih ⊢
    rw [List.find?_toArray] at ih ⊢
    rw [List.map_cons, List.find?_cons, List.map_cons, List.lookup_cons]
    show OptRep P' (Option.map _ (match (e.1 == k) with | true => _ | false => _)) _
    cases h : e.1 == k with
    | true =>
      rw [show (k == e.1) = true by rw [eq_of_beq h]; exact BEq.rfl]
      exact Rep.int _ _
    | false =>
      have : (k == e.1) = false := by
        rw [beq_eq_false_iff_ne] at h ⊢
        exact fun q => h q.symm
      rw [this]
      exact ih
theorem keysLit (P : Params) : ∀ l : List Ent, KeysLit P (l.map (exEnt P))
  | [] => trivial
  | e :: r => ⟨⟨e.1, e.2.1, rfl, rfl⟩, keysLit P r⟩
noncomputable def constOk (P : Params) (d : Str × Int) : Bool := match nsIn (frag P) mainGlobals d.1 with
  | some (some (.int i _)) => i == d.2
  | _ => false
theorem consts_ok (P : Params) : (consts.all fun d => constOk P d) = true := by kernel_rfl
theorem gb_of {prog : Program} {w : World} {p : Program} {loose : List Str} {mean : ExcName → Option Value} {mg mb : Str → Option Value} {h : Heap} (T : Top p loose mean mg mb h) (KX : (frag w.params).In h) (hseer : importsNone p = true)
    (hfn : funs = (recsOf p).map fun d => (d.name, d.params, d.body, d.scope)) : GB ⟨prog, w, mg, mb, 15, fun k => findBy Value.isStrOf ((exRaw.map (exEnt w.params)).toArray) k⟩ h where
  gns := T.g
  bns := T.b
  nl := T.nolimit
  sm := let ⟨mm, q, _⟩ := (T.seer hseer).mods; ⟨mm, q⟩
  fns := fun d hd => by
    rw [hfn] at hd
    obtain ⟨e, he, rfl⟩ := List.mem_map.mp hd
    exact T.fn e he
  cs := fun d hd => by
    have c := List.all_eq_true.mp (consts_ok w.params) d hd
    unfold constOk at c
    split at c
    · rename_i i t e
      have := mg_of KX T.g e
      rw [eq_of_beq c] at this
      exact ⟨t, this⟩
    · cases c
  bi := fun x hx => by
    simp only [List.mem_cons, List.not_mem_nil, or_false] at hx
    rcases hx with rfl | rfl | rfl | rfl | rfl
    · exact ⟨mg_none_of KX T.g (by kernel_rfl), T.builtins _ (by decide)⟩
    · exact ⟨mg_none_of KX T.g (by kernel_rfl), T.builtins _ (by decide)⟩
    · exact ⟨mg_none_of KX T.g (by kernel_rfl), T.builtins _ (by decide)⟩
    · exact ⟨mg_none_of KX T.g (by kernel_rfl), T.builtins _ (by decide)⟩
    · exact ⟨mg_none_of KX T.g (by kernel_rfl), T.builtins _ (by decide)⟩
  ex := by
    refine ⟨mg_of KX T.g (by kernel_rfl), (show ((15 : Addr) == sysModules) = false by decide), mapOf_K KX (n := 48) (by kernel_rfl) (keysLit _ _), fun k P => ?_⟩
    have := exQ_ok w.params P k exRaw
    rw [exRaw_ok] at this
    exact this
theorem repl_ints {P : Part} : ∀ {vs : List Value} {ns : List Int}, IntsAre vs ns → RepL P vs (ns.map .int)
  | _, _, .nil => .nil
  | _, _, .cons n t h => .cons (.int n t) (repl_ints h)
theorem law_done {prog : Program} {w : World} {p : Program} {loose : List Str} {mean : ExcName → Option Value} {mg mb : Str → Option Value} {s : Shared} {fa l : Addr} {vs : List Value} {ns : List Int} (T : Top p loose mean mg mb s.heap) (KX : (frag w.params).In s.heap) (hseer : importsNone p = true)
    (hfn : funs = (recsOf p).map fun d => (d.name, d.params, d.body, d.scope)) (hns : ns.length ≤ 1000) (hmg : mg "law" = some (.ref fa)) (hL : s.heap.IsList l vs.toArray) (hI : IntsAre vs ns) :
    wpAny (model prog w) callerA (call (.ref fa) [.ref l]) (fun v s' => v = .bool true ∧ (∀ b o, s.heap.get? b = some o → s'.heap.get? b = some o) ∧ s'.os = s.os ∧ s'.gens = s.gens) NoE s := by
  refine wpAny_mono (con_law ⟨prog, w, mg, mb, 15, fun k => findBy Value.isStrOf ((exRaw.map (exEnt w.params)).toArray) k⟩ ns hns callerA s (fun b => s.heap.get? b) [.ref l] fa rfl (by decide) (by decide) (fun h k => gb_of (T.keeps k) (KX.keeps k) hseer hfn) (fun _ _ e => e) (.cons ?_ .nil) hmg) (fun v s' p => ?_) fun _ _ e => e
  · obtain ⟨o, q1, q2, n, q3⟩ := hL
    exact Rep.list (vs := vs.toArray) q1 q2 q3 (repl_ints hI)
  · obtain ⟨P', e, k, _, _, _, r⟩ := p
    cases r
    unfold Same at e
    exact ⟨rfl, k, by rw [e], by rw [e]⟩

theorem post_ok (ns : List Int) : PySem.Challenge.rw_sn0120_01.row.toRowW.claim.post [ofPy (PyData.list (ns.map .int))] (.bool true) [ofPy (PyData.list (ns.map .int))] = true := by kernel_rfl
noncomputable abbrev pr : Program := PySem.Challenge.pw_sn0120_01
noncomputable def isFn : Stmt → Bool
  | .FunctionDef .. => true
  | _ => false
noncomputable def named : Stmt → Option Str
  | .Assign [.Name x _] _ _ => some x
  | _ => none
/-- the top's defs alone -/
noncomputable def qv : Program := { pr with main := { pr.main with body := pr.main.body.filter isFn } }
noncomputable def lo : List Str := pr.main.body.filterMap named
noncomputable abbrev hk : Hook := kHook frag [3, 15] (fun _ => by kernel_rfl)
noncomputable abbrev rw' : RowW := PySem.Challenge.rw_sn0120_01.row.toRowW
/-- the top's end in a world, as the head wants it -/
noncomputable abbrev Ends (w : World) : Prop := (openEnds treeTable rw'.prog w 2100).map (fun s => (openSeen qv lo (importedModules rw'.prog.main.body) (fun s => xlAt qv [] s && recOk rw'.records s) true s, hk.obs s)) = some (openGood qv lo, hk.val w)
theorem run0 : ∀ w : World, Ends (w.withFollow "special-get-raises" false) := by
  intro w
  delta Ends openEnds topFrom
  try rw [PySem.W.Fast.te14082659384304107361, PySem.W.Fast.te14364793385576792824, PySem.W.Fast.te4187177175401517315] -- the library's own quick forms of topRun, treeTable, openSeen: spare a third of the kernel's time
  kernel_rfl
theorem run1 : ∀ w : World, Ends (w.withFollow "special-get-raises" true) := by
  intro w
  delta Ends openEnds topFrom
  try rw [PySem.W.Fast.te14082659384304107361, PySem.W.Fast.te14364793385576792824, PySem.W.Fast.te4187177175401517315] -- the library's own quick forms of topRun, treeTable, openSeen: spare a third of the kernel's time
  kernel_rfl
end Mine
open Mine
set_option maxRecDepth 100000 in
set_option maxHeartbeats 8000000 in
theorem PySem.Challenge.cw_sn0120_01_holds : PySem.Challenge.rw_sn0120_01.Holds := by
  w_on
  o_law
  refine holds_open (q := qv) (loose := lo) (Xt := fun s => xlAt qv [] s && recOk rw'.records s) (XP := XL qv []) (Yf := hk.obs) (Ya := hk.val) (YP := hk.says) (N := 2100) (byRow2 "special-get-raises" run0 run1) hk.of hk.keeps (fun s e => xl_of s (Bool.and_eq_true_iff.mp e).1) XL.keeps (by rfl) (by rfl) (by rfl) (fun s e => recFacts_of (Bool.and_eq_true_iff.mp e).2) (by rfl) (by first | assumption | decide +kernel) (by decide +kernel) ⟨rfl, rfl, rfl, rfl, rfl, by decide +kernel⟩ ?hw ?_
  (case hw => w_witness2)
  intro w s₀ s₁ mg mb G Y fa o pm cd doc dV kV ho hd hcd hD hmg hg args vals as hpre hlay hrd hwl hlo
  have KX := kIn_of Y
  have X := (Ground.X G).1
  have V := (Ground.X G).2
  refine Ground.open G ?_
  intro T B D TE TW
  clear X V B D TE TW G Y ho hd hcd hD
  wrow_args hpre hlay hrd hwl hlo
  rename_i ns hs hlay0 hL1 hr1 hl2 w4 w3 l vs w0 hL ra w1 r0 hI hr hc hc2
  refine wpAny_mono (law_done (l := l) (vs := vs) (ns := ns) T KX (by kernel_rfl) (by kernel_rfl) (by omega) hmg hL hI) (fun v s' q => ?_) (fun _ _ e => e.elim)
  obtain ⟨e, k, o, g⟩ := q
  subst e
  exact GoodW.toG ⟨.inl ⟨.bool true, .bool true, [], rfl, fun _ => rfl, .bool true, post_ok ns, fun _ => ⟨List.nodup_nil, fun _ h => nomatch h⟩⟩, k, o, g.trans hg⟩
