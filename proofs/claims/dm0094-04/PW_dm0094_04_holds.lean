import PyProof.Rows.All
import Wide.All
import OpenK.AllK
import Wide.FinOn
import PySem.Challenge.RW_dm0094_04

set_option Elab.async false
set_option maxRecDepth 100000
set_option linter.unusedVariables false


section
namespace Mine
open PySem PySem.Calls PyProof.Rows PySem.W

/-- plain data of the fragment -/
inductive D where
  | none
  | bool (b : Bool)
  | int (i : Int)
  | str (x : PySem.Str)
  | tuple (ds : List D)
  | list (ds : List D)
  | rng (a b : Int)
  | dict (es : List (PySem.Str × PySem.Str))

/-- frozen heap facts -/
abbrev Fz := Addr → Obj → Prop

inductive EntriesAre (P : Params) : List DictEntry → List (PySem.Str × PySem.Str) → Prop
  | nil : EntriesAre P [] []
  | cons {k v : PySem.Str} {t u : Tok} {es : List DictEntry} {ks : List (PySem.Str × PySem.Str)} : EntriesAre P es ks → EntriesAre P (⟨PyData.keyHash P k, .str k t, .str v u⟩ :: es) ((k, v) :: ks)

mutual
inductive Rep (P : Params) (G : Fz) : Value → D → Prop
  | none : Rep P G Value.none D.none
  | bool (b : Bool) : Rep P G (Value.bool b) (D.bool b)
  | int (i : Int) (t : Tok) : Rep P G (Value.int i t) (D.int i)
  | str (x : PySem.Str) (t : Tok) : Rep P G (Value.str x t) (D.str x)
  | tuple {a : Addr} {vs : List Value} {n : Nat} {ds : List D} : G a { cls := .type "tuple", data := .seq vs.toArray n } → RepAll P G vs ds → Rep P G (Value.ref a) (D.tuple ds)
  | list {a : Addr} {vs : List Value} {n : Nat} {ds : List D} : G a { cls := .type "list", data := .seq vs.toArray n } → RepAll P G vs ds → Rep P G (Value.ref a) (D.list ds)
  | rng {r : Addr} {a b : Int} {t u v : Tok} : G r { cls := .type "range", dict := none, data := .fields #[.int a t, .int b u, .int 1 v], slots := #[] } → Rep P G (Value.ref r) (D.rng a b)
  | dict {a : Addr} {es : List DictEntry} {n : Nat} {ks : List (PySem.Str × PySem.Str)} : G a { cls := .type "dict", data := .dict es.toArray n } → EntriesAre P es ks → (a == sysModules) = false → Rep P G (Value.ref a) (D.dict ks)
inductive RepAll (P : Params) (G : Fz) : List Value → List D → Prop
  | nil : RepAll P G [] []
  | cons {v : Value} {vs : List Value} {d : D} {ds : List D} : Rep P G v d → RepAll P G vs ds → RepAll P G (v :: vs) (d :: ds)
end

mutual
theorem Rep.mono {P : Params} {G G' : Fz} (hs : ∀ a o, G a o → G' a o) : ∀ {v : Value} {d : D}, Rep P G v d → Rep P G' v d
  | _, _, .none => .none
  | _, _, .bool b => .bool b
  | _, _, .int i t => .int i t
  | _, _, .str x t => .str x t
  | _, _, .tuple h r => .tuple (hs _ _ h) (RepAll.mono hs r)
  | _, _, .list h r => .list (hs _ _ h) (RepAll.mono hs r)
  | _, _, .rng h => .rng (hs _ _ h)
  | _, _, .dict h r q => .dict (hs _ _ h) r q
theorem RepAll.mono {P : Params} {G G' : Fz} (hs : ∀ a o, G a o → G' a o) : ∀ {vs : List Value} {ds : List D}, RepAll P G vs ds → RepAll P G' vs ds
  | _, _, .nil => .nil
  | _, _, .cons h r => .cons (Rep.mono hs h) (RepAll.mono hs r)
end

section
variable {P : Params} {G : Fz} {v : Value} {vs ws : List Value} {d : D} {ds es : List D}
theorem RepAll.length (h : RepAll P G vs ds) : vs.length = ds.length := by
  induction vs generalizing ds with
  | nil => cases h; rfl
  | cons v vs ih => cases h with | cons _ r => simp [ih r]
theorem RepAll.append (h : RepAll P G vs ds) (k : RepAll P G ws es) : RepAll P G (vs ++ ws) (ds ++ es) := by
  induction vs generalizing ds with
  | nil => cases h; exact k
  | cons v vs ih => cases h with | cons a r => exact .cons a (ih r)
theorem RepAll.get (h : RepAll P G vs ds) {k : Nat} (hd : ds[k]? = some d) : ∃ v, vs[k]? = some v ∧ Rep P G v d := by
  induction vs generalizing ds k with
  | nil => cases h; simp at hd
  | cons v vs ih =>
    cases h with
    | cons a r =>
      cases k with
      | zero => simp at hd; subst hd; exact ⟨v, rfl, a⟩
      | succ k => simp at hd; obtain ⟨w, e, q⟩ := ih r hd; exact ⟨w, by simpa using e, q⟩
theorem RepAll.of_get (h : RepAll P G vs ds) {k : Nat} (hv : vs[k]? = some v) : ∃ d, ds[k]? = some d ∧ Rep P G v d := by
  induction vs generalizing ds k with
  | nil => simp at hv
  | cons w vs ih =>
    cases h with
    | cons a r =>
      cases k with
      | zero => simp at hv; subst hv; exact ⟨_, rfl, a⟩
      | succ k => simp at hv; obtain ⟨w, e, q⟩ := ih r hv; exact ⟨w, by simpa using e, q⟩
end

/-- all objects kept -/
abbrev Kp (h h' : Heap) : Prop := ∀ b o, h.get? b = some o → h'.get? b = some o
theorem Kp.refl (h : Heap) : Kp h h := fun _ _ e => e
theorem Kp.trans {a b c : Heap} (x : Kp a b) (y : Kp b c) : Kp a c := fun _ _ e => y _ _ (x _ _ e)
theorem Kp.none {a b : Heap} (x : Kp a b) {q : Addr} (e : b.get? q = none) : a.get? q = none := by
  cases h : a.get? q with
  | none => rfl
  | some o => rw [x _ _ h] at e; cases e

abbrev Sub (G : Fz) (h : Heap) : Prop := ∀ a o, G a o → h.get? a = some o
structure Gx (h : Heap) (G G' : Fz) : Prop where
  sub : ∀ a o, G a o → G' a o
  new : ∀ a o, G' a o → G a o ∨ h.get? a = none
theorem Gx.refl (h : Heap) (G : Fz) : Gx h G G := ⟨fun _ _ e => e, fun _ _ e => .inl e⟩
theorem Gx.trans {h h' : Heap} {G G' G'' : Fz} (x : Gx h G G') (k : Kp h h') (y : Gx h' G' G'') : Gx h G G'' :=
  ⟨fun _ _ e => y.sub _ _ (x.sub _ _ e), fun _ _ e => (y.new _ _ e).elim (fun e => x.new _ _ e) fun e => .inr (k.none e)⟩
theorem Gx.mono {h h' : Heap} {G G' : Fz} (x : Gx h' G G') (k : Kp h h') : Gx h G G' := ⟨x.sub, fun a o e => (x.new a o e).imp id fun e => k.none e⟩
/-- one more frozen object -/
def Fz.add (G : Fz) (a : Addr) (o : Obj) : Fz := fun b p => G b p ∨ (b = a ∧ p = o)
theorem Gx.add {h : Heap} {G : Fz} {a : Addr} {o : Obj} (e : h.get? a = none) : Gx h G (G.add a o) :=
  ⟨fun _ _ e => .inl e, fun b p q => by
    rcases q with q | ⟨rfl, rfl⟩
    · exact .inl q
    · exact .inr e⟩
theorem Sub.add {h : Heap} {G : Fz} {a : Addr} {o : Obj} (s : Sub G h) (e : h.get? a = some o) : Sub (G.add a o) h := fun b p q => by
  rcases q with q | ⟨rfl, rfl⟩
  · exact s _ _ q
  · exact e
theorem fresh_none (h : Heap) {a : Addr} (ha : h.objs.size ≤ a) : h.get? a = none := by
  cases e : h.get? a with
  | none => rfl
  | some o => exact absurd (Heap.lt_size e) (Nat.not_lt.mpr ha)
theorem size_none (h : Heap) : h.get? h.objs.size = none := fresh_none h (Nat.le_refl _)
theorem Kp.push (h : Heap) (o : Obj) : Kp h (h.push o) := fun _ _ e => Heap.get?_push_of_some o e

/-- what a name of the frame holds: nothing known, data, or a list that the frame alone holds -/
inductive Sl where
  | no
  | val (d : D)
  | lst (ds : List D)

structure Sig where
  xs : List PySem.Str
  ks : List NameKind
  sc : Scope
  fn : sc.kind = .function
  nodup : xs.Nodup
  kinds : ∀ (k : Nat) x q, xs[k]? = some x → ks[k]? = some q → sc.names.lookup x = some q

/-- the run: program, world, the top's view -/
structure Wd where
  prog : Program
  w : World
  p : Program
  loose : List PySem.Str
  mean : ExcName → Option Value
  mg : PySem.Str → Option Value
  mb : PySem.Str → Option Value
abbrev Wd.P (W : Wd) : Params := W.w.params
abbrev Wd.M (W : Wd) : Model := model W.prog W.w
abbrev Wd.Top (W : Wd) (h : Heap) : Prop := PyProof.Rows.Top W.p W.loose W.mean W.mg W.mb h

/-- room on the stack for n more calls -/
structure Room (A : Around) (n : Nat) : Prop where
  hh : A.handled = none
  depth : A.depth + n ≤ 400
  units : A.units + 8 * n ≤ 2000
theorem Room.le {A : Around} {n m : Nat} (r : Room A n) (h : m ≤ n) : Room A m := ⟨r.hh, by have := r.depth; omega, by have := r.units; omega⟩
theorem Room.line {A : Around} {n : Nat} (r : Room A n) : A.units < cLine := by have := r.units; unfold cLine; omega

/-- a frame at work: its env, its names, what stood at its entry -/
structure FI (W : Wd) (S : Sig) where
  env : Env
  A : Around
  h₀ : Heap
  G₀ : Fz
  own : Bool
  sc : env.scope = S.sc
  hg : env.globals = mainGlobals
  hb : env.builtins = builtinsNs
  top : W.Top h₀
  lv : Nat
  room : Room A lv
  newL : h₀.get? env.locals = none
  newC : own = true → ∀ x c, (x, c) ∈ env.cells → h₀.get? c = none
  apart : env.cells.Pairwise fun x y => x.2 ≠ y.2
  apL : ∀ x c, (x, c) ∈ env.cells → c ≠ env.locals
  cells : ∀ (k : Nat) x, S.xs[k]? = some x → S.ks[k]? = some NameKind.cell → ∃ c, env.cells.lookup x = some c

def SlotOk (P : Params) (G : Fz) (h : Heap) (a : Addr) (v : Option Value) : Sl → Prop
  | .no => True
  | .val d => ∃ u, v = some u ∧ Rep P G u d
  | .lst ds => v = some (.ref a) ∧ (∃ vs n, h.get? a = some { cls := .type "list", data := .seq vs.toArray n } ∧ RepAll P G vs ds) ∧ ∀ o, ¬ G a o

def Sl.isLst : Sl → Prop
  | .lst _ => True
  | _ => False

section
variable {W : Wd} {S : Sig}

structure StM (F : FI W S) (ρ : List Sl) (G : Fz) (h : Heap) (ml m : PySem.Str → Option Value) (own : Nat → Addr) : Prop where
  keep : Kp F.h₀ h
  sub : Sub G h
  ext : Gx F.h₀ F.G₀ G
  ns : h.Ns F.env.locals ml
  loc : ∀ x, F.env.kindOf x = some .local → m x = ml x
  cel : ∀ x c, F.env.kindOf x = some .cell → F.env.cells.lookup x = some c → h.IsCell c (m x)
  cl : ∀ x c, (x, c) ∈ F.env.cells → ∃ o, h.get? c = some o
  nL : ∀ o, ¬ G F.env.locals o
  nC : ∀ x c, (x, c) ∈ F.env.cells → ∀ o, ¬ G c o
  slots : ∀ k x sl, S.xs[k]? = some x → ρ[k]? = some sl → SlotOk W.P G h (own k) (m x) sl
  mApart : ∀ k k' sl sl', k ≠ k' → k < S.xs.length → k' < S.xs.length → ρ[k]? = some sl → ρ[k']? = some sl' → sl.isLst → sl'.isLst → own k ≠ own k'
  mL : ∀ k sl, k < S.xs.length → ρ[k]? = some sl → sl.isLst → own k ≠ F.env.locals ∧ (∀ x c, (x, c) ∈ F.env.cells → own k ≠ c) ∧ F.h₀.get? (own k) = none

def St (F : FI W S) (ρ : List Sl) (G : Fz) (h : Heap) : Prop := ∃ ml m own, StM F ρ G h ml m own

theorem SlotOk.step {P : Params} {G G' : Fz} {h h' : Heap} {a : Addr} {v : Option Value} {sl : Sl} (x : SlotOk P G h a v sl) (k : Kp h h') (g : Gx h G G') : SlotOk P G' h' a v sl := by
  cases sl with
  | no => trivial
  | val d => obtain ⟨u, e, r⟩ := x; exact ⟨u, e, r.mono g.sub⟩
  | lst ds =>
    obtain ⟨e, ⟨vs, n, q, r⟩, ng⟩ := x
    refine ⟨e, ⟨vs, n, k _ _ q, r.mono g.sub⟩, fun o z => ?_⟩
    rcases g.new _ _ z with z | z
    · exact ng _ z
    · rw [q] at z; cases z

theorem StM.step {F : FI W S} {ρ : List Sl} {G G' : Fz} {h h' : Heap} {ml m : PySem.Str → Option Value} {own : Nat → Addr} (x : StM F ρ G h ml m own) (k : Kp h h') (g : Gx h G G') (s : Sub G' h') :
    StM F ρ G' h' ml m own where
  keep := x.keep.trans k
  sub := s
  ext := x.ext.trans x.keep g
  ns := x.ns.keeps k
  loc := x.loc
  cel := fun y c a b => (x.cel y c a b).keeps k
  cl := fun y c a => let ⟨o, e⟩ := x.cl y c a; ⟨o, k _ _ e⟩
  nL := fun o z => by
    rcases g.new _ _ z with z | z
    · exact x.nL _ z
    · obtain ⟨o', _, _, e, _⟩ := x.ns; rw [e] at z; cases z
  nC := fun y c hy o z => by
    rcases g.new _ _ z with z | z
    · exact x.nC y c hy _ z
    · obtain ⟨o', e⟩ := x.cl y c hy; rw [e] at z; cases z
  slots := fun k' y sl a b => (x.slots k' y sl a b).step k g
  mApart := x.mApart
  mL := x.mL
theorem St.step {F : FI W S} {ρ : List Sl} {G G' : Fz} {h h' : Heap} (x : St F ρ G h) (k : Kp h h') (g : Gx h G G') (s : Sub G' h') : St F ρ G' h' :=
  let ⟨ml, m, own, y⟩ := x; ⟨ml, m, own, y.step k g s⟩
theorem St.sub {F : FI W S} {ρ : List Sl} {G : Fz} {h : Heap} (x : St F ρ G h) : Sub G h := let ⟨_, _, _, y⟩ := x; y.sub
theorem St.keep {F : FI W S} {ρ : List Sl} {G : Fz} {h : Heap} (x : St F ρ G h) : Kp F.h₀ h := let ⟨_, _, _, y⟩ := x; y.keep
theorem St.kept {F : FI W S} {ρ : List Sl} {G : Fz} {h h' : Heap} (x : St F ρ G h) (k : Kp h h') : St F ρ G h' := x.step k (Gx.refl _ _) fun a o e => k _ _ (x.sub a o e)

abbrev NoE : Value → Shared → Prop := fun _ _ => False

/-- what an expression's end hands on -/
def Hands (s : Shared) (G : Fz) (P : Params) (d : D) (Q : Value → Shared → Prop) : Prop :=
  ∀ v h' tk G', s.toks ≤ tk → Kp s.heap h' → Gx s.heap G G' → Sub G' h' → Rep P G' v d → Q v { s with heap := h', toks := tk }

/-- the expression e, in the frame F with the slots ρ, evaluates to d -/
structure Ev (F : FI W S) (ρ : List Sl) (e : Expr) (d : D) : Prop where
  go : ∀ (G : Fz) (s : Shared) (Q : Value → Shared → Prop), St F ρ G s.heap → 0 < s.toks → Hands s G W.P d Q → wpAny W.M F.A (eval e F.env) Q NoE s

/-- the test e comes out b -/
structure Te (F : FI W S) (ρ : List Sl) (e : Expr) (b : Bool) : Prop where
  go : ∀ (G : Fz) (s : Shared) (Q : Bool → Shared → Prop), St F ρ G s.heap → 0 < s.toks →
    (∀ h' tk G', s.toks ≤ tk → Kp s.heap h' → Gx s.heap G G' → Sub G' h' → Q b { s with heap := h', toks := tk }) → wpAny W.M F.A (isTrue e F.env (eval e F.env)) Q NoE s

/-- a way out of a statement -/
inductive Out where
  | next (ρ : List Sl)
  | brk (ρ : List Sl)
  | cont (ρ : List Sl)
  | ret (d : D)

def Fin' (F : FI W S) (Post : Out → Prop) (fl : Flow) (G' : Fz) (h' : Heap) : Prop := match fl with
  | .next => ∃ ρ', Post (.next ρ') ∧ St F ρ' G' h'
  | .brk => ∃ ρ', Post (.brk ρ') ∧ St F ρ' G' h'
  | .cont => ∃ ρ', Post (.cont ρ') ∧ St F ρ' G' h'
  | .ret v => ∃ d, Post (.ret d) ∧ Kp F.h₀ h' ∧ Gx F.h₀ F.G₀ G' ∧ Sub G' h' ∧ Rep W.P G' v d

def Ends (F : FI W S) (Post : Out → Prop) (s : Shared) (Q : Flow → Shared → Prop) : Prop :=
  ∀ fl h' tk G', s.toks ≤ tk → Fin' F Post fl G' h' → Q fl { s with heap := h', toks := tk }

structure Ex (F : FI W S) (ρ : List Sl) (ss : List Stmt) (Post : Out → Prop) : Prop where
  go : ∀ (G : Fz) (s : Shared) (Q : Flow → Shared → Prop), St F ρ G s.heap → 0 < s.toks → Ends F Post s Q → wpAny W.M F.A (execs ss F.env) Q NoE s
structure Ex1 (F : FI W S) (ρ : List Sl) (st : Stmt) (Post : Out → Prop) : Prop where
  go : ∀ (G : Fz) (s : Shared) (Q : Flow → Shared → Prop), St F ρ G s.heap → 0 < s.toks → Ends F Post s Q → wpAny W.M F.A (exec st F.env) Q NoE s

/-- the end of an expression at its own state, one more object or none -/
theorem Hands.here {s : Shared} {G : Fz} {P : Params} {d : D} {Q : Value → Shared → Prop} (H : Hands s G P d Q) (hs : Sub G s.heap) {v : Value} {tk : Nat} (ht : s.toks ≤ tk) (r : Rep P G v d) : Q v { s with toks := tk } :=
  H v s.heap tk G ht (Kp.refl _) (Gx.refl _ _) hs r
theorem Hands.after {s : Shared} {G G₁ : Fz} {P : Params} {d : D} {Q : Value → Shared → Prop} (H : Hands s G P d Q) {h₁ : Heap} {tk₁ : Nat} (ht : s.toks ≤ tk₁) (k : Kp s.heap h₁) (g : Gx s.heap G G₁) :
    Hands { s with heap := h₁, toks := tk₁ } G₁ P d Q :=
  fun v h' tk G' ht' k' g' s' r => H v h' tk G' (Nat.le_trans ht ht') (k.trans k') (g.trans k g') s' r
theorem Ends.after {F : FI W S} {Post : Out → Prop} {s : Shared} {Q : Flow → Shared → Prop} (H : Ends F Post s Q) {h₁ : Heap} {tk₁ : Nat} (ht : s.toks ≤ tk₁) : Ends F Post { s with heap := h₁, toks := tk₁ } Q :=
  fun fl h' tk G' ht' f => H fl h' tk G' (Nat.le_trans ht ht') f
theorem wp_mono {α : Type} {M : Model} {A : Around} {t : Sem α} {Q Q' : α → Shared → Prop} {s : Shared} (h : wpAny M A t Q NoE s) (hQ : ∀ a s', Q a s' → Q' a s') : wpAny M A t Q' NoE s :=
  wpAny_mono h hQ fun _ _ x => x
end
end Mine

end

section
namespace Mine
open PySem PySem.Calls PyProof.Rows PySem.W
section
variable {W : Wd} {S : Sig} {F : FI W S} {ρ : List Sl}

theorem FI.kind (F : FI W S) : F.env.scope.kind = .function := by rw [F.sc]; exact S.fn
theorem FI.kindOf (F : FI W S) {k : Nat} {x : PySem.Str} {q : NameKind} (hx : S.xs[k]? = some x) (hk : S.ks[k]? = some q) : F.env.kindOf x = some q := by
  show F.env.scope.names.lookup x = some q
  rw [F.sc]; exact S.kinds k x q hx hk

theorem ev_name {x : PySem.Str} {pos : Pos} {d : D} (k : Nat) (hx : S.xs[k]? = some x) (hk : S.ks[k]? = some .local) (hr : ρ[k]? = some (.val d)) (hd : (x == ("__debug__" : PySem.Str)) = false) :
    Ev F ρ (.Name x pos) d := by
  refine .mk fun G s Q ⟨ml, m, own, X⟩ h0 H => ?_
  obtain ⟨u, e, r⟩ := X.slots k x _ hx hr
  have hk' := F.kindOf hx hk
  exact wpAny_Name (wpAny_loadName_local F.kind hk' X.ns ((X.loc x hk') ▸ e) (H.here X.sub (Nat.le_refl _) r)) hd
theorem ev_cell {x : PySem.Str} {pos : Pos} {d : D} (k : Nat) (hx : S.xs[k]? = some x) (hk : S.ks[k]? = some .cell) (hr : ρ[k]? = some (.val d)) (hd : (x == ("__debug__" : PySem.Str)) = false) :
    Ev F ρ (.Name x pos) d := by
  refine .mk fun G s Q ⟨ml, m, own, X⟩ h0 H => ?_
  obtain ⟨u, e, r⟩ := X.slots k x _ hx hr
  obtain ⟨c, hc⟩ := F.cells k x hx hk
  have hk' := F.kindOf hx hk
  exact wpAny_Name (wpAny_loadName_cell F.kind hk' hc (e ▸ X.cel x c hk' hc) (H.here X.sub (Nat.le_refl _) r)) hd

theorem ev_int {i : Int} {k : Nat} {pos : Pos} : Ev F ρ (.Constant (.int i) k pos) (.int i) :=
  .mk fun _ _ _ X _ H => wpAny_Constant_int (H.here X.sub (Nat.le_succ _) (.int _ _))
theorem ev_str {x : PySem.Str} {k : Nat} {pos : Pos} : Ev F ρ (.Constant (.str x) k pos) (.str x) :=
  .mk fun _ _ _ X _ H => wpAny_Constant_str (H.here X.sub (Nat.le_succ _) (.str _ _))
theorem ev_bool {b : Bool} {k : Nat} {pos : Pos} : Ev F ρ (.Constant (.bool b) k pos) (.bool b) :=
  .mk fun _ _ _ X _ H => wpAny_Constant_bool (H.here X.sub (Nat.le_refl _) (.bool _))

/-- two expressions, one behind the other -/
theorem Ev.then {e₁ : Expr} {d₁ : D} (h₁ : Ev F ρ e₁ d₁) {G : Fz} {s : Shared} {Q : Value → Shared → Prop} (X : St F ρ G s.heap) (h0 : 0 < s.toks)
    (h : ∀ v h' tk G', s.toks ≤ tk → Kp s.heap h' → Gx s.heap G G' → St F ρ G' h' → Rep W.P G' v d₁ → 0 < tk → Q v { s with heap := h', toks := tk }) : wpAny W.M F.A (eval e₁ F.env) Q NoE s :=
  h₁.go G s Q X h0 fun v h' tk G' ht k g s' r => h v h' tk G' ht k g (X.step k g s') r (Nat.lt_of_lt_of_le h0 ht)

/-- an operation of two data: what it hands on -/
def Op2 (W : Wd) (t : Value → Value → Sem Value) (a b r : D) : Prop :=
  ∀ (A : Around) (G : Fz) (s : Shared) (u v : Value) (Q : Value → Shared → Prop), Room A 0 → W.Top s.heap → Sub G s.heap → 0 < s.toks → Rep W.P G u a → Rep W.P G v b → Hands s G W.P r Q → wpAny W.M A (t u v) Q NoE s
def Op1 (W : Wd) (t : Value → Sem Value) (a r : D) : Prop :=
  ∀ (A : Around) (G : Fz) (s : Shared) (u : Value) (Q : Value → Shared → Prop), Room A 0 → W.Top s.heap → Sub G s.heap → 0 < s.toks → Rep W.P G u a → Hands s G W.P r Q → wpAny W.M A (t u) Q NoE s
def Tru (W : Wd) (a : D) (b : Bool) : Prop :=
  ∀ (A : Around) (G : Fz) (s : Shared) (u : Value) (Q : Bool → Shared → Prop), Room A 0 → Sub G s.heap → 0 < s.toks → Rep W.P G u a → (∀ tk, s.toks ≤ tk → Q b { s with toks := tk }) → wpAny W.M A (truthy u) Q NoE s

theorem FI.room0 (F : FI W S) : Room F.A 0 := F.room.le (Nat.zero_le _)
theorem St.topAt {G : Fz} {h : Heap} (X : St F ρ G h) : W.Top h := F.top.keeps X.keep

theorem ev_binop {l r : Expr} {op : Operator} {pos : Pos} {a b d : D} (h₁ : Ev F ρ l a) (h₂ : Ev F ρ r b) (h : Op2 W (binaryOp op) a b d) : Ev F ρ (.BinOp l op r pos) d := by
  refine .mk fun G s Q X h0 H => ?_
  refine wpAny_BinOp (h₁.then X h0 fun v h' tk G' ht k g X' r' h0' => ?_)
  refine h₂.then (s := { s with heap := h', toks := tk }) X' h0' fun v₂ h'' tk₂ G'' ht₂ k₂ g₂ X'' r'' h0'' => ?_
  exact h F.A G'' { s with heap := h'', toks := tk₂ } v v₂ Q F.room0 X''.topAt X''.sub h0'' (r'.mono g₂.sub) r'' ((H.after ht k g).after (s := { s with heap := h', toks := tk }) ht₂ k₂ g₂)
theorem ev_unop {x : Expr} {op : UnaryOp} {pos : Pos} {a d : D} (h₁ : Ev F ρ x a) (h : Op1 W (unaryOp op) a d) : Ev F ρ (.UnaryOp op x pos) d := by
  refine .mk fun G s Q X h0 H => ?_
  refine wpAny_UnaryOp (h₁.then X h0 fun v h' tk G' ht k g X' r' h0' => ?_)
  exact h F.A G' { s with heap := h', toks := tk } v Q F.room0 X'.topAt X'.sub h0' r' (H.after ht k g)
theorem ev_cmp {l r : Expr} {op : CmpOp} {pos : Pos} {a b d : D} (h₁ : Ev F ρ l a) (h₂ : Ev F ρ r b) (h : Op2 W (compareOp op) a b d) (hm : behindInMarks op r = false) : Ev F ρ (.Compare l [op] [r] pos) d := by
  refine .mk fun G s Q X h0 H => ?_
  refine wpAny_Compare1 (h₁.then X h0 fun v h' tk G' ht k g X' r' h0' => ?_) hm
  refine h₂.then (s := { s with heap := h', toks := tk }) X' h0' fun v₂ h'' tk₂ G'' ht₂ k₂ g₂ X'' r'' h0'' => ?_
  exact h F.A G'' { s with heap := h'', toks := tk₂ } v v₂ Q F.room0 X''.topAt X''.sub h0'' (r'.mono g₂.sub) r'' ((H.after ht k g).after (s := { s with heap := h', toks := tk }) ht₂ k₂ g₂)
theorem te_cmp {l r : Expr} {op : CmpOp} {pos : Pos} {a b : D} {c : Bool} (h₁ : Ev F ρ l a) (h₂ : Ev F ρ r b) (h : Op2 W (compareOp op) a b (.bool c)) (hm : behindInMarks op r = false) : Te F ρ (.Compare l [op] [r] pos) c := by
  refine .mk fun G s Q X h0 H => ?_
  refine wpAny_isTrue_Compare1 (h₁.then X h0 fun v h' tk G' ht k g X' r' h0' => ?_) hm
  refine h₂.then (s := { s with heap := h', toks := tk }) X' h0' fun v₂ h'' tk₂ G'' ht₂ k₂ g₂ X'' r'' h0'' => ?_
  refine h F.A G'' { s with heap := h'', toks := tk₂ } v v₂ _ F.room0 X''.topAt X''.sub h0'' (r'.mono g₂.sub) r'' ?_
  intro v₃ h₃ tk₃ G₃ ht₃ k₃ g₃ s₃ r₃
  cases r₃
  exact wpAny_truthy_bool (H h₃ tk₃ G₃ (Nat.le_trans ht (Nat.le_trans ht₂ ht₃)) (k.trans (k₂.trans k₃)) ((g.trans k g₂).trans (k.trans k₂) g₃) s₃)
/-- a test by the value of its expression -/
theorem te_ev {e : Expr} {d : D} {b : Bool} (h : Ev F ρ e d) (ht : Tru W d b) (he : ∀ whole, isTrue e F.env whole = (do let v ← whole; standAt e.pos; holding [v] (truthy v))) : Te F ρ e b := by
  refine .mk fun G s Q X h0 H => ?_
  refine wpAny_isTrue_value (h.then X h0 fun v h' tk G' ht' k g X' r' h0' => ?_) (he _)
  exact ht F.A G' { s with heap := h', toks := tk } v Q F.room0 X'.sub h0' r' fun tk' ht'' => H h' tk' G' (Nat.le_trans ht' ht'') k g X'.sub
theorem te_not {e : Expr} {pos : Pos} {b : Bool} (h : Te F ρ e b) : Te F ρ (.UnaryOp .Not e pos) (!b) :=
  .mk fun G s Q X h0 H => wpAny_isTrue_Not (h.go G s _ X h0 H)
theorem Te.then {e : Expr} {b : Bool} (h₁ : Te F ρ e b) {G : Fz} {s : Shared} {Q : Bool → Shared → Prop} (X : St F ρ G s.heap) (h0 : 0 < s.toks)
    (h : ∀ h' tk G', s.toks ≤ tk → Kp s.heap h' → Gx s.heap G G' → St F ρ G' h' → 0 < tk → Q b { s with heap := h', toks := tk }) : wpAny W.M F.A (isTrue e F.env (eval e F.env)) Q NoE s :=
  h₁.go G s Q X h0 fun h' tk G' ht k g s' => h h' tk G' ht k g (X.step k g s') (Nat.lt_of_lt_of_le h0 ht)

/-- the tests of an and, an or -/
structure All (F : FI W S) (ρ : List Sl) (op : BoolOp) (es : List Expr) (b : Bool) : Prop where
  go : ∀ (G : Fz) (s : Shared) (Q : Bool → Shared → Prop), St F ρ G s.heap → 0 < s.toks →
    (∀ h' tk G', s.toks ≤ tk → Kp s.heap h' → Gx s.heap G G' → Sub G' h' → Q b { s with heap := h', toks := tk }) → wpAny W.M F.A (allTrue op es F.env) Q NoE s
theorem all_and_nil : All F ρ .And [] true := .mk fun G s _ X _ H => wpAny_allTrue_And_nil (H s.heap s.toks G (Nat.le_refl _) (Kp.refl _) (Gx.refl _ _) X.sub)
theorem all_or_nil : All F ρ .Or [] false := .mk fun G s _ X _ H => wpAny_allTrue_Or_nil (H s.heap s.toks G (Nat.le_refl _) (Kp.refl _) (Gx.refl _ _) X.sub)
theorem all_and {e : Expr} {es : List Expr} {b c : Bool} (h₁ : Te F ρ e b) (h₂ : b = true → All F ρ .And es c) : All F ρ .And (e :: es) (b && c) := by
  refine .mk fun G s Q X h0 H => ?_
  refine wpAny_allTrue_And_cons (h₁.then X h0 fun h' tk G' ht k g X' h0' => ?_)
  cases b with
  | false => exact H h' tk G' ht k g X'.sub
  | true => exact (h₂ rfl).go G' { s with heap := h', toks := tk } Q X' h0' fun h'' tk₂ G'' ht₂ k₂ g₂ s₂ => H h'' tk₂ G'' (Nat.le_trans ht ht₂) (k.trans k₂) (g.trans k g₂) s₂
theorem all_or {e : Expr} {es : List Expr} {b c : Bool} (h₁ : Te F ρ e b) (h₂ : b = false → All F ρ .Or es c) : All F ρ .Or (e :: es) (b || c) := by
  refine .mk fun G s Q X h0 H => ?_
  refine wpAny_allTrue_Or_cons (h₁.then X h0 fun h' tk G' ht k g X' h0' => ?_)
  cases b with
  | true => exact H h' tk G' ht k g X'.sub
  | false => exact (h₂ rfl).go G' { s with heap := h', toks := tk } Q X' h0' fun h'' tk₂ G'' ht₂ k₂ g₂ s₂ => H h'' tk₂ G'' (Nat.le_trans ht ht₂) (k.trans k₂) (g.trans k g₂) s₂
theorem te_bool {op : BoolOp} {es : List Expr} {pos : Pos} {b : Bool} (h : All F ρ op es b) : Te F ρ (.BoolOp op es pos) b :=
  .mk fun G s Q X h0 H => wpAny_isTrue_BoolOp (h.go G s Q X h0 H)

theorem ev_ite {t b o : Expr} {pos : Pos} {c : Bool} {d₁ d₂ : D} (ht : Te F ρ t c) (h₁ : c = true → Ev F ρ b d₁) (h₂ : c = false → Ev F ρ o d₂) : Ev F ρ (.IfExp t b o pos) (if c then d₁ else d₂) := by
  refine .mk fun G s Q X h0 H => ?_
  refine wpAny_IfExp (ht.then X h0 fun h' tk G' ht' k g X' h0' => ?_)
  cases c with
  | true => exact (h₁ rfl).go G' { s with heap := h', toks := tk } Q X' h0' (H.after ht' k g)
  | false => exact (h₂ rfl).go G' { s with heap := h', toks := tk } Q X' h0' (H.after ht' k g)
/-- «x and y» of two bools, as a value -/
theorem ev_and {x y : Expr} {pos : Pos} {b c : Bool} (h₁ : Ev F ρ x (.bool b)) (h₂ : b = true → Ev F ρ y (.bool c)) : Ev F ρ (.BoolOp .And [x, y] pos) (.bool (b && c)) := by
  refine .mk fun G s Q X h0 H => ?_
  refine wpAny_And2 (h₁.then X h0 fun v h' tk G' ht k g X' r' h0' => ?_)
  cases r'
  refine wpAny_truthy_bool ?_
  cases b with
  | false => exact H _ h' tk G' ht k g X'.sub (.bool _)
  | true => exact (h₂ rfl).go G' { s with heap := h', toks := tk } Q X' h0' (H.after ht k g)

theorem tru_bool {b : Bool} : Tru W (.bool b) b := fun _ _ _ _ _ _ _ _ r H => by cases r; exact wpAny_truthy_bool (H _ (Nat.le_refl _))
end

section
variable {W : Wd}
theorem add_ii {a b : Int} : Op2 W (binaryOp .Add) (.int a) (.int b) (.int (a + b)) := fun _ _ _ _ _ _ _ _ hs _ r r' H => by
  cases r; cases r'; exact PyProof.Rows.add_int (H.here hs (Nat.le_succ _) (.int _ _))
theorem sub_ii {a b : Int} : Op2 W (binaryOp .Sub) (.int a) (.int b) (.int (a - b)) := fun _ _ _ _ _ _ _ _ hs _ r r' H => by
  cases r; cases r'; exact PyProof.Rows.sub_int (H.here hs (Nat.le_succ _) (.int _ _))
theorem eq_ii {a b : Int} : Op2 W (compareOp .Eq) (.int a) (.int b) (.bool (a == b)) := fun _ _ _ _ _ _ _ _ hs _ r r' H => by
  cases r; cases r'; exact PyProof.Rows.eq_int (H.here hs (Nat.le_refl _) (.bool _))
theorem ne_ii {a b : Int} : Op2 W (compareOp .NotEq) (.int a) (.int b) (.bool (a != b)) := fun _ _ _ _ _ _ _ _ hs _ r r' H => by
  cases r; cases r'; exact PyProof.Rows.ne_int (H.here hs (Nat.le_refl _) (.bool _))
theorem lt_ii {a b : Int} : Op2 W (compareOp .Lt) (.int a) (.int b) (.bool (decide (a < b))) := fun _ _ _ _ _ _ _ _ hs _ r r' H => by
  cases r; cases r'; exact PyProof.Rows.lt_int (H.here hs (Nat.le_refl _) (.bool _))
theorem gt_ii {a b : Int} : Op2 W (compareOp .Gt) (.int a) (.int b) (.bool (decide (b < a))) := fun _ _ _ _ _ _ _ _ hs _ r r' H => by
  cases r; cases r'; exact PyProof.Rows.gt_int (H.here hs (Nat.le_refl _) (.bool _))
theorem ge_ii {a b : Int} : Op2 W (compareOp .GtE) (.int a) (.int b) (.bool (decide (b ≤ a))) := fun _ _ _ _ _ _ _ _ hs _ r r' H => by
  cases r; cases r'; exact PyProof.Rows.ge_int (H.here hs (Nat.le_refl _) (.bool _))
theorem le_ii {a b : Int} : Op2 W (compareOp .LtE) (.int a) (.int b) (.bool (decide (a ≤ b))) := fun _ _ _ _ _ _ _ _ hs _ r r' H => by
  cases r; cases r'; exact PyProof.Rows.le_int (H.here hs (Nat.le_refl _) (.bool _))
theorem neg_i {a : Int} : Op1 W (unaryOp .USub) (.int a) (.int (-a)) := fun _ _ _ _ _ _ _ hs _ r H => by
  cases r; exact PyProof.Rows.neg_int (H.here hs (Nat.le_succ _) (.int _ _))
theorem eq_ss {a b : PySem.Str} : Op2 W (compareOp .Eq) (.str a) (.str b) (.bool (a == b)) := fun _ _ _ _ _ _ _ _ hs _ r r' H => by
  cases r; cases r'; exact PyProof.Rows.eq_str (H.here hs (Nat.le_refl _) (.bool _))
theorem ne_ss {a b : PySem.Str} : Op2 W (compareOp .NotEq) (.str a) (.str b) (.bool (a != b)) := fun _ _ _ _ _ _ _ _ hs _ r r' H => by
  cases r; cases r'; exact PyProof.Rows.ne_str (H.here hs (Nat.le_refl _) (.bool _))
theorem in_ss {a b : PySem.Str} : Op2 W (compareOp .In) (.str a) (.str b) (.bool !(Builtin.Str.occurrences b a 0 b.length 1).isEmpty) := fun _ _ _ _ _ _ _ _ hs _ r r' H => by
  cases r; cases r'; exact PyProof.Rows.in_str (H.here hs (Nat.le_refl _) (.bool _))
theorem add_ss {a b : PySem.Str} (hb : a.length + b.length ≤ 16777216) : Op2 W (binaryOp .Add) (.str a) (.str b) (.str (a ++ b)) := fun _ _ s _ _ _ _ _ hs _ r r' H => by
  cases r; cases r'
  exact wpAny_with_toks (n := s.toks) (Nat.le_refl _) (PyProof.Rows.add_str (fun t' tk ht => H.here hs ht (.str _ _)) (by unfold sizeLine; exact hb))
end
end Mine

end

section
namespace Mine
open PySem PySem.Calls PyProof.Rows PySem.W
section
variable {W : Wd} {S : Sig} {F : FI W S} {ρ : List Sl}

def HandsL (s : Shared) (G : Fz) (P : Params) (ds : List D) (Q : List Value → Shared → Prop) : Prop :=
  ∀ vs h' tk G', s.toks ≤ tk → Kp s.heap h' → Gx s.heap G G' → Sub G' h' → RepAll P G' vs ds → Q vs { s with heap := h', toks := tk }

/-- arguments, items of a display -/
structure Evs (F : FI W S) (ρ : List Sl) (es : List Expr) (ds : List D) : Prop where
  go : ∀ (pos : Pos) (G : Fz) (s : Shared) (Q : List Value → Shared → Prop), St F ρ G s.heap → 0 < s.toks → HandsL s G W.P ds Q → wpAny W.M F.A (spliced (backTo pos (starEach es F.env))) Q NoE s
theorem evs_nil : Evs F ρ [] [] := .mk fun _ G s _ X _ H => wpAny_items_nil (H [] s.heap s.toks G (Nat.le_refl _) (Kp.refl _) (Gx.refl _ _) X.sub .nil)
theorem evs_cons {e : Expr} {es : List Expr} {d : D} {ds : List D} (h : Ev F ρ e d) (hs : Evs F ρ es ds) (he : ∀ env, starEach (e :: es) env = (false, eval e env) :: starEach es env) : Evs F ρ (e :: es) (d :: ds) := by
  refine .mk fun pos G s Q X h0 H => ?_
  refine wpAny_items_cons (h.then X h0 fun v h' tk G' ht k g X' r h0' => ?_) (he _)
  refine hs.go pos G' { s with heap := h', toks := tk } _ X' h0' fun vs h'' tk₂ G'' ht₂ k₂ g₂ s₂ r₂ => ?_
  exact H (v :: vs) h'' tk₂ G'' (Nat.le_trans ht ht₂) (k.trans k₂) (g.trans k g₂) s₂ (.cons (r.mono g₂.sub) r₂)

/-- an expression that gives a list of its own -/
structure EvF (F : FI W S) (ρ : List Sl) (e : Expr) (ds : List D) : Prop where
  go : ∀ (G : Fz) (s : Shared) (Q : Value → Shared → Prop), St F ρ G s.heap → 0 < s.toks →
    (∀ a vs n h' tk G', s.toks ≤ tk → Kp s.heap h' → Gx s.heap G G' → Sub G' h' → h'.get? a = some { cls := .type "list", data := .seq vs.toArray n } → s.heap.get? a = none → (∀ o, ¬ G' a o) → RepAll W.P G' vs ds →
      Q (.ref a) { s with heap := h', toks := tk }) → wpAny W.M F.A (eval e F.env) Q NoE s
theorem EvF.ev {e : Expr} {ds : List D} (h : EvF F ρ e ds) : Ev F ρ e (.list ds) := .mk fun G s Q X h0 H =>
  h.go G s Q X h0 fun a vs n h' tk G' ht k g sb hl ha hn r => H (.ref a) h' tk (G'.add a _) ht k (g.trans (Kp.refl _) (Gx.add ha)) (sb.add hl) (.list (.inr ⟨rfl, rfl⟩) (r.mono fun _ _ e => .inl e))

theorem evf_list {es : List Expr} {pos : Pos} {ds : List D} (h : Evs F ρ es ds) (hz : ds.length ≤ 16777216) : EvF F ρ (.List es pos) ds := by
  refine .mk fun G s Q X h0 H => ?_
  refine wpAny_List (h.go pos G s _ X h0 fun vs h' tk G' ht k g sb r => ⟨by rw [r.length]; exact hz, ?_⟩)
  exact H h'.objs.size vs 0 (h'.push { cls := .type "list", data := .seq vs.toArray }) tk G' ht (k.trans (Kp.push _ _)) g (fun a o e => Heap.get?_push_of_some _ (sb a o e)) (Heap.get?_push_size _ rfl) (k.none (size_none _))
    (fun o z => by have := sb _ _ z; rw [size_none] at this; cases this) r
theorem ev_list {es : List Expr} {pos : Pos} {ds : List D} (h : Evs F ρ es ds) (hz : ds.length ≤ 16777216) : Ev F ρ (.List es pos) (.list ds) := (evf_list h hz).ev
theorem ev_tuple {es : List Expr} {n : Nat} {pos : Pos} {ds : List D} (h : Evs F ρ es ds) (hz : ds.length ≤ 16777216) : Ev F ρ (.Tuple es n pos) (.tuple ds) := by
  refine .mk fun G s Q X h0 H => ?_
  refine wpAny_Tuple (h.go pos G s _ X h0 fun vs h' tk G' ht k g sb r => ⟨by rw [r.length]; exact hz, ?_⟩)
  have q : (h'.push { cls := .type "tuple", data := .seq vs.toArray }).get? h'.objs.size = some { cls := .type "tuple", data := .seq vs.toArray } := Heap.get?_push_size _ rfl
  have sb' : Sub G' (h'.push { cls := .type "tuple", data := .seq vs.toArray }) := fun a o e => Heap.get?_push_of_some _ (sb a o e)
  exact H (.ref h'.objs.size) _ tk (G'.add h'.objs.size _) ht (k.trans (Kp.push _ _)) (g.trans (Kp.refl _) (Gx.add (k.none (size_none _)))) (sb'.add q)
    (.tuple (.inr ⟨rfl, rfl⟩) (r.mono fun _ _ e => .inl e))

/-- a callable upon data: what it hands on -/
def Cal (W : Wd) (n : Nat) (f : Value) (ds : List D) (r : D) : Prop :=
  ∀ (A : Around) (G : Fz) (s : Shared) (vs : List Value) (Q : Value → Shared → Prop), Room A n → W.Top s.heap → Sub G s.heap → 0 < s.toks → RepAll W.P G vs ds → Hands s G W.P r Q → wpAny W.M A (call f vs) Q NoE s

inductive TyIs : String → D → Prop
  | str {x : PySem.Str} : TyIs "str" (.str x)
  | dict {ks : List (PySem.Str × PySem.Str)} : TyIs "dict" (.dict ks)
theorem TyIs.at {P : Params} {T : String} {d : D} (h : TyIs T d) {G : Fz} {s : Shared} {v : Value} (hs : Sub G s.heap) (r : Rep P G v d) : s.TypeIs v T ∧ ∀ a, v = .ref a → ∃ ob, s.heap.get? a = some ob ∧ ob.dict = none := by
  cases h with
  | str => cases r; exact ⟨typeIs_str _ _ _, fun _ e => nomatch e⟩
  | dict => cases r with | dict g e => exact ⟨⟨_, hs _ _ g, rfl⟩, fun a e => by cases e; exact ⟨_, hs _ _ g, rfl⟩⟩

theorem evalArgs_nil' {M : Model} {A : Around} {E : Value → Shared → Prop} {s : Shared} {f : Value} {Q : Args → Shared → Prop} (h : wpAny M A (spliced []) (fun vs s' => Q ⟨vs, []⟩ s') E s) : wpAny M A (evalArgs f true [] []) Q E s := by
  unfold evalArgs
  show wpAny M A (spliced [] >>= _) Q E s
  refine wpAny_bind (wpAny_mono h (fun vs s' h' => wpAny_bind (wpAny_pure ?_)) fun _ _ x => x)
  refine wpAny_holding ?_
  exact wpAny_bind (wpAny_pure (wpAny_bind (wpAny_pure (wpAny_pure h'))))
theorem evalArgs_of {f : Value} {es : List Expr} {ds : List D} (h : Evs F ρ es ds) {pos : Pos} {G : Fz} {s : Shared} {Q : Args → Shared → Prop} (X : St F ρ G s.heap) (h0 : 0 < s.toks)
    (hst : ∀ env, (starEach es env).any (·.1) = false)
    (H : ∀ vs h' tk G', s.toks ≤ tk → Kp s.heap h' → Gx s.heap G G' → St F ρ G' h' → RepAll W.P G' vs ds → 0 < tk → Q ⟨vs, []⟩ { s with heap := h', toks := tk }) :
    wpAny W.M F.A (evalArgs f true (backTo pos (starEach es F.env)) []) Q NoE s := by
  have key := h.go pos G s (fun vs s' => Q ⟨vs, []⟩ s') X h0 fun vs h' tk G' ht k g sb r => H vs h' tk G' ht k g (X.step k g sb) r (Nat.lt_of_lt_of_le h0 ht)
  have e := hst F.env
  cases hq : starEach es F.env with
  | nil =>
    rw [hq] at key
    exact evalArgs_nil' key
  | cons x l =>
    obtain ⟨b, t⟩ := x
    rw [hq] at e key
    simp only [List.any_cons, Bool.or_eq_false_iff] at e
    obtain ⟨rfl, _⟩ := e
    exact evalArgs_plain key
theorem back_any {pos : Pos} {l : List (Bool × Sem Value)} (h : l.any (·.1) = false) : (backTo pos l).any (·.1) = false := by
  unfold backTo
  rw [List.any_map]
  exact h
/-- a callee that keeps its arguments as the machine does -/
theorem callWith_mach {f : Value} {first : List Value} {es : List Expr} {ds : List D} {pos : Pos} (h : Evs F ρ es ds) (hk : ∀ h, ∃ k, (k = Keeper.frame ∨ k = Keeper.machine ∨ k = Keeper.boundFrame) ∧ Looks W.M h (keeperOf f) k)
    {G : Fz} {s : Shared} {Q : Value → Shared → Prop} (X : St F ρ G s.heap) (h0 : 0 < s.toks) (hst : ∀ env, (starEach es env).any (·.1) = false)
    (H : ∀ vs h' tk G', s.toks ≤ tk → Kp s.heap h' → Gx s.heap G G' → St F ρ G' h' → RepAll W.P G' vs ds → 0 < tk → wpAny W.M F.A (call f (first ++ vs)) Q NoE { s with heap := h', toks := tk }) :
    wpAny W.M F.A (callWith pos f first (backTo pos (starEach es F.env)) []) Q NoE s := by
  refine callWith_of (P := fun _ => True) (by rw [back_any (hst _)]; rfl) (fun h _ => hk h) (evalArgs_of h X h0 hst fun vs h' tk G' ht k g X' r h0' => ⟨trivial, H vs h' tk G' ht k g X' r h0'⟩)

theorem ev_meth {o : Expr} {name : PySem.Str} {args : List Expr} {apos pos : Pos} {d₀ r : D} {ds : List D} {T id : String} (h₀ : Ev F ρ o d₀) (hargs : Evs F ρ args ds) (ty : TyIs T d₀) (plain : PlainAttrs T) (slot : Slot T name id)
    (hty : typeOf (.builtin id) = pure (.type "method_descriptor")) (hc : Cal W 0 (.builtin id) (d₀ :: ds) r) (hbase : ∀ env, attributeBase o name env (eval o env) = eval o env) (hst : ∀ env, (starEach args env).any (·.1) = false)
    (hline : (apos.endLine == pos.line) = true) (hlen : args.length < 30) : Ev F ρ (.Call (.Attribute o name apos) args [] pos) r := by
  refine .mk fun G s Q X h0 H => ?_
  have hall : (backTo pos (starEach args F.env)).all (fun x => !x.1) = true := by
    have := back_any (pos := pos) (hst F.env)
    rw [List.all_eq_not_any_not]
    simpa using this
  refine wpAny_Call_method_lateS (hbase _) (by rw [hall]; simpa [backToKw, keywordEach] using hlen) hline ?_
  refine h₀.then X h0 fun v h' tk G' ht k g X' r₀ h0' => ?_
  obtain ⟨hT, hd⟩ := ty.at (s := { s with heap := h', toks := tk }) X'.sub r₀
  refine ⟨T, id, plain, slot, hty, hT, hd, ?_⟩
  refine callWith_mach (s := { s with heap := h', toks := tk }) hargs (fun _ => ⟨.machine, .inr (.inl rfl), Looks.of_pure rfl⟩) X' h0' hst fun vs h'' tk₂ G'' ht₂ k₂ g₂ X'' r₂ h0'' => ?_
  exact hc F.A G'' { s with heap := h'', toks := tk₂ } (v :: vs) Q F.room0 X''.topAt X''.sub h0'' (.cons (r₀.mono g₂.sub) r₂) ((H.after ht k g).after (s := { s with heap := h', toks := tk }) ht₂ k₂ g₂)

/-- a name of the builtins -/
theorem ld_boot {x : PySem.Str} {pos : Pos} {v : Value} {G : Fz} {s : Shared} {Q : Value → Shared → Prop} (X : St F ρ G s.heap) (hb : bootBuiltins x = some v) (hn : x ≠ "__name__") (hg : W.mg x = none) (hx : S.sc.names.lookup x = some .globalImplicit)
    (hd : (x == ("__debug__" : PySem.Str)) = false) (h : Q v s) : wpAny W.M F.A (eval (.Name x pos) F.env) Q NoE s := by
  have T := X.topAt
  refine Calls.Name_function_global F.kind (by show F.env.scope.names.lookup x = _; rw [F.sc]; exact hx) (Calls.loadGlobal_builtin (env := F.env) (by rw [F.hg]; exact T.g) hg (by rw [F.hb]; exact T.b) ((T.builtins x hn).trans hb) h) hd
theorem ev_bcall {f : PySem.Str} {args : List Expr} {p₁ pos : Pos} {v : Value} {ds : List D} {r : D} (hargs : Evs F ρ args ds) (hb : bootBuiltins f = some v) (hg : W.mg f = none)
    (hk : ∀ h, ∃ k, (k = Keeper.frame ∨ k = Keeper.machine ∨ k = Keeper.boundFrame) ∧ Looks W.M h (keeperOf v) k) (hc : Cal W 0 v ds r)
    (hn : f ≠ "__name__") (hx : S.sc.names.lookup f = some .globalImplicit) (hd : (f == ("__debug__" : PySem.Str)) = false) (hst : ∀ env, (starEach args env).any (·.1) = false) : Ev F ρ (.Call (.Name f p₁) args [] pos) r := by
  refine .mk fun G s Q X h0 H => ?_
  show wpAny W.M F.A (do callWith pos (← eval (.Name f p₁) F.env) [] (backTo pos (starEach args F.env)) (backToKw pos (keywordEach [] F.env))) Q NoE s
  refine wpAny_bind (ld_boot X hb hn hg hx hd ?_)
  refine callWith_mach hargs hk X h0 hst fun vs h' tk G' ht k g X' r' h0' => ?_
  exact hc F.A G' { s with heap := h', toks := tk } vs Q F.room0 X'.topAt X'.sub h0' r' (H.after ht k g)
theorem keeps_builtin {id : String} (h : Heap) : ∃ k, (k = Keeper.frame ∨ k = Keeper.machine ∨ k = Keeper.boundFrame) ∧ Looks W.M h (keeperOf (.builtin id)) k := ⟨.machine, .inr (.inl rfl), Looks.of_pure rfl⟩
theorem keeps_type {T : String} (h : Heap) : ∃ k, (k = Keeper.frame ∨ k = Keeper.machine ∨ k = Keeper.boundFrame) ∧ Looks W.M h (keeperOf (.type T)) k := ⟨.machine, .inr (.inl rfl), Looks.of_pure rfl⟩
end
end Mine

end

section
namespace Mine
open PySem PySem.Calls PyProof.Rows PySem.W
section
variable {W : Wd} {S : Sig} {F : FI W S} {ρ : List Sl}

theorem xs_inj {k j : Nat} {x : PySem.Str} (hk : S.xs[k]? = some x) (hj : S.xs[j]? = some x) : k = j := by
  obtain ⟨a, ea⟩ := List.getElem?_eq_some_iff.mp hk
  obtain ⟨b, eb⟩ := List.getElem?_eq_some_iff.mp hj
  exact (List.getElem_inj S.nodup).mp (ea.trans eb.symm)
theorem set_get {l : List Sl} {k j : Nat} {s t : Sl} (h : (l.set k s)[j]? = some t) : (j = k ∧ t = s) ∨ (j ≠ k ∧ l[j]? = some t) := by
  by_cases e : j = k
  · subst e
    rw [List.getElem?_set] at h
    simp only [if_true] at h
    split at h
    · exact .inl ⟨rfl, (Option.some.inj h).symm⟩
    · cases h
  · rw [List.getElem?_set] at h
    rw [if_neg (Ne.symm e)] at h
    exact .inr ⟨e, h⟩

/-- what a value that is stored brings -/
structure Brings (F : FI W S) (ρ : List Sl) (G : Fz) (h : Heap) (own : Nat → Addr) (v : Value) (k : Nat) (a : Addr) (sl : Sl) : Prop where
  ok : SlotOk W.P G h a (some v) sl
  new : sl.isLst → a ≠ F.env.locals ∧ (∀ x c, (x, c) ∈ F.env.cells → a ≠ c) ∧ F.h₀.get? a = none ∧ ∀ j t, j ≠ k → j < S.xs.length → ρ[j]? = some t → t.isLst → own j ≠ a

theorem slot_same {P : Params} {G : Fz} {h h' : Heap} {b a : Addr} {v : Option Value} {sl : Sl} (x : SlotOk P G h a v sl) (hs : Heap.SameBut b h h') (hb : sl.isLst → a ≠ b) : SlotOk P G h' a v sl := by
  cases sl with
  | no => trivial
  | val d => exact x
  | lst ds => obtain ⟨e, ⟨vs, n, q, r⟩, ng⟩ := x; exact ⟨e, ⟨vs, n, (hs.2 a (hb trivial)).trans q, r⟩, ng⟩

theorem StM.storeL {G : Fz} {h h' : Heap} {ml m : PySem.Str → Option Value} {own : Nat → Addr} {v : Value} {k : Nat} {x : PySem.Str} {a : Addr} {sl : Sl} (X : StM F ρ G h ml m own) (hx : S.xs[k]? = some x) (hk : S.ks[k]? = some .local)
    (B : Brings F ρ G h own v k a sl) (hn : h'.Ns F.env.locals (fun y => if y = x then some v else ml y)) (hs : Heap.SameBut F.env.locals h h') :
    StM F (ρ.set k sl) G h' (fun y => if y = x then some v else ml y) (fun y => if y = x then some v else m y) (fun j => if j = k then a else own j) where
  keep := fun b o e => (hs.2 b (fun q => by rw [q, F.newL] at e; cases e)).trans (X.keep b o e)
  sub := fun b o e => (hs.2 b (fun q => X.nL o (q ▸ e))).trans (X.sub b o e)
  ext := X.ext
  ns := hn
  loc := fun y hy => by
    by_cases e : y = x
    · simp [e]
    · simp [e, X.loc y hy]
  cel := fun y c hy hc => by
    have hne : y ≠ x := fun e => by rw [e, F.kindOf hx hk] at hy; cases hy
    simp only [if_neg hne]
    exact (X.cel y c hy hc).sameBut hs (F.apL y c (mem_of_lookup hc))
  cl := fun y c hy => let ⟨o, e⟩ := X.cl y c hy; ⟨o, (hs.2 c (F.apL y c hy)).trans e⟩
  nL := X.nL
  nC := X.nC
  slots := fun j y t hy ht => by
    rcases set_get ht with ⟨rfl, rfl⟩ | ⟨hj, ht⟩
    · have e : y = x := Option.some.inj (hy.symm.trans hx)
      simp only [if_pos e, if_true]
      exact slot_same B.ok hs fun q => (B.new q).1
    · have hne : y ≠ x := fun e => hj (xs_inj (e ▸ hy) hx)
      simp only [if_neg hne, if_neg hj]
      exact slot_same (X.slots j y t hy ht) hs fun q => (X.mL j t (List.getElem?_eq_some_iff.mp hy).1 ht q).1
  mApart := fun j j' t t' hne hl hl' ht ht' q q' => by
    rcases set_get ht with ⟨e1, e2⟩ | ⟨hj, hz⟩ <;> rcases set_get ht' with ⟨e3, e4⟩ | ⟨hj', hz'⟩
    · exact absurd (e1.trans e3.symm) hne
    · subst e2; simp only [if_pos e1, if_neg hj']; exact Ne.symm ((B.new q).2.2.2 j' t' hj' hl' hz' q')
    · subst e4; simp only [if_pos e3, if_neg hj]; exact (B.new q').2.2.2 j t hj hl hz q
    · simp only [if_neg hj, if_neg hj']; exact X.mApart j j' t t' hne hl hl' hz hz' q q'
  mL := fun j t hl ht q => by
    rcases set_get ht with ⟨rfl, rfl⟩ | ⟨hj, ht⟩
    · simp only [if_true]; exact ⟨(B.new q).1, (B.new q).2.1, (B.new q).2.2.1⟩
    · simp only [if_neg hj]; exact X.mL j t hl ht q

theorem StM.storeC {G : Fz} {h h' : Heap} {ml m : PySem.Str → Option Value} {own : Nat → Addr} {v : Value} {k : Nat} {x : PySem.Str} {a c₀ : Addr} {sl : Sl} (X : StM F ρ G h ml m own) (hx : S.xs[k]? = some x) (hk : S.ks[k]? = some .cell) (ho : F.own = true)
    (hc₀ : F.env.cells.lookup x = some c₀) (B : Brings F ρ G h own v k a sl) (hn : h'.IsCell c₀ (some v)) (hs : Heap.SameBut c₀ h h') :
    StM F (ρ.set k sl) G h' ml (fun y => if y = x then some v else m y) (fun j => if j = k then a else own j) where
  keep := fun b o e => (hs.2 b (fun q => by rw [q, F.newC ho x c₀ (mem_of_lookup hc₀)] at e; cases e)).trans (X.keep b o e)
  sub := fun b o e => (hs.2 b (fun q => X.nC x c₀ (mem_of_lookup hc₀) o (q ▸ e))).trans (X.sub b o e)
  ext := X.ext
  ns := X.ns.sameBut hs (Ne.symm (F.apL x c₀ (mem_of_lookup hc₀)))
  loc := fun y hy => by
    have hne : y ≠ x := fun e => by rw [e, F.kindOf hx hk] at hy; cases hy
    simp only [if_neg hne]; exact X.loc y hy
  cel := fun y c hy hc => by
    by_cases e : y = x
    · subst e
      simp only [if_true]
      rw [hc₀] at hc; cases hc; exact hn
    · simp only [if_neg e]
      refine (X.cel y c hy hc).sameBut hs fun q => e ?_
      exact name_of_addr F.apart (mem_of_lookup hc) (q ▸ mem_of_lookup hc₀)
  cl := fun y c hy => by
    by_cases e : c = c₀
    · subst e; obtain ⟨o, q, _⟩ := hn; exact ⟨o, q⟩
    · obtain ⟨o, q⟩ := X.cl y c hy; exact ⟨o, (hs.2 c e).trans q⟩
  nL := X.nL
  nC := X.nC
  slots := fun j y t hy ht => by
    rcases set_get ht with ⟨rfl, rfl⟩ | ⟨hj, ht⟩
    · have e : y = x := Option.some.inj (hy.symm.trans hx)
      simp only [if_pos e, if_true]
      exact slot_same B.ok hs fun q => (B.new q).2.1 x c₀ (mem_of_lookup hc₀)
    · have hne : y ≠ x := fun e => hj (xs_inj (e ▸ hy) hx)
      simp only [if_neg hne, if_neg hj]
      exact slot_same (X.slots j y t hy ht) hs fun q => (X.mL j t (List.getElem?_eq_some_iff.mp hy).1 ht q).2.1 x c₀ (mem_of_lookup hc₀)
  mApart := fun j j' t t' hne hl hl' ht ht' q q' => by
    rcases set_get ht with ⟨e1, e2⟩ | ⟨hj, hz⟩ <;> rcases set_get ht' with ⟨e3, e4⟩ | ⟨hj', hz'⟩
    · exact absurd (e1.trans e3.symm) hne
    · subst e2; simp only [if_pos e1, if_neg hj']; exact Ne.symm ((B.new q).2.2.2 j' t' hj' hl' hz' q')
    · subst e4; simp only [if_pos e3, if_neg hj]; exact (B.new q').2.2.2 j t hj hl hz q
    · simp only [if_neg hj, if_neg hj']; exact X.mApart j j' t t' hne hl hl' hz hz' q q'
  mL := fun j t hl ht q => by
    rcases set_get ht with ⟨rfl, rfl⟩ | ⟨hj, ht⟩
    · simp only [if_true]; exact ⟨(B.new q).1, (B.new q).2.1, (B.new q).2.2.1⟩
    · simp only [if_neg hj]; exact X.mL j t hl ht q

/-- where a name of the frame may be stored -/
def May (F : FI W S) (k : Nat) : Prop := S.ks[k]? = some .local ∨ (S.ks[k]? = some .cell ∧ F.own = true)

theorem store_sl {G : Fz} {s : Shared} {v : Value} {k : Nat} {x : PySem.Str} {a : Addr} {sl : Sl} {ml m : PySem.Str → Option Value} {own : Nat → Addr} {Q : Unit → Shared → Prop} (X : StM F ρ G s.heap ml m own) (hx : S.xs[k]? = some x) (hk : May F k) (B : Brings F ρ G s.heap own v k a sl)
    (h : ∀ h' tk, s.toks ≤ tk → St F (ρ.set k sl) G h' → Q () { s with heap := h', toks := tk }) : wpAny W.M F.A (storeName F.env x v) Q NoE s := by
  rcases hk with hk | ⟨hk, ho⟩
  · refine wpAny_storeName_local (F.kindOf hx hk) X.ns (fun h' hn hs => h h' _ (Nat.le_succ _) ⟨_, _, _, X.storeL hx hk B hn hs⟩) ?_
    rw [F.kind]; rfl
  · obtain ⟨c, hc⟩ := F.cells k x hx hk
    exact wpAny_storeName_cell F.kind (F.kindOf hx hk) hc (X.cel x c (F.kindOf hx hk) hc) fun h' hn hs => h h' s.toks (Nat.le_refl _) ⟨_, _, _, X.storeC hx hk ho hc B hn hs⟩
theorem store_val {G : Fz} {s : Shared} {v : Value} {k : Nat} {x : PySem.Str} {d : D} {Q : Unit → Shared → Prop} (X : St F ρ G s.heap) (hx : S.xs[k]? = some x) (hk : May F k) (r : Rep W.P G v d)
    (h : ∀ h' tk, s.toks ≤ tk → St F (ρ.set k (.val d)) G h' → Q () { s with heap := h', toks := tk }) : wpAny W.M F.A (storeName F.env x v) Q NoE s := by
  obtain ⟨ml, m, own, X⟩ := X
  exact store_sl (sl := .val d) (a := 0) X hx hk ⟨⟨v, rfl, r⟩, fun q => q.elim⟩ h
theorem store_lst {G G' : Fz} {h₁ : Heap} {s : Shared} {k : Nat} {x : PySem.Str} {a : Addr} {vs : List Value} {n : Nat} {ds : List D} {Q : Unit → Shared → Prop} (X : St F ρ G h₁) (hx : S.xs[k]? = some x) (hk : May F k)
    (kp : Kp h₁ s.heap) (g : Gx h₁ G G') (sb : Sub G' s.heap) (hl : s.heap.get? a = some { cls := .type "list", data := .seq vs.toArray n }) (ha : h₁.get? a = none) (hn : ∀ o, ¬ G' a o) (r : RepAll W.P G' vs ds)
    (h : ∀ h' tk, s.toks ≤ tk → St F (ρ.set k (.lst ds)) G' h' → Q () { s with heap := h', toks := tk }) : wpAny W.M F.A (storeName F.env x (.ref a)) Q NoE s := by
  obtain ⟨ml, m, own, X⟩ := X
  refine store_sl (sl := .lst ds) (a := a) (X.step kp g sb) hx hk ⟨⟨rfl, ⟨vs, n, hl, r⟩, hn⟩, fun _ => ⟨?_, ?_, ?_, ?_⟩⟩ h
  · rintro rfl; obtain ⟨o, _, _, e, _⟩ := X.ns; rw [e] at ha; cases ha
  · rintro y c hy rfl; obtain ⟨o, e⟩ := X.cl y _ hy; rw [e] at ha; cases ha
  · exact X.keep.none ha
  · intro j t _ hj ht q e
    have hy : ∃ y, S.xs[j]? = some y := ⟨_, List.getElem?_eq_getElem hj⟩
    obtain ⟨y, hy⟩ := hy
    have := X.slots j y t hy ht
    cases t with
    | lst ds => obtain ⟨_, ⟨_, _, q, _⟩, _⟩ := this; rw [e, ha] at q; cases q
    | _ => exact q

theorem ex_nil {Post : Out → Prop} (h : Post (.next ρ)) : Ex F ρ [] Post := .mk fun G s Q X h0 H => wpAny_execs_nil (H .next s.heap s.toks G (Nat.le_refl _) ⟨ρ, h, X⟩)
theorem ex_cons {st : Stmt} {rest : List Stmt} {Post : Out → Prop} (h : Ex1 F ρ st (fun o => match o with | .next ρ' => Ex F ρ' rest Post | o => Post o)) : Ex F ρ (st :: rest) Post := by
  refine .mk fun G s Q X h0 H => ?_
  refine wpAny_execs_cons (h.go G s _ X h0 fun fl h' tk G' ht f => ?_)
  cases fl with
  | next => obtain ⟨ρ', e, X'⟩ := f; exact e.go G' { s with heap := h', toks := tk } Q X' (Nat.lt_of_lt_of_le h0 ht) (H.after ht)
  | brk => exact H .brk h' tk G' ht f
  | cont => exact H .cont h' tk G' ht f
  | ret v => exact H (.ret v) h' tk G' ht f
theorem Ex.mono {ss : List Stmt} {Post Post' : Out → Prop} (h : Ex F ρ ss Post) (hp : ∀ o, Post o → Post' o) : Ex F ρ ss Post' := .mk fun G s Q X h0 H =>
  h.go G s Q X h0 fun fl h' tk G' ht f => H fl h' tk G' ht (by
    cases fl with
    | next => exact let ⟨ρ', e, X'⟩ := f; ⟨ρ', hp _ e, X'⟩
    | brk => exact let ⟨ρ', e, X'⟩ := f; ⟨ρ', hp _ e, X'⟩
    | cont => exact let ⟨ρ', e, X'⟩ := f; ⟨ρ', hp _ e, X'⟩
    | ret v => exact let ⟨d, e, r⟩ := f; ⟨d, hp _ e, r⟩)
theorem Ex1.mono {st : Stmt} {Post Post' : Out → Prop} (h : Ex1 F ρ st Post) (hp : ∀ o, Post o → Post' o) : Ex1 F ρ st Post' := .mk fun G s Q X h0 H =>
  h.go G s Q X h0 fun fl h' tk G' ht f => H fl h' tk G' ht (by
    cases fl with
    | next => exact let ⟨ρ', e, X'⟩ := f; ⟨ρ', hp _ e, X'⟩
    | brk => exact let ⟨ρ', e, X'⟩ := f; ⟨ρ', hp _ e, X'⟩
    | cont => exact let ⟨ρ', e, X'⟩ := f; ⟨ρ', hp _ e, X'⟩
    | ret v => exact let ⟨d, e, r⟩ := f; ⟨d, hp _ e, r⟩)
/-- a statement, then the rest -/
theorem ex_seq {st : Stmt} {rest : List Stmt} {ρ' : List Sl} {Post : Out → Prop} (h : Ex1 F ρ st (fun o => o = .next ρ')) (hr : Ex F ρ' rest Post) : Ex F ρ (st :: rest) Post :=
  ex_cons (h.mono fun o e => by subst e; exact hr)
theorem ex_ret {e : Expr} {pos : Pos} {d : D} {Post : Out → Prop} (h : Ev F ρ e d) (hp : Post (.ret d)) : Ex1 F ρ (.Return (some e) pos) Post := .mk fun G s Q X h0 H =>
  wpAny_Return_some (h.then X h0 fun v h' tk G' ht k g X' r _ => H (.ret v) h' tk G' ht ⟨d, hp, X'.keep, (let ⟨_, _, _, y⟩ := X'; y.ext), X'.sub, r⟩)
theorem ex_brk {pos : Pos} {Post : Out → Prop} (hp : Post (.brk ρ)) : Ex1 F ρ (.Break pos) Post := .mk fun G s Q X h0 H => wpAny_Break (H .brk s.heap s.toks G (Nat.le_refl _) ⟨ρ, hp, X⟩)
theorem ex_cont {pos : Pos} {Post : Out → Prop} (hp : Post (.cont ρ)) : Ex1 F ρ (.Continue pos) Post := .mk fun G s Q X h0 H => wpAny_Continue (H .cont s.heap s.toks G (Nat.le_refl _) ⟨ρ, hp, X⟩)
theorem ex_if {t : Expr} {b o : List Stmt} {pos : Pos} {c : Bool} {Post : Out → Prop} (ht : Te F ρ t c) (h₁ : c = true → Ex F ρ b Post) (h₂ : c = false → Ex F ρ o Post) : Ex1 F ρ (.If t b o pos) Post := by
  refine .mk fun G s Q X h0 H => ?_
  refine wpAny_If (ht.then X h0 fun h' tk G' ht' k g X' h0' => ?_)
  cases c with
  | true => exact (h₁ rfl).go G' { s with heap := h', toks := tk } Q X' h0' (H.after ht')
  | false => exact (h₂ rfl).go G' { s with heap := h', toks := tk } Q X' h0' (H.after ht')
theorem ex_assign {x : PySem.Str} {p' pos : Pos} {e : Expr} {d : D} (k : Nat) (h : Ev F ρ e d) (hx : S.xs[k]? = some x) (hk : May F k) (hs : swapsWith e (some (.Name x p')) pos.line F.env = pure false) :
    Ex1 F ρ (.Assign [.Name x p'] e pos) (fun o => o = .next (ρ.set k (.val d))) := .mk fun G s Q X h0 H =>
  wpAny_Assign_Name (h.then X h0 fun v h' tk G' ht kp g X' r h0' => store_val (s := { s with heap := h', toks := tk }) X' hx hk r fun h'' tk₂ ht₂ X'' => H .next h'' tk₂ G' (Nat.le_trans ht ht₂) ⟨_, rfl, X''⟩) hs
theorem ex_assign_lst {x : PySem.Str} {p' pos : Pos} {e : Expr} {ds : List D} (k : Nat) (h : EvF F ρ e ds) (hx : S.xs[k]? = some x) (hk : May F k) (hs : swapsWith e (some (.Name x p')) pos.line F.env = pure false) :
    Ex1 F ρ (.Assign [.Name x p'] e pos) (fun o => o = .next (ρ.set k (.lst ds))) := .mk fun G s Q X h0 H =>
  wpAny_Assign_Name (h.go G s _ X h0 fun a vs n h' tk G' ht kp g sb hl ha hn r => store_lst (s := { s with heap := h', toks := tk }) X hx hk kp g sb hl ha hn r fun h'' tk₂ ht₂ X'' => H .next h'' tk₂ G' (Nat.le_trans ht ht₂) ⟨_, rfl, X''⟩) hs
theorem ex_aug {x : PySem.Str} {p' pos : Pos} {op : Operator} {e : Expr} {a b d : D} (k : Nat) (hr : ρ[k]? = some (.val a)) (h : Ev F ρ e b) (ho : Op2 W (inplaceOp op) a b d) (hx : S.xs[k]? = some x) (hk : May F k) (hd : (x == ("__debug__" : PySem.Str)) = false) :
    Ex1 F ρ (.AugAssign (.Name x p') op e pos) (fun o => o = .next (ρ.set k (.val d))) := by
  refine .mk fun G s Q X h0 H => ?_
  have load : ∀ (Q' : Value → Shared → Prop), (∀ v, Rep W.P G v a → Q' v s) → wpAny W.M F.A (loadName F.env x) Q' NoE s := by
    intro Q' hQ
    obtain ⟨ml, m, own, X⟩ := X
    obtain ⟨u, e', r⟩ := X.slots k x _ hx hr
    rcases hk with hk | ⟨hk, _⟩
    · exact wpAny_loadName_local F.kind (F.kindOf hx hk) X.ns ((X.loc x (F.kindOf hx hk)) ▸ e') (hQ u r)
    · obtain ⟨c, hc⟩ := F.cells k x hx hk
      exact wpAny_loadName_cell F.kind (F.kindOf hx hk) hc (e' ▸ X.cel x c (F.kindOf hx hk) hc) (hQ u r)
  refine wpAny_AugAssign_Name (load _ fun u ru => ?_)
  refine h.then X h0 fun v h' tk G' ht kp g X' r h0' => ?_
  refine ho F.A G' { s with heap := h', toks := tk } u v _ F.room0 X'.topAt X'.sub h0' (ru.mono g.sub) r fun w h'' tk₂ G'' ht₂ k₂ g₂ s₂ rw => ?_
  exact store_val (s := { s with heap := h'', toks := tk₂ }) (X'.step k₂ g₂ s₂) hx hk rw fun h₃ tk₃ ht₃ X₃ => H .next h₃ tk₃ G'' (Nat.le_trans ht (Nat.le_trans ht₂ ht₃)) ⟨_, rfl, X₃⟩

theorem ex_while {t : Expr} {body : List Stmt} {pos : Pos} {Post : Out → Prop} (I : Nat → List Sl → Prop) {n : Nat} (h0 : I n ρ)
    (turn : ∀ n ρ, I n ρ → ∃ b, Te F ρ t b ∧ (b = true → Ex F ρ body (fun o => match o with | .next ρ' | .cont ρ' => ∃ m, m < n ∧ I m ρ' | .brk ρ' => Post (.next ρ') | .ret d => Post (.ret d))) ∧ (b = false → Post (.next ρ))) :
    Ex1 F ρ (.While t body [] pos) Post := by
  refine .mk fun G s Q X ht0 H => ?_
  refine wpAny_While ?_
  refine codeAny_whileLoop (fun n s' => ∃ h' tk G' ρ', s' = { s with heap := h', toks := tk } ∧ s.toks ≤ tk ∧ St F ρ' G' h' ∧ I n ρ') ?_ n ⟨s.heap, s.toks, G, ρ, rfl, Nat.le_refl _, X, h0⟩
  rintro n s' ⟨h', tk, G', ρ', rfl, ht, X', hi⟩
  obtain ⟨b, hte, hb, he⟩ := turn n ρ' hi
  refine wpAny_mono (hte.then (s := { s with heap := h', toks := tk }) X' (Nat.lt_of_lt_of_le ht0 ht) fun h₂ tk₂ G₂ ht₂ k₂ g₂ X₂ h0₂ => ?_) (fun _ _ x => x) fun _ _ x => x.elim
  cases b with
  | false => exact wpAny_execs_nil (H .next h₂ tk₂ G₂ (Nat.le_trans ht ht₂) ⟨ρ', he rfl, X₂⟩)
  | true =>
    refine wpAny_mono ((hb rfl).go G₂ { s with heap := h₂, toks := tk₂ } _ X₂ h0₂ fun fl h₃ tk₃ G₃ ht₃ f => ?_) (fun _ _ x => x) fun _ _ x => x.elim
    cases fl with
    | next => obtain ⟨ρ₃, ⟨m, hm, hi₃⟩, X₃⟩ := f; exact ⟨m, hm, h₃, tk₃, G₃, ρ₃, rfl, Nat.le_trans ht (Nat.le_trans ht₂ ht₃), X₃, hi₃⟩
    | cont => obtain ⟨ρ₃, ⟨m, hm, hi₃⟩, X₃⟩ := f; exact ⟨m, hm, h₃, tk₃, G₃, ρ₃, rfl, Nat.le_trans ht (Nat.le_trans ht₂ ht₃), X₃, hi₃⟩
    | brk => obtain ⟨ρ₃, hp, X₃⟩ := f; exact H .next h₃ tk₃ G₃ (Nat.le_trans ht (Nat.le_trans ht₂ ht₃)) ⟨ρ₃, hp, X₃⟩
    | ret v => obtain ⟨d, hp, r⟩ := f; exact H (.ret v) h₃ tk₃ G₃ (Nat.le_trans ht (Nat.le_trans ht₂ ht₃)) ⟨d, hp, r⟩
end
end Mine

end

section
namespace Mine
open PySem PySem.Calls PyProof.Rows PySem.W

def Sig.check (xs : List PySem.Str) (ks : List NameKind) (sc : Scope) : Bool :=
  sc.kind == .function && decide xs.Nodup && (xs.zip ks).all fun p => sc.names.lookup p.1 == some p.2
def Sig.of (xs : List PySem.Str) (ks : List NameKind) (sc : Scope) (h : Sig.check xs ks sc = true) : Sig where
  xs := xs
  ks := ks
  sc := sc
  fn := by simp only [Sig.check, Bool.and_eq_true, beq_iff_eq] at h; exact h.1.1
  nodup := by simp only [Sig.check, Bool.and_eq_true, decide_eq_true_eq] at h; exact h.1.2
  kinds := fun k x q hx hq => by
    simp only [Sig.check, Bool.and_eq_true] at h
    have := List.all_eq_true.mp h.2 (x, q) (List.mem_of_getElem? (i := k) (by rw [List.getElem?_zip_eq_some]; exact ⟨hx, hq⟩))
    exact beq_iff_eq.mp this

def fnRec (p : Program) (i : Nat) : DefRec := match p.main.body[i]? with
  | some (.FunctionDef name args body _ _ _ scope _ _ pos) => ⟨name, args, body, scope, pos⟩
  | _ => ⟨"", ⟨[], [], none, [], [], none, []⟩, [], { kind := .function, names := [], isGenerator := false, isCoroutine := false }, ⟨0, 0, 0, 0⟩⟩

section
variable {W : Wd}

/-- a def of the text upon data, by its name -/
def Fn (W : Wd) (n : Nat) (f : PySem.Str) (ds : List D) (r : D) : Prop :=
  ∃ a, W.mg f = some (.ref a) ∧ (∀ h, W.Top h → ∃ o fd, h.get? a = some o ∧ o.data = .func fd) ∧ Cal W n (.ref a) ds r

theorem bindL_get {kindOf : PySem.Str → Option NameKind} : ∀ {names : List PySem.Str} {vs : List Value} {m : PySem.Str → Option Value} {k : Nat} {x : PySem.Str} {v : Value}, names.Nodup → names[k]? = some x → vs[k]? = some v → kindOf x = some .local →
    bindL kindOf (names.zip vs) m x = some v := by
  intro names
  induction names with
  | nil => intro vs m k x v _ h; simp at h
  | cons n names ih =>
    intro vs m k x v nd hx hv hk
    cases vs with
    | nil => simp at hv
    | cons u vs =>
      obtain ⟨nd1, nd2⟩ := List.nodup_cons.mp nd
      show bindL kindOf (names.zip vs) _ x = some v
      cases k with
      | succ k => exact ih nd2 (by simpa using hx) (by simpa using hv) hk
      | zero =>
        have e1 : n = x := by simpa using hx
        have e2 : u = v := by simpa using hv
        subst e1 e2
        have key : ∀ (ns : List PySem.Str) (ws : List Value) (m : PySem.Str → Option Value), n ∉ ns → m n = some u → bindL kindOf (ns.zip ws) m n = some u := by
          intro ns
          induction ns with
          | nil => intro ws m _ h; exact h
          | cons y ns ih =>
            intro ws m hy h
            cases ws with
            | nil => exact h
            | cons z ws =>
              show bindL kindOf (ns.zip ws) _ n = some u
              refine ih ws _ (fun q => hy (List.mem_cons_of_mem _ q)) ?_
              split
              · show (if n = y then _ else _) = _
                rw [if_neg (fun q => hy (by rw [q]; exact List.mem_cons_self))]; exact h
              · exact h
        exact key names vs _ nd1 (by rw [if_pos hk]; simp)
theorem bindC_get {kindOf : PySem.Str → Option NameKind} : ∀ {names : List PySem.Str} {vs : List Value} {m : PySem.Str → Option Value} {k : Nat} {x : PySem.Str} {v : Value}, names.Nodup → names[k]? = some x → vs[k]? = some v → kindOf x ≠ some .local →
    bindC kindOf (names.zip vs) m x = some v := by
  intro names
  induction names with
  | nil => intro vs m k x v _ h; simp at h
  | cons n names ih =>
    intro vs m k x v nd hx hv hk
    cases vs with
    | nil => simp at hv
    | cons u vs =>
      obtain ⟨nd1, nd2⟩ := List.nodup_cons.mp nd
      show bindC kindOf (names.zip vs) _ x = some v
      cases k with
      | succ k => exact ih nd2 (by simpa using hx) (by simpa using hv) hk
      | zero =>
        have e1 : n = x := by simpa using hx
        have e2 : u = v := by simpa using hv
        subst e1 e2
        have key : ∀ (ns : List PySem.Str) (ws : List Value) (m : PySem.Str → Option Value), n ∉ ns → m n = some u → bindC kindOf (ns.zip ws) m n = some u := by
          intro ns
          induction ns with
          | nil => intro ws m _ h; exact h
          | cons y ns ih =>
            intro ws m hy h
            cases ws with
            | nil => exact h
            | cons z ws =>
              show bindC kindOf (ns.zip ws) _ n = some u
              refine ih ws _ (fun q => hy (List.mem_cons_of_mem _ q)) ?_
              split
              · exact h
              · show (if n = y then _ else _) = _
                rw [if_neg (fun q => hy (by rw [q]; exact List.mem_cons_self))]; exact h
        exact key names vs _ nd1 (by rw [if_neg hk]; simp)

theorem argSlots {ds : List D} {rest k : Nat} {sl : Sl} (h : (ds.map Sl.val ++ List.replicate rest Sl.no)[k]? = some sl) : sl = .no ∨ ∃ d, ds[k]? = some d ∧ sl = .val d := by
  by_cases hk : k < ds.length
  · rw [List.getElem?_append_left (by simpa using hk)] at h
    rw [List.getElem?_map] at h
    cases e : ds[k]? with
    | none => rw [e] at h; cases h
    | some d => rw [e] at h; exact .inr ⟨d, rfl, (Option.some.inj h).symm⟩
  · rw [List.getElem?_append_right (by simpa using hk)] at h
    exact .inl (List.eq_of_mem_replicate (List.mem_of_getElem? h))

/-- a def by its body's walk: the parameters are the first names of the signature -/
theorem fn_of {d : DefRec} {n : Nat} {ds : List D} {r : D} {rest : Nat} (S : Sig) (hd : d ∈ recsOf W.p) (hsc : d.scope = S.sc) (names : List PySem.Str) (hn : ∀ (k : Nat) x, names[k]? = some x → S.xs[k]? = some x ∧ ∃ q, S.ks[k]? = some q ∧ (q = .local ∨ q = .cell))
    (hl : names.length = ds.length) (nd : names.Nodup)
    (hb : ∀ pm cd doc (vs : List Value), vs.length = names.length → bindArgs (docDef d.name d.params d.body d.scope pm cd doc) ⟨vs, []⟩ = pure (names.zip vs))
    (hnd : ((cellsFrom 0 d.scope.names []).map (·.1)).Nodup) (hco : d.scope.isCoroutine = false) (hgen : d.scope.isGenerator = false)
    (h : ∀ F : FI W S, F.lv = n → F.own = true → Ex F (ds.map Sl.val ++ List.replicate rest Sl.no) d.body (fun o => o = .ret r)) (a₀ : ∃ h, W.Top h) : Fn W (n + 1) d.name ds r := by
  obtain ⟨hT, T₀⟩ := a₀
  obtain ⟨a, o₀, pm₀, code₀, doc₀, hmg, _⟩ := T₀.fn d hd
  refine ⟨a, hmg, fun h' T' => ?_, ?_⟩
  · obtain ⟨a', o', pm, code, doc, e1, e2, e3, _⟩ := T'.fn d hd
    have : a' = a := by rw [hmg] at e1; cases e1; rfl
    subst this
    exact ⟨o', _, e2, e3⟩
  intro A G s vs Q hroom T sb h0 rv H
  obtain ⟨a', o', pm, code, doc, e1, e2, e3, e4⟩ := T.fn d hd
  have ea : a' = a := by rw [hmg] at e1; cases e1; rfl
  subst ea
  have hlen : vs.length = names.length := rv.length.trans hl.symm
  refine wpAny_call (codeAny_call_function (by have := hroom.depth; unfold recursionLimit; omega) e2 e3 hco hgen rfl e4 ?_)
  rw [hb pm code doc vs hlen]
  refine wpAny_pure (wpAny_with_toks (n := s.toks) (Nat.le_refl _) (wpAny_newFunctionEnv_cells (by show d.scope.kind = _; rw [hsc]; exact S.fn) ?_ fun env' he s₁ X ht1 => ?_))
  · intro y hy
    obtain ⟨k, hk⟩ := List.getElem?_of_mem hy
    rw [List.getElem?_zip_eq_some] at hk
    obtain ⟨hx, q, hq, hq'⟩ := hn k y.1 hk.1
    have hkind := S.kinds k y.1 q hx hq
    show d.scope.names.lookup y.1 = _ ∨ (d.scope.names.lookup y.1 = _ ∧ _)
    rcases hq' with rfl | rfl
    · exact .inl (by rw [hsc]; exact hkind)
    · refine .inr ⟨by rw [hsc]; exact hkind, cellsFrom_some _ _ _ (.inl (by rw [hsc]; exact hkind))⟩
  · subst he
    obtain ⟨X1, X2, X3, X4⟩ := X
    obtain ⟨⟨h₁, tk, rfl⟩, hns, hkeep, _⟩ := X1
    have htk : 0 < tk := Nat.lt_of_lt_of_le h0 ht1
    refine ⟨T.nolimit.keeps hkeep, codeAny_func ?_⟩
    let env := callEnvC (docDef d.name d.params d.body d.scope pm code doc) s.heap.objs.size a'
    have hcl : ∀ x c, (x, c) ∈ env.cells → env.cells.lookup x = some c := fun x c hm => by
      refine lookup_of_mem_nodup ?_ hm
      have : env.cells.map (·.1) = (cellsFrom 0 d.scope.names []).map (·.1) := cellsFrom_names _ _ _ _ _ rfl
      rw [this]; exact hnd
    have noneAbove : ∀ b, s.heap.objs.size ≤ b → ∀ o, ¬ G b o := fun b hb o g => by have := sb _ _ g; rw [fresh_none _ hb] at this; cases this
    let F : FI W S := {
      env := env, A := A.deeper env, h₀ := s.heap, G₀ := G, own := true, sc := hsc, hg := rfl, hb := rfl, top := T, lv := n
      room := ⟨hroom.hh, by have := hroom.depth; show A.depth + 1 + n ≤ 400; omega, by have := hroom.units; show A.units + 3 + 8 * n ≤ 2000; omega⟩
      newL := size_none _
      newC := fun _ x c hm => fresh_none _ (Nat.le_of_lt (X4 x c hm))
      apart := X3
      apL := fun x c hm => Nat.ne_of_gt (X4 x c hm)
      cells := fun k x hx hk => Option.isSome_iff_exists.mp (cellsFrom_some _ _ _ (.inl (by show d.scope.names.lookup x = _; rw [hsc]; exact S.kinds k x _ hx hk))) }
    have hst : St F (ds.map Sl.val ++ List.replicate rest Sl.no) G h₁ := by
      refine ⟨bindL env.kindOf (names.zip vs) fun _ => none, fun x => if env.kindOf x = some .local then bindL env.kindOf (names.zip vs) (fun _ => none) x else bindC env.kindOf (names.zip vs) (fun _ => none) x, fun _ => 0, ?_⟩
      refine { keep := hkeep, sub := fun b o e => hkeep _ _ (sb b o e), ext := Gx.refl _ _, ns := hns, loc := fun x hx => if_pos hx, cel := fun x c hx hc => ?_, cl := fun x c hm => ?_, nL := fun o => noneAbove _ (Nat.le_refl _) o,
               nC := fun x c hm o => noneAbove c (Nat.le_of_lt (X4 x c hm)) o, slots := fun k x sl hx hsl => ?_, mApart := fun k k' sl sl' _ _ _ h1 _ q _ => ?_, mL := fun k sl _ h1 q => ?_ }
      · have : env.kindOf x ≠ some .local := by rw [show env.kindOf x = some .cell from hx]; intro e; cases e
        rw [if_neg this]
        exact X2 x c hc
      · obtain ⟨o, e, _⟩ := X2 x c (hcl x c hm); exact ⟨o, e⟩
      · rcases argSlots hsl with rfl | ⟨dd, hdd, rfl⟩
        · trivial
        · obtain ⟨v, hv, rr⟩ := rv.get hdd
          have hkl : k < names.length := by rw [hl]; exact (List.getElem?_eq_some_iff.mp hdd).1
          have hnk : names[k]? = some x := by
            obtain ⟨y, hy⟩ : ∃ y, names[k]? = some y := ⟨_, List.getElem?_eq_getElem hkl⟩
            rw [hy, ← (hn k y hy).1, hx]
          refine ⟨v, ?_, rr⟩
          by_cases hq : env.kindOf x = some .local
          · rw [if_pos hq]; exact bindL_get nd hnk hv hq
          · rw [if_neg hq]; exact bindC_get nd hnk hv hq
      · rcases argSlots h1 with rfl | ⟨_, _, rfl⟩ <;> exact q.elim
      · rcases argSlots h1 with rfl | ⟨_, _, rfl⟩ <;> exact q.elim
    refine wpAny_mono ((h F rfl rfl).go G { s with heap := h₁, toks := tk } _ hst htk fun fl h' tk' G' ht f => ?_) (fun _ _ x => x) fun _ _ x => x.elim
    cases fl with
    | ret v => obtain ⟨d', e, k', g', s', r'⟩ := f; cases e; exact H v h' tk' G' (Nat.le_trans ht1 ht) k' g' s' r'
    | next => obtain ⟨_, e, _⟩ := f; cases e
    | brk => obtain ⟨_, e, _⟩ := f; cases e
    | cont => obtain ⟨_, e, _⟩ := f; cases e
end
end Mine

end

section
namespace Mine
open PySem PySem.Calls PyProof.Rows PySem.W
section
variable {W : Wd} {S : Sig} {F : FI W S} {ρ : List Sl}

theorem ev_call {f : PySem.Str} {args : List Expr} {p₁ pos : Pos} {ds : List D} {r : D} {n : Nat} (hargs : Evs F ρ args ds) (hf : Fn W n f ds r) (hn : n ≤ F.lv) (hx : S.sc.names.lookup f = some .globalImplicit)
    (hd : (f == ("__debug__" : PySem.Str)) = false) (hst : ∀ env, (starEach args env).any (·.1) = false) : Ev F ρ (.Call (.Name f p₁) args [] pos) r := by
  refine .mk fun G s Q X h0 H => ?_
  obtain ⟨a, hmg, hk, hc⟩ := hf
  show wpAny W.M F.A (do callWith pos (← eval (.Name f p₁) F.env) [] (backTo pos (starEach args F.env)) (backToKw pos (keywordEach [] F.env))) Q NoE s
  refine wpAny_bind (Calls.Name_function_global F.kind (by show F.env.scope.names.lookup f = _; rw [F.sc]; exact hx) (Calls.loadGlobal_global (env := F.env) (by rw [F.hg]; exact X.topAt.g) hmg ?_) hd)
  refine callWith_of (P := fun h => W.Top h) (by rw [back_any (hst _)]; rfl) (fun h T => ?_) (evalArgs_of hargs X h0 hst fun vs h' tk G' ht k g X' r h0' => ⟨X'.topAt, ?_⟩)
  · obtain ⟨o, fd, e, q⟩ := hk h T
    refine ⟨.frame, .inl rfl, (Looks.ld (part := none) e).andThen ?_⟩
    rw [q]; exact .now
  · exact hc F.A G' { s with heap := h', toks := tk } vs Q (F.room.le hn) X'.topAt X'.sub h0' r (H.after ht k g)

/-- an own list, frozen: from now on data -/
theorem St.freeze {k : Nat} {ds : List D} {G : Fz} {h : Heap} (X : St F ρ G h) (hk : k < S.xs.length) (hr : ρ[k]? = some (.lst ds)) : ∃ G', Gx F.h₀ F.G₀ G' ∧ (∀ a o, G a o → G' a o) ∧ St F (ρ.set k (.val (.list ds))) G' h := by
  obtain ⟨ml, m, own, X⟩ := X
  obtain ⟨x, hx⟩ : ∃ x, S.xs[k]? = some x := ⟨_, List.getElem?_eq_getElem hk⟩
  obtain ⟨e, ⟨vs, n, q, r⟩, ng⟩ := X.slots k x _ hx hr
  obtain ⟨n1, n2, n3⟩ := X.mL k _ hk hr trivial
  have hg : Gx F.h₀ F.G₀ (G.add (own k) { cls := .type "list", data := .seq vs.toArray n }) := X.ext.trans (Kp.refl _) (Gx.add n3)
  refine ⟨G.add (own k) _, hg, fun _ _ e => .inl e, ml, m, own, ?_⟩
  refine { keep := X.keep, sub := X.sub.add q, ext := hg, ns := X.ns, loc := X.loc, cel := X.cel, cl := X.cl, nL := ?_, nC := ?_, slots := ?_, mApart := ?_, mL := ?_ }
  · rintro o (z | ⟨z, _⟩)
    · exact X.nL o z
    · exact n1 z.symm
  · rintro y c hy o (z | ⟨z, _⟩)
    · exact X.nC y c hy o z
    · exact n2 y c hy z.symm
  · intro j y t hy ht
    rcases set_get ht with ⟨rfl, rfl⟩ | ⟨hj, ht⟩
    · have ey : y = x := Option.some.inj (hy.symm.trans hx)
      exact ⟨.ref (own j), ey ▸ e, .list (.inr ⟨rfl, rfl⟩) (r.mono fun _ _ e => .inl e)⟩
    · have := X.slots j y t hy ht
      cases t with
      | no => trivial
      | val d => obtain ⟨u, e, r⟩ := this; exact ⟨u, e, r.mono fun _ _ e => .inl e⟩
      | lst es =>
        obtain ⟨e', ⟨ws, n', q', r'⟩, ng'⟩ := this
        refine ⟨e', ⟨ws, n', q', r'.mono fun _ _ e => .inl e⟩, ?_⟩
        rintro o (z | ⟨z, _⟩)
        · exact ng' o z
        · exact X.mApart j k _ _ hj (List.getElem?_eq_some_iff.mp hy).1 hk ht hr trivial trivial z
  · intro j j' t t' hne hl hl' ht ht' q q'
    rcases set_get ht with ⟨e1, e2⟩ | ⟨hj, hz⟩
    · subst e2; exact q.elim
    · rcases set_get ht' with ⟨e3, e4⟩ | ⟨hj', hz'⟩
      · subst e4; exact q'.elim
      · exact X.mApart j j' t t' hne hl hl' hz hz' q q'
  · intro j t hl ht q
    rcases set_get ht with ⟨e1, e2⟩ | ⟨hj, hz⟩
    · subst e2; exact q.elim
    · exact X.mL j t hl hz q
theorem ex_freeze {ss : List Stmt} {Post : Out → Prop} {ds : List D} (k : Nat) (hk : k < S.xs.length) (hr : ρ[k]? = some (.lst ds)) (h : Ex F (ρ.set k (.val (.list ds))) ss Post) : Ex F ρ ss Post := .mk fun G s Q X h0 H =>
  let ⟨G', _, _, X'⟩ := X.freeze hk hr
  h.go G' s Q X' h0 H
/-- what is known may be forgotten -/
theorem St.forget {k : Nat} {G : Fz} {h : Heap} (X : St F ρ G h) : St F (ρ.set k .no) G h := by
  obtain ⟨ml, m, own, X⟩ := X
  refine ⟨ml, m, own, { X with slots := ?_, mApart := ?_, mL := ?_ }⟩
  · intro j y t hy ht
    rcases set_get ht with ⟨rfl, rfl⟩ | ⟨hj, ht⟩
    · trivial
    · exact X.slots j y t hy ht
  · intro j j' t t' hne hl hl' ht ht' q q'
    rcases set_get ht with ⟨e1, e2⟩ | ⟨hj, hz⟩
    · subst e2; exact q.elim
    · rcases set_get ht' with ⟨e3, e4⟩ | ⟨hj', hz'⟩
      · subst e4; exact q'.elim
      · exact X.mApart j j' t t' hne hl hl' hz hz' q q'
  · intro j t hl ht q
    rcases set_get ht with ⟨e1, e2⟩ | ⟨hj, hz⟩
    · subst e2; exact q.elim
    · exact X.mL j t hl hz q
theorem ex_forget {ss : List Stmt} {Post : Out → Prop} (k : Nat) (h : Ex F (ρ.set k .no) ss Post) : Ex F ρ ss Post := .mk fun G s Q X h0 H => h.go G s Q X.forget h0 H

/-- a list is returned -/
theorem ex_ret_lst {x : PySem.Str} {p' pos : Pos} {ds : List D} {Post : Out → Prop} (k : Nat) (hx : S.xs[k]? = some x) (hk : S.ks[k]? = some .local ∨ S.ks[k]? = some .cell) (hr : ρ[k]? = some (.lst ds)) (hd : (x == ("__debug__" : PySem.Str)) = false) (hp : Post (.ret (.list ds))) :
    Ex1 F ρ (.Return (some (.Name x p')) pos) Post := .mk fun G s Q X h0 H => by
  have hlt := (List.getElem?_eq_some_iff.mp hx).1
  have hlt' := (List.getElem?_eq_some_iff.mp hr).1
  obtain ⟨G', _, _, X'⟩ := X.freeze hlt hr
  have hs : (ρ.set k (.val (.list ds)))[k]? = some (.val (.list ds)) := by rw [List.getElem?_set]; simp [hlt']
  rcases hk with hk | hk
  · exact (ex_ret (ev_name k hx hk hs hd) hp).go G' s Q X' h0 H
  · exact (ex_ret (ev_cell k hx hk hs hd) hp).go G' s Q X' h0 H

/-- the list of a slot has grown in place -/
theorem StM.grow {G : Fz} {h h' : Heap} {ml m : PySem.Str → Option Value} {own : Nat → Addr} {k : Nat} {ds es : List D} {vs : List Value} {n : Nat} (X : StM F ρ G h ml m own) (hk : k < S.xs.length) (hr : ρ[k]? = some (.lst ds)) (hs : Heap.SameBut (own k) h h')
    (hl : h'.get? (own k) = some { cls := .type "list", data := .seq vs.toArray n }) (r : RepAll W.P G vs es) : StM F (ρ.set k (.lst es)) G h' ml m own := by
  obtain ⟨x, hx⟩ : ∃ x, S.xs[k]? = some x := ⟨_, List.getElem?_eq_getElem hk⟩
  obtain ⟨e, ⟨_, _, q₀, _⟩, ng⟩ := X.slots k x _ hx hr
  obtain ⟨n1, n2, n3⟩ := X.mL k _ hk hr trivial
  refine { keep := fun b o e => (hs.2 b (fun z => by rw [z, n3] at e; cases e)).trans (X.keep b o e), sub := fun b o e => (hs.2 b (fun z => ng o (z ▸ e))).trans (X.sub b o e), ext := X.ext, ns := X.ns.sameBut hs (Ne.symm n1), loc := X.loc,
           cel := fun y c hy hc => (X.cel y c hy hc).sameBut hs (Ne.symm (n2 y c (mem_of_lookup hc))), cl := fun y c hy => let ⟨o, e⟩ := X.cl y c hy; ⟨o, (hs.2 c (Ne.symm (n2 y c hy))).trans e⟩, nL := X.nL, nC := X.nC, slots := ?_, mApart := ?_, mL := ?_ }
  · intro j y t hy ht
    rcases set_get ht with ⟨rfl, rfl⟩ | ⟨hj, ht⟩
    · have ey : y = x := Option.some.inj (hy.symm.trans hx)
      exact ⟨ey ▸ e, ⟨vs, n, hl, r⟩, ng⟩
    · refine slot_same (X.slots j y t hy ht) hs fun q => ?_
      exact X.mApart j k _ _ hj (List.getElem?_eq_some_iff.mp hy).1 hk ht hr q trivial
  · intro j j' t t' hne hl hl' ht ht' q q'
    have a : ∃ t₀, ρ[j]? = some t₀ ∧ t₀.isLst := by
      rcases set_get ht with ⟨rfl, e2⟩ | ⟨hj, hz⟩
      · exact ⟨_, hr, trivial⟩
      · exact ⟨_, hz, q⟩
    have b : ∃ t₀, ρ[j']? = some t₀ ∧ t₀.isLst := by
      rcases set_get ht' with ⟨rfl, e2⟩ | ⟨hj, hz⟩
      · exact ⟨_, hr, trivial⟩
      · exact ⟨_, hz, q'⟩
    obtain ⟨_, a1, a2⟩ := a
    obtain ⟨_, b1, b2⟩ := b
    exact X.mApart j j' _ _ hne hl hl' a1 b1 a2 b2
  · intro j t hl ht q
    rcases set_get ht with ⟨rfl, e2⟩ | ⟨hj, hz⟩
    · exact ⟨n1, n2, n3⟩
    · exact X.mL j t hl hz q

theorem ex_append {x : PySem.Str} {p₁ p₂ p₃ pos : Pos} {e : Expr} {d : D} {ds : List D} (k : Nat) (hx : S.xs[k]? = some x) (hk : S.ks[k]? = some .local ∨ S.ks[k]? = some .cell) (hr : ρ[k]? = some (.lst ds)) (h : Ev F ρ e d) (hz : ds.length ≤ 1048576)
    (hd : (x == ("__debug__" : PySem.Str)) = false) (hline : (p₂.endLine == p₃.line) = true) (hi : ∀ env : Env, env.scope = S.sc → interactive env = false) (hst : ∀ env, starEach [e] env = [(false, eval e env)])
    (hsw : ∀ env, swapsWith (.Call (.Attribute (.Name x p₁) "append" p₂) [e] [] p₃) none pos.line env = pure false) :
    Ex1 F ρ (.Expr (.Call (.Attribute (.Name x p₁) "append" p₂) [e] [] p₃) pos) (fun o => o = .next (ρ.set k (.lst (ds ++ [d])))) := by
  refine .mk fun G s Q X h0 H => ?_
  have hlt := (List.getElem?_eq_some_iff.mp hx).1
  refine wpAny_Expr ?_ (hi _ F.sc) (hsw _)
  refine wpAny_Call_method_lateS rfl (by rw [hst]; rfl) hline ?_
  obtain ⟨ml, m, own, X⟩ := X
  obtain ⟨e', ⟨vs, n, q, r⟩, ng⟩ := X.slots k x _ hx hr
  have load : ∀ (Q' : Value → Shared → Prop), Q' (.ref (own k)) s → wpAny W.M F.A (eval (.Name x p₁) F.env) Q' NoE s := by
    intro Q' hQ
    rcases hk with hk | hk
    · exact wpAny_Name (wpAny_loadName_local F.kind (F.kindOf hx hk) X.ns ((X.loc x (F.kindOf hx hk)) ▸ e') hQ) hd
    · obtain ⟨c, hc⟩ := F.cells k x hx hk
      exact wpAny_Name (wpAny_loadName_cell F.kind (F.kindOf hx hk) hc (e' ▸ X.cel x c (F.kindOf hx hk) hc) hQ) hd
  refine load _ ⟨"list", "list.append", _root_.PySem.F.plainAttrs_list, _root_.PySem.F.slot_list_append, _root_.PySem.F.type_list_append, ⟨_, q, rfl⟩, fun a ea => by cases ea; exact ⟨_, q, rfl⟩, ?_⟩
  rw [hst]
  refine callWith_of (P := fun _ => True) rfl (fun h _ => keeps_builtin (W := W) h) ?_
  refine evalArgs_plain (spliced_cons (h.then ⟨ml, m, own, X⟩ h0 fun v h' tk G' ht kp g X' r' h0' => spliced_nil ⟨trivial, ?_⟩))
  have X₂ := X.step kp g X'.sub
  refine wpAny_list_append_plain (s := { s with heap := h', toks := tk }) (items := vs.toArray) ⟨n, kp _ _ q⟩ (fun h₂ hl₂ hs₂ => ?_) (by rw [List.size_toArray, r.length]; unfold sizeLine; omega)
  obtain ⟨n', hl₂⟩ := hl₂
  have rr : RepAll W.P G' (vs ++ [v]) (ds ++ [d]) := (r.mono g.sub).append (.cons r' .nil)
  exact H .next h₂ tk G' ht ⟨_, rfl, ml, m, own, X₂.grow hlt hr hs₂ (vs := vs ++ [v]) (n := n') (by rw [hl₂]; simp) rr⟩
end
end Mine

end

section
namespace Mine
open PySem PySem.Calls PyProof.Rows PySem.W
section
variable {W : Wd} {S : Sig} {F : FI W S} {ρ : List Sl}

inductive Tgts (F : FI W S) : List (Value → Sem Unit) → List Nat → Prop
  | nil : Tgts F [] []
  | name {x : PySem.Str} {p : Pos} {ts : List (Value → Sem Unit)} {ks : List Nat} (k : Nat) : S.xs[k]? = some x → May F k → Tgts F ts ks → Tgts F (assign (.Name x p) F.env :: ts) (k :: ks)
  | bind {x : PySem.Str} {ts : List (Value → Sem Unit)} {ks : List Nat} (k : Nat) : S.xs[k]? = some x → May F k → Tgts F ts ks → Tgts F (bindName F.env x :: ts) (k :: ks)

def setAll (ρ : List Sl) : List Nat → List D → List Sl
  | k :: ks, d :: ds => setAll (ρ.set k (.val d)) ks ds
  | _, _ => ρ

theorem assign_all : ∀ {ts : List (Value → Sem Unit)} {ks : List Nat} {vs : List Value} {ds : List D} {ρ : List Sl} {G : Fz} {s : Shared} {Q : Unit → Shared → Prop}, Tgts F ts ks → RepAll W.P G vs ds → St F ρ G s.heap →
    (∀ h' tk, s.toks ≤ tk → St F (setAll ρ ks ds) G h' → Q () { s with heap := h', toks := tk }) → wpAny W.M F.A (assignInOrder ts vs) Q NoE s := by
  intro ts ks vs ds ρ G s Q T
  induction T generalizing vs ds ρ s with
  | nil => intro r X h; cases vs <;> exact wpAny_pure (h s.heap s.toks (Nat.le_refl _) (by cases r <;> exact X))
  | name k hx hk T ih =>
    intro r X h
    cases r with
    | nil => exact wpAny_pure (h s.heap s.toks (Nat.le_refl _) X)
    | cons r rs =>
      refine wpAny_bind (wpAny_holding (assign_Name (store_val X hx hk r fun h' tk ht X' => ?_)))
      exact ih (s := { s with heap := h', toks := tk }) rs X' fun h'' tk' ht' X'' => h h'' tk' (Nat.le_trans ht ht') X''
  | bind k hx hk T ih =>
    intro r X h
    cases r with
    | nil => exact wpAny_pure (h s.heap s.toks (Nat.le_refl _) X)
    | cons r rs =>
      refine wpAny_bind (wpAny_holding (bindName_ (store_val X hx hk r fun h' tk ht X' => ?_)))
      exact ih (s := { s with heap := h', toks := tk }) rs X' fun h'' tk' ht' X'' => h h'' tk' (Nat.le_trans ht ht') X''

theorem kp_of_ext {h h' : Heap} (e : Heap.ExtBut h.objs.size h h') : Kp h h' := fun b o q => e b o (Nat.ne_of_lt (Heap.lt_size q)) q

/-- «x, y = a, b»: the stores of two or three plain names, exchanged -/
theorem ex_swap {elts : List Expr} {n : Nat} {tpos pos : Pos} {value : Expr} {names : List PySem.Str} {ks : List Nat} {ds : List D} (h : Ev F ρ value (.tuple ds)) (hl : ds.length = names.length)
    (hT : Tgts F (names.reverse.map fun n => bindName F.env n) ks) (hs : swapsWithSole [.Tuple elts n tpos] value pos.line F.env = pure false) (hw : swappedStores [.Tuple elts n tpos] value F.env = pure (some names)) :
    Ex1 F ρ (.Assign [.Tuple elts n tpos] value pos) (fun o => o = .next (setAll ρ ks ds.reverse)) := by
  refine .mk fun G s Q X h0 H => ?_
  refine Assign_Tuple_swapped (h.then X h0 fun v h' tk G' ht k g X' r h0' => ?_) hs hw
  cases r with
  | tuple ga rr =>
    rename_i a vs n'
    have hv : names.length = vs.toArray.size := by rw [List.size_toArray, rr.length, hl]
    rw [hv]
    refine wpAny_unpackItems_tuple (s := { s with heap := h', toks := tk }) F.room.hh ⟨_, X'.sub _ _ ga, rfl, _, rfl⟩ fun h₂ he => ?_
    have k₂ := kp_of_ext he
    have rv : RepAll W.P G' vs.toArray.toList.reverse ds.reverse := by
      have : ∀ {vs : List Value} {ds : List D}, RepAll W.P G' vs ds → RepAll W.P G' vs.reverse ds.reverse := by
        intro vs ds r
        induction vs generalizing ds with
        | nil => cases r; exact .nil
        | cons v vs ih => cases r with | cons a r => rw [List.reverse_cons, List.reverse_cons]; exact (ih r).append (.cons a .nil)
      exact this rr
    exact assign_all (s := { s with heap := h₂, toks := tk }) hT rv (X'.kept k₂) fun h₃ tk₃ ht₃ X₃ => H .next h₃ tk₃ G' (Nat.le_trans ht ht₃) ⟨_, rfl, X₃⟩
/-- «a, b, c = t» of a tuple, the stores in their order -/
theorem ex_unpack {elts : List Expr} {n : Nat} {tpos pos : Pos} {value : Expr} {ks : List Nat} {ds : List D} (h : Ev F ρ value (.tuple ds)) (hl : (assignEach elts F.env).length = ds.length) (hstar : (assignEach elts F.env).findIdx? (·.1) = none)
    (hT : Tgts F ((assignEach elts F.env).map (·.2)) ks) (hs : swapsWithSole [.Tuple elts n tpos] value pos.line F.env = pure false) (hw : swappedStores [.Tuple elts n tpos] value F.env = pure none) :
    Ex1 F ρ (.Assign [.Tuple elts n tpos] value pos) (fun o => o = .next (setAll ρ ks ds)) := by
  refine .mk fun G s Q X h0 H => ?_
  refine Assign_Tuple (h.then X h0 fun v h' tk G' ht k g X' r h0' => ?_) hs hw
  cases r with
  | tuple ga rr =>
    rename_i a vs n'
    refine wpAny_assign_Tuple (s := { s with heap := h', toks := tk }) (items := vs.toArray) F.room.hh ⟨_, X'.sub _ _ ga, rfl, _, rfl⟩ (by rw [hl, List.size_toArray, rr.length]) hstar fun h₂ he => ?_
    have k₂ := kp_of_ext he
    exact assign_all (s := { s with heap := h₂, toks := tk }) hT rr (X'.kept k₂) fun h₃ tk₃ ht₃ X₃ => H .next h₃ tk₃ G' (Nat.le_trans ht ht₃) ⟨_, rfl, X₃⟩
end

open Builtin Builtin.Str
/-- the place behind which a search ends -/
def endIndex (len : Nat) (i : Int) : Nat := min (max 0 (if i < 0 then i + len else i)).toNat len
def find4 (x y : PySem.Str) (i j : Int) : Int := match occurrences x y (fromIndex x.length i) (endIndex x.length j) 1 with | k :: _ => (k : Int) | [] => -1
def count4 (x y : PySem.Str) (i j : Int) : Int := (occurrences x y (fromIndex x.length i) (endIndex x.length j) (x.length + 1)).length
theorem gives_find4 (x y : PySem.Str) (i j : Int) (t u v w : Tok) : Gives («str.find» ⟨[.str x t, .str y u, .int i v, .int j w], []⟩) (.int (find4 x y i j)) := by
  show Gives (match occurrences x y (fromIndex x.length i) (endIndex x.length j) 1 with | k :: _ => retInt k | [] => (do rule "str.find.not-found"; retInt (-1))) _
  unfold find4
  cases occurrences x y (fromIndex x.length i) (endIndex x.length j) 1 with
  | nil => exact .rule (.of_eq rfl)
  | cons k _ => exact .of_eq rfl
theorem gives_count4 (x y : PySem.Str) (i j : Int) (t u v w : Tok) : Gives («str.count» ⟨[.str x t, .str y u, .int i v, .int j w], []⟩) (.int (count4 x y i j)) := by
  show Gives (retInt (occurrences x y (fromIndex x.length i) (endIndex x.length j) (x.length + 1)).length) _
  exact .of_eq rfl

section
variable {W : Wd}
theorem cal_str_str {x : PySem.Str} : Cal W 0 (.type "str") [.str x] (.str x) := by
  intro A G s vs Q _ _ hs _ r H
  cases r with | cons r rs => cases rs; cases r; exact PySem.P.str_of_str (H.here hs (Nat.le_refl _) (.str _ _))
theorem cal_find3 {x y : PySem.Str} {i : Int} : Cal W 0 (.builtin "str.find") [.str x, .str y, .int i] (.int (Txt.find3 x y i)) := by
  intro A G s vs Q _ _ hs _ r H
  cases r with | cons r rs => cases rs with | cons r' rs => cases rs with | cons r'' rs => cases rs; cases r; cases r'; cases r''; exact SC.find3 (H.here hs (Nat.le_succ _) (.int _ _))
theorem cal_find4 {x y : PySem.Str} {i j : Int} : Cal W 0 (.builtin "str.find") [.str x, .str y, .int i, .int j] (.int (find4 x y i j)) := by
  intro A G s vs Q _ _ hs _ r H
  cases r with | cons r rs => cases rs with | cons r' rs => cases rs with | cons r'' rs => cases rs with | cons r₃ rs =>
    cases rs; cases r; cases r'; cases r''; cases r₃
    exact call_gives PySem.F.slot_str_find (typeIs_str _ _ _) PySem.F.entry_str_find (PySem.F.args_str_find_4 _ _ _ _) (gives_find4 x y i j _ _ _ _) (H.here hs (Nat.le_succ _) (.int _ _))
theorem cal_count4 {x y : PySem.Str} {i j : Int} : Cal W 0 (.builtin "str.count") [.str x, .str y, .int i, .int j] (.int (count4 x y i j)) := by
  intro A G s vs Q _ _ hs _ r H
  cases r with | cons r rs => cases rs with | cons r' rs => cases rs with | cons r'' rs => cases rs with | cons r₃ rs =>
    cases rs; cases r; cases r'; cases r''; cases r₃
    exact call_gives PySem.F.slot_str_count (typeIs_str _ _ _) PySem.F.entry_str_count (PySem.F.args_str_count_4 _ _ _ _) (gives_count4 x y i j _ _ _ _) (H.here hs (Nat.le_succ _) (.int _ _))
theorem cal_len_str {x : PySem.Str} (hz : x.length ≤ 16777216) : Cal W 0 (.builtin "len") [.str x] (.int x.length) := by
  intro A G s vs Q _ _ hs _ r H
  cases r with | cons r rs => cases rs; cases r; exact len_str (by omega) (H.here hs (Nat.le_add_right _ 2) (.int _ _))
theorem cal_strip {x : PySem.Str} (hz : x.length ≤ 16777216) : Cal W 0 (.builtin "str.strip") [.str x] (.str (Txt.strip x)) := by
  intro A G s vs Q _ _ hs _ r H
  cases r with | cons r rs => cases rs; cases r; exact wpAny_with_toks (n := s.toks) (Nat.le_refl _) (SC.strip (fun t' k ht => H.here hs ht (.str _ _)) hz)
theorem cal_lstrip {x : PySem.Str} (hz : x.length ≤ 16777216) : Cal W 0 (.builtin "str.lstrip") [.str x] (.str (Txt.lstrip x)) := by
  intro A G s vs Q _ _ hs _ r H
  cases r with | cons r rs => cases rs; cases r; exact wpAny_with_toks (n := s.toks) (Nat.le_refl _) (SC.lstrip (fun t' k ht => H.here hs ht (.str _ _)) hz)
theorem cal_rstrip {x : PySem.Str} (hz : x.length ≤ 16777216) : Cal W 0 (.builtin "str.rstrip") [.str x] (.str (Txt.rstrip x)) := by
  intro A G s vs Q _ _ hs _ r H
  cases r with | cons r rs => cases rs; cases r; exact wpAny_with_toks (n := s.toks) (Nat.le_refl _) (SC.rstrip (fun t' k ht => H.here hs ht (.str _ _)) hz)
theorem cal_lower {x : PySem.Str} (hz : x.length ≤ 5592405) : Cal W 0 (.builtin "str.lower") [.str x] (.str (Txt.lower x)) := by
  intro A G s vs Q _ _ hs _ r H
  cases r with | cons r rs => cases rs; cases r; exact PyProof.Rows.SCL.lower hz fun _ => H.here hs (Nat.le_succ _) (.str _ _)
end
end Mine

end

section
namespace Mine
open PySem PySem.Calls PyProof.Rows PySem.W Builtin Builtin.Str

inductive GTy : D → String → String → Prop
  | str {x : PySem.Str} : GTy (.str x) "str" "str.__getitem__"
  | list {ds : List D} : GTy (.list ds) "list" "list.__getitem__"
  | tuple {ds : List D} : GTy (.tuple ds) "tuple" "tuple.__getitem__"
theorem GTy.lookup {d : D} {T id : String} (h : GTy d T id) : typeLookup (.type T) "__getitem__" = pure (some (.builtin id)) := by
  cases h with
  | str => exact PySem.F.slot_str_getitem.lookup
  | list => exact PySem.F.slot_list_getitem.lookup
  | tuple => exact PySem.F.slot_tuple_getitem.lookup
theorem GTy.at {P : Params} {d : D} {T id : String} (h : GTy d T id) {G : Fz} {s : Shared} {v : Value} (hs : Sub G s.heap) (r : Rep P G v d) : s.TypeIs v T := by
  cases h with
  | str => cases r; exact typeIs_str _ _ _
  | list => cases r with | list g _ => exact ⟨_, hs _ _ g, rfl⟩
  | tuple => cases r with | tuple g _ => exact ⟨_, hs _ _ g, rfl⟩

theorem sub_tail {W : Wd} {A : Around} {value slice : Expr} {o i : Value} {T id : String} {Q : Value → Shared → Prop} {s : Shared} (hT : s.TypeIs o T) (hl : typeLookup (.type T) "__getitem__" = pure (some (.builtin id))) (h : wpAny W.M A (getItem o i) Q NoE s)
    (hs : ∃ ops, subscripted slice false o i = operate ops (getItem o i)) : wpAny W.M A (subscriptTail value slice o i) Q NoE s :=
  let ⟨_, hs⟩ := hs
  tail_any hT hl h hs

section
variable {W : Wd} {S : Sig} {F : FI W S} {ρ : List Sl}
theorem ev_item {value slice : Expr} {pos : Pos} {d₀ r : D} {i : Int} {T id : String} (h₀ : Ev F ρ value d₀) (h₁ : Ev F ρ slice (.int i)) (ty : GTy d₀ T id) (ho : Op2 W getItem d₀ (.int i) r) (hs : ∀ o i, ∃ ops, subscripted slice false o i = operate ops (getItem o i)) :
    Ev F ρ (.Subscript value slice pos) r := by
  refine .mk fun G s Q X h0 H => ?_
  refine Subscript_ (h₀.then X h0 fun v h' tk G' ht k g X' r' h0' => ?_)
  refine h₁.then (s := { s with heap := h', toks := tk }) X' h0' fun v₂ h'' tk₂ G'' ht₂ k₂ g₂ X'' r'' h0'' => ?_
  have r₀ := r'.mono g₂.sub
  exact sub_tail (s := { s with heap := h'', toks := tk₂ }) (ty.at (s := { s with heap := h'', toks := tk₂ }) X''.sub r₀) ty.lookup (ho F.A G'' { s with heap := h'', toks := tk₂ } v v₂ Q F.room0 X''.topAt X''.sub h0'' r₀ r'' ((H.after ht k g).after (s := { s with heap := h', toks := tk }) ht₂ k₂ g₂)) (hs _ _)

/-- a part of a slice -/
inductive PartIs : Option Int → Value → Prop
  | none : PartIs none .none
  | some {i : Int} {t : Tok} : PartIs (some i) (.int i t)
inductive EvO (F : FI W S) (ρ : List Sl) : Option Expr → Option Int → Prop
  | none : EvO F ρ none none
  | some {e : Expr} {i : Int} : Ev F ρ e (.int i) → EvO F ρ (some e) (some i)
theorem EvO.then {e : Option Expr} {o : Option Int} (h₁ : EvO F ρ e o) {G : Fz} {s : Shared} {Q : Value → Shared → Prop} (X : St F ρ G s.heap) (h0 : 0 < s.toks)
    (h : ∀ v h' tk G', s.toks ≤ tk → Kp s.heap h' → Gx s.heap G G' → St F ρ G' h' → PartIs o v → 0 < tk → Q v { s with heap := h', toks := tk }) : wpAny W.M F.A (evalPart e F.env) Q NoE s := by
  cases h₁ with
  | none => exact wpAny_pure (h .none s.heap s.toks G (Nat.le_refl _) (Kp.refl _) (Gx.refl _ _) X .none h0)
  | some he => exact he.then X h0 fun v h' tk G' ht k g X' r h0' => by cases r; exact h _ h' tk G' ht k g X' .some h0'

/-- a slice of data: what it hands on -/
def Slc (W : Wd) (d : D) (lo hi st : Option Int) (r : D) : Prop :=
  ∀ (A : Around) (G : Fz) (s : Shared) (v : Value) (a : Addr) (vl vu vs : Value) (Q : Value → Shared → Prop), Room A 0 → Sub G s.heap → 0 < s.toks → Rep W.P G v d → s.heap.get? a = some { cls := .type "slice", data := .fields #[vl, vu, vs] } →
    PartIs lo vl → PartIs hi vu → PartIs st vs → Hands s G W.P r Q → wpAny W.M A (getItem v (.ref a)) Q NoE s
theorem ev_slice {value : Expr} {lower upper step : Option Expr} {p pos : Pos} {d₀ r : D} {lo hi st : Option Int} {T id : String} (h₀ : Ev F ρ value d₀) (hl : EvO F ρ lower lo) (hu : EvO F ρ upper hi) (hs : EvO F ρ step st) (ty : GTy d₀ T id) (ho : Slc W d₀ lo hi st r) :
    Ev F ρ (.Subscript value (.Slice lower upper step p) pos) r := by
  refine .mk fun G s Q X h0 H => ?_
  refine Subscript_ (h₀.then X h0 fun v h' tk G' ht k g X' r' h0' => ?_)
  refine wpAny_Slice (hl.then (s := { s with heap := h', toks := tk }) X' h0' fun vl h₂ tk₂ G₂ ht₂ k₂ g₂ X₂ pl h0₂ => ?_)
  refine hu.then (s := { s with heap := h₂, toks := tk₂ }) X₂ h0₂ fun vu h₃ tk₃ G₃ ht₃ k₃ g₃ X₃ pu h0₃ => ?_
  refine hs.then (s := { s with heap := h₃, toks := tk₃ }) X₃ h0₃ fun vs h₄ tk₄ G₄ ht₄ k₄ g₄ X₄ ps h0₄ => ?_
  have r₀ := ((r'.mono g₂.sub).mono g₃.sub).mono g₄.sub
  have k₅ : Kp h₄ (h₄.push { cls := .type "slice", data := .fields #[vl, vu, vs] }) := Kp.push _ _
  have X₅ := X₄.kept k₅
  refine sub_tail (s := { s with heap := h₄.push { cls := .type "slice", data := .fields #[vl, vu, vs] }, toks := tk₄ }) (ty.at (s := { s with heap := h₄.push { cls := .type "slice", data := .fields #[vl, vu, vs] }, toks := tk₄ }) X₅.sub r₀) ty.lookup ?_ ?_
  · refine ho F.A G₄ { s with heap := h₄.push { cls := .type "slice", data := .fields #[vl, vu, vs] }, toks := tk₄ } v h₄.objs.size vl vu vs Q F.room0 X₅.sub h0₄ r₀ (Heap.get?_push_size _ rfl) pl pu ps ?_
    have H₁ := H.after ht k g
    have H₂ := H₁.after (s := { s with heap := h', toks := tk }) ht₂ k₂ g₂
    have H₃ := H₂.after (s := { s with heap := h₂, toks := tk₂ }) ht₃ k₃ g₃
    have H₄ := H₃.after (s := { s with heap := h₃, toks := tk₃ }) ht₄ k₄ g₄
    exact H₄.after (s := { s with heap := h₄, toks := tk₄ }) (Nat.le_refl _) k₅ (Gx.refl _ _)
  · cases hs with
    | none => exact ⟨_, rfl⟩
    | some _ => exact ⟨_, rfl⟩
end

/-- a slice of a text -/
def strSl (x : PySem.Str) (lo hi st : Option Int) : PySem.Str :=
  if (st.getD 1 == 1 && (strSliceIndices lo hi (st.getD 1) x.length).length == x.length) = true then x else ⟨((strSliceIndices lo hi (st.getD 1) x.length).filterMap (x.cps[·]?)).toArray⟩

theorem part_of {o : Option Int} {v : Value} (h : PartIs o v) : ∃ q : Option (Int × Tok), v = partValue q ∧ q.map (·.1) = o := by
  cases h with
  | none => exact ⟨none, rfl, rfl⟩
  | some => exact ⟨some (_, _), rfl, rfl⟩
section
variable {W : Wd}
theorem slc_str {x : PySem.Str} {lo hi st : Option Int} (h0 : (st.getD 1 == 0) = false) (hz : x.length ≤ 16777216) (hz' : (strSl x lo hi st).length ≤ 16777216) : Slc W (.str x) lo hi st (.str (strSl x lo hi st)) := by
  intro A G s v a vl vu vs Q _ hs _ r ha pl pu ps H
  cases r
  rename_i t
  obtain ⟨ql, rfl, el⟩ := part_of pl
  obtain ⟨qu, rfl, eu⟩ := part_of pu
  obtain ⟨qs, rfl, es⟩ := part_of ps
  refine wpAny_with_toks (n := s.toks) (Nat.le_refl _) (wpAny_getItem_str_slice (l := ql) (u := qu) (st := qs) ⟨_, ha, rfl, rfl⟩ (by rw [es]; exact h0) ?_)
  unfold sliceMade slicePicked
  unfold strSl at hz' H
  rw [el, eu, es]
  by_cases c : (st.getD 1 == 1 && (strSliceIndices lo hi (st.getD 1) x.length).length == x.length) = true
  · rw [if_pos c] at H ⊢
    exact fun ht => H.here hs ht (.str _ _)
  · rw [if_neg c] at hz' H ⊢
    exact ⟨hz', fun ht => H.here hs ht (.str _ _)⟩
end
end Mine

end

section
namespace Mine
open PySem PySem.Calls PyProof.Rows PySem.W Builtin Builtin.Str
section
variable {W : Wd}
theorem mod_ii {a b : Int} (hb : 0 < b) : Op2 W (binaryOp .Mod) (.int a) (.int b) (.int (a % b)) := fun _ _ _ _ _ _ _ _ hs _ r r' H => by
  cases r; cases r'
  refine PyProof.Rows.mod_int' (by omega) ?_
  rw [Int.fmod_eq_emod_of_nonneg _ (by omega)]
  exact H.here hs (Nat.le_succ _) (.int _ _)
theorem iadd_ii {a b : Int} : Op2 W (inplaceOp .Add) (.int a) (.int b) (.int (a + b)) := fun _ _ _ _ _ _ _ _ hs _ r r' H => by
  cases r; cases r'; exact wpAny_iadd_int (H.here hs (Nat.le_succ _) (.int _ _))
end
theorem boot_str' : bootBuiltins "str" = some (.type "str") := by decide +kernel
theorem boot_len' : bootBuiltins "len" = some (.builtin "len") := by decide +kernel
theorem boot_chr' : bootBuiltins "chr" = some (.builtin "chr") := by decide +kernel
theorem boot_ord' : bootBuiltins "ord" = some (.builtin "ord") := by decide +kernel
theorem boot_max' : bootBuiltins "max" = some (.builtin "max") := by decide +kernel
theorem boot_sum' : bootBuiltins "sum" = some (.builtin "sum") := by decide +kernel
theorem boot_list' : bootBuiltins "list" = some (.type "list") := by decide +kernel
theorem boot_range' : bootBuiltins "range" = some (.type "range") := by decide +kernel
/-- the names of the builtins that the texts ask -/
def bnames : List PySem.Str := ["str", "len", "chr", "ord", "max", "sum", "list", "range"]
end Mine

end

section
namespace Mine
open PySem PySem.Calls PyProof.Rows PySem.W Builtin Builtin.Str
def envS (sc : Scope) : Env := { scope := sc, locals := 0, globals := 0, cells := [] }
theorem swapped_scope {env : Env} {sc : Scope} (h : env.scope = sc) (ts : List Expr) (v : Expr) : swappedStores ts v env = swappedStores ts v (envS sc) := by
  subst h; rfl
theorem swap_ok {W : Wd} {S : Sig} (F : FI W S) {ts : List Expr} {v : Expr} {names : List PySem.Str} (h : swappedStores ts v (envS S.sc) = pure (some names)) : swappedStores ts v F.env = pure (some names) := (swapped_scope F.sc ts v).trans h
theorem noswap_ok {W : Wd} {S : Sig} (F : FI W S) {ts : List Expr} {v : Expr} (h : swappedStores ts v (envS S.sc) = pure none) : swappedStores ts v F.env = pure none := (swapped_scope F.sc ts v).trans h
end Mine

end

section
namespace Mine
open PySem PySem.Calls PyProof.Rows PySem.W
theorem rep_ints {P : Params} {G : Fz} : ∀ {vs : List Value} {ns : List Int}, IntsAre vs ns → RepAll P G vs (ns.map D.int)
  | _, _, .nil => .nil
  | _, _, .cons a t r => .cons (.int a t) (rep_ints r)
/-- the law's call at its entry -/
theorem law_call {W : Wd} {f : PySem.Str} {fa l : Addr} {s : Shared} {vs : List Value} {ns : List Int} {n : Nat} {Q E : Value → Shared → Prop} (hf : Fn W n f [.list (ns.map D.int)] (.bool true)) (hn : n ≤ 90) (hmg : W.mg f = some (.ref fa)) (T : W.Top s.heap) {m : Nat} (hL : s.heap.get? l = some { cls := .type "list", data := .seq vs.toArray m }) (hI : IntsAre vs ns)
    (htk : 0 < s.toks) (h : ∀ h' tk, Kp s.heap h' → Q (.bool true) { s with heap := h', toks := tk }) : wpAny W.M callerA (call (.ref fa) [.ref l]) Q E s := by
  obtain ⟨a, ha, _, hc⟩ := hf
  rw [hmg] at ha
  cases ha
  refine wpAny_mono (hc callerA (fun b p => b = l ∧ p = { cls := .type "list", data := .seq vs.toArray m }) s [.ref l] Q ⟨rfl, by show 1 + claimMargin + n ≤ 400; unfold claimMargin; omega, by show 4 + 8 * n ≤ 2000; omega⟩ T (fun b p e => by rw [e.1, e.2]; exact hL) htk (.cons (.list ⟨rfl, rfl⟩ (rep_ints hI)) .nil) ?_) (fun _ _ x => x) fun _ _ x => x.elim
  intro v h' tk G' _ k _ _ r
  cases r
  exact h h' tk k

def freeAll (p : Program) (loose : List PySem.Str) : Bool := bnames.all fun x => decide (x ∉ startupNames) && decide (x ∉ loose) && decide (x ∉ (recsOf p).map (·.name)) && decide (x ∉ (litsOf p).map (·.1)) && decide (x ∉ (clssOf p loose).map (·.name))
theorem noG {p : Program} {loose : List PySem.Str} {mean : ExcName → Option Value} {mg mb : PySem.Str → Option Value} {h : Heap} (T : Top p loose mean mg mb h) (hf : freeAll p loose = true) : ∀ y ∈ bnames, mg y = none := fun y hy => by
  have := List.all_eq_true.mp hf y hy
  simp only [Bool.and_eq_true, decide_eq_true_eq] at this
  exact T.free y this.1.1.1.1 this.1.1.1.2 this.1.1.2 this.1.2 this.2
end Mine

end

section
namespace Mine
open PySem PySem.Calls PyProof.Rows PySem.W Builtin Builtin.Str

/-- an iterator at work over data -/
structure Iters (W : Wd) (A : Around) (G : Fz) (items : List D) (I : Addr) (fp wr : List Addr) (Pt : Nat → Value → Prop) (Sx : Nat → Heap → Prop) : Prop where
  walks : Walks W.prog W.w A I fp wr items.length Pt Sx
  live : ∀ i h, Sx i h → ∀ b ∈ fp, ∃ o, h.get? b = some o
  fpG : ∀ b ∈ fp, b ∈ wr ∨ ∃ o, G b o
  lot : ∀ i (s : Shared) target v (Q : Unit → Shared → Prop), Sx i s.heap → Q () s → wpAny W.M A (letOwnedTupleGo target (.ref I) v) Q NoE s
  rep : ∀ i u, Pt i u → ∃ d, items[i]? = some d ∧ Rep W.P G u d

def Itr (W : Wd) (d : D) (items : List D) : Prop :=
  ∀ (A : Around) (G : Fz) (s : Shared) (v : Value) (Q : Value → Shared → Prop), Room A 0 → Sub G s.heap → Rep W.P G v d →
    (∀ I fp wr Pt Sx h', Kp s.heap h' → Iters W A G items I fp wr Pt Sx → Sx 0 h' → (∀ b ∈ wr, s.heap.get? b = none) → Q (.ref I) { s with heap := h' }) → wpAny W.M A (pyIter v) Q NoE s

theorem lot_of {W : Wd} {A : Around} {I : Addr} {s : Shared} {o : Obj} {n : String} {target : Expr} {v : Value} {Q : Unit → Shared → Prop} (ho : s.heap.get? I = some o) (hc : o.cls = .type n)
    (hn : ["enumerate", "zip", "dict_itemiterator", "dict_reverseitemiterator", "odict_iterator", "itertools.zip_longest", "itertools.pairwise"].contains n = false) (h : Q () s) : wpAny W.M A (letOwnedTupleGo target (.ref I) v) Q NoE s := by
  have key : wpAny W.M A (do
      let (.ref r, .ref a) := (Value.ref I, v) | return
      let o ← load r
      match o.cls, o.data with
      | .type n, .fields vs =>
        if ["enumerate", "zip", "dict_itemiterator", "dict_reverseitemiterator", "odict_iterator", "itertools.zip_longest", "itertools.pairwise"].contains n && vs[0]? == some (rawInt a) then
          rule "for.unpacks-the-owned-tuple"
          updateField r 0 .none
      | _, _ => pure ()) Q NoE s := by
    cases v with
    | ref a =>
      refine wpAny_bind (wpAny_load ho ?_)
      rw [hc]
      cases o.data with
      | fields vs =>
        dsimp only
        rw [hn]
        exact wpAny_pure h
      | _ => exact wpAny_pure h
    | _ => exact wpAny_pure h
  cases target <;> first | exact key | exact wpAny_pure h

section
variable {W : Wd}
theorem itr_list {ds : List D} : Itr W (.list ds) ds := by
  intro A G s v Q hr sb r H
  cases r with
  | list g rr =>
    rename_i a vs n
    have hl : s.heap.IsList a vs.toArray := ⟨_, sb _ _ g, rfl, n, rfl⟩
    refine wpAny_pyIter_list hl ?_
    have hne : a ≠ s.heap.objs.size := Nat.ne_of_lt (Heap.lt_size (sb _ _ g))
    have hlen : ds.length = vs.toArray.size := by rw [List.size_toArray, rr.length]
    refine H s.heap.objs.size [s.heap.objs.size, a] [s.heap.objs.size] (fun i v => vs.toArray[i]? = some v) (fun i h => h.IsListIter s.heap.objs.size a i ∧ h.IsList a vs.toArray) _ (Kp.push _ _) ?_ ⟨⟨_, Heap.get?_push_size _ rfl, rfl, rfl⟩, hl.push _⟩ ?_
    · refine ⟨hlen ▸ Walks.list hr.hh _ _ hne _, ?_, ?_, ?_, ?_⟩
      · rintro i h ⟨⟨o1, e1, _⟩, ⟨o2, e2, _⟩⟩ b hb
        simp at hb
        rcases hb with rfl | rfl
        · exact ⟨_, e1⟩
        · exact ⟨_, e2⟩
      · intro b hb
        simp at hb
        rcases hb with rfl | rfl
        · exact .inl (by simp)
        · exact .inr ⟨_, g⟩
      · rintro i s' target v Q' ⟨⟨o1, e1, c1, _⟩, _⟩ hq
        exact lot_of e1 c1 (by decide) hq
      · intro i u hu
        exact rr.of_get (by simpa using hu)
    · intro b hb
      simp at hb
      subst hb
      exact size_none _
theorem itr_str {x : PySem.Str} : Itr W (.str x) (x.cps.toList.map fun c => .str ⟨#[c]⟩) := by
  intro A G s v Q hr sb r H
  cases r with
  | str _ t =>
    have fin : ∀ (ty : String), ["enumerate", "zip", "dict_itemiterator", "dict_reverseitemiterator", "odict_iterator", "itertools.zip_longest", "itertools.pairwise"].contains ty = false →
        (∀ A' : Around, A'.handled = none → Walks W.prog W.w A' s.heap.objs.size [s.heap.objs.size] [s.heap.objs.size] x.cps.size (SignAt x) (fun i h => h.IsStrIter s.heap.objs.size ty x t i)) →
        Q (.ref s.heap.objs.size) { s with heap := s.heap.push { cls := .type ty, data := .fields #[.str x t, .int 0 0] } } := by
      intro ty hty hW
      refine H s.heap.objs.size [s.heap.objs.size] [s.heap.objs.size] (SignAt x) (fun i h => h.IsStrIter s.heap.objs.size ty x t i) _ (Kp.push _ _) ?_ ⟨_, Heap.get?_push_size _ rfl, rfl, rfl⟩ ?_
      · refine ⟨by rw [List.length_map]; exact hW A hr.hh, ?_, fun b hb => .inl hb, ?_, ?_⟩
        · rintro i h ⟨o1, e1, _⟩ b hb
          simp at hb; subst hb; exact ⟨_, e1⟩
        · rintro i s' target v Q' ⟨o1, e1, c1, _⟩ hq
          exact lot_of e1 c1 hty hq
        · rintro i u ⟨c, q, hc, rfl⟩
          refine ⟨.str ⟨#[c]⟩, ?_, .str _ _⟩
          rw [List.getElem?_map]
          simp [hc]
      · intro b hb
        simp at hb; subst hb; exact size_none _
    refine wpAny_pyIter_strU ?_
    unfold strIterType
    cases x.cps.all (· < 128)
    · exact fin "str_iterator" (by decide) fun A' hA => Walks.strWide hA _ x t
    · exact fin "str_ascii_iterator" (by decide) fun A' hA => Walks.strAscii hA _ x t
/-- the ints of a range by ones -/
def rngL (a b : Int) : List D := (List.range (b - a).toNat).map fun (i : Nat) => .int (a + i)
theorem rngL_get {a b : Int} {i : Nat} (h : i < (b - a).toNat) : (rngL a b)[i]? = some (.int (a + i)) := by
  unfold rngL
  rw [List.getElem?_map, List.getElem?_range h]
  rfl
theorem rngL_len (a b : Int) : (rngL a b).length = (b - a).toNat := by simp [rngL]
theorem itr_rng {a b : Int} (hs : Builtin.Range.small a b 1 = true) : Itr W (.rng a b) (rngL a b) := by
  intro A G s v Q hr sb r H
  cases r with
  | rng g =>
    rename_i r t u w
    refine wpAny_pyIter_range (sb _ _ g) hs ?_
    have hz : Builtin.Range.rangeSize a b 1 = ((b - a).toNat : Int) := by
      unfold Builtin.Range.rangeSize
      rw [if_pos (by decide)]
      split <;> omega
    rw [hz]
    refine H s.heap.objs.size [s.heap.objs.size] [s.heap.objs.size] (fun i v => i < (b - a).toNat ∧ ∃ t, v = .int (a + i * 1) t) (fun i h => IsRangeIter h s.heap.objs.size (a + (i : Nat) * 1) (((b - a).toNat : Int) - (i : Nat)) 1) _ (Kp.push _ _) ?_ ?_ ?_
    · have W₀ := Walks.range (prog := W.prog) (w := W.w) (A := A) hr.hh s.heap.objs.size a 1 (b - a).toNat
      refine ⟨?_, ?_, fun b hb => .inl hb, ?_, ?_⟩
      · rw [rngL_len]
        exact ⟨W₀.sub, W₀.frame, fun i s Q E hi st hQ => W₀.item i s Q E hi st fun v h' tk p => hQ v h' tk ⟨hi, p⟩, W₀.done, W₀.self⟩
      · intro i h hx b hb
        simp at hb; subst hb; exact ⟨_, hx⟩
      · intro i s' target v Q' hx hq
        exact lot_of hx rfl (by decide) hq
      · rintro i u ⟨hi, t, rfl⟩
        exact ⟨_, rngL_get hi, by rw [Int.mul_one]; exact .int _ _⟩
    · have : (a + ((0 : Nat) : Int) * 1) = a := by simp
      rw [this]
      have e2 : (((b - a).toNat : Int) - ((0 : Nat) : Int)) = ((b - a).toNat : Int) := by simp
      rw [e2]
      exact Heap.get?_push_size _ rfl
    · intro b hb
      simp at hb; subst hb; exact size_none _
end
end Mine

end

section
namespace Mine
open PySem PySem.Calls PyProof.Rows PySem.W Builtin Builtin.Str
section
variable {W : Wd} {S : Sig} {F : FI W S} {ρ : List Sl}

/-- objects that the frame does not own -/
structure Apart (F : FI W S) (ρ : List Sl) (G : Fz) (own : Nat → Addr) (b : Addr) : Prop where
  nL : b ≠ F.env.locals
  nC : ∀ x c, (x, c) ∈ F.env.cells → b ≠ c
  nG : ∀ o, ¬ G b o
  nO : ∀ k sl, k < S.xs.length → ρ[k]? = some sl → sl.isLst → own k ≠ b
  nH : F.h₀.get? b = none

theorem StM.keepsBut {G : Fz} {h h' : Heap} {ml m : PySem.Str → Option Value} {own : Nat → Addr} {wr : List Addr} (X : StM F ρ G h ml m own) (hw : ∀ b ∈ wr, Apart F ρ G own b) (hk : ∀ b o, b ∉ wr → h.get? b = some o → h'.get? b = some o) : StM F ρ G h' ml m own where
  keep := fun b o e => hk b o (fun q => by rw [(hw b q).nH] at e; cases e) (X.keep b o e)
  sub := fun b o e => hk b o (fun q => (hw b q).nG o e) (X.sub b o e)
  ext := X.ext
  ns := X.ns.at' fun o e => hk _ o (fun q => (hw _ q).nL rfl) e
  loc := X.loc
  cel := fun y c hy hc => let ⟨o, e, d⟩ := X.cel y c hy hc; ⟨o, hk _ o (fun q => (hw _ q).nC y c (mem_of_lookup hc) rfl) e, d⟩
  cl := fun y c hy => let ⟨o, e⟩ := X.cl y c hy; ⟨o, hk _ o (fun q => (hw _ q).nC y c hy rfl) e⟩
  nL := X.nL
  nC := X.nC
  slots := fun k y sl hy hsl => by
    have := X.slots k y sl hy hsl
    cases sl with
    | no => trivial
    | val d => exact this
    | lst ds => obtain ⟨e, ⟨vs, n, q, r⟩, ng⟩ := this; exact ⟨e, ⟨vs, n, hk _ _ (fun z => (hw _ z).nO k _ (List.getElem?_eq_some_iff.mp hy).1 hsl trivial rfl) q, r⟩, ng⟩
  mApart := X.mApart
  mL := X.mL

/-- the frame anew, all that it does not own kept -/
def FI.anew (F : FI W S) (h : Heap) (G : Fz) (hid : List Addr) (top : W.Top (hideAll h hid)) (hL : F.env.locals ∈ hid) (hC : ∀ x c, (x, c) ∈ F.env.cells → c ∈ hid) : FI W S :=
  { F with h₀ := hideAll h hid, G₀ := G, top := top, newL := hideAll_none _ hL, newC := fun _ x c hm => hideAll_none _ (hC x c hm) }

theorem ownList (ρ : List Sl) (own : Nat → Addr) (n : Nat) : ∃ l : List Addr, (∀ k sl, k < n → ρ[k]? = some sl → sl.isLst → own k ∈ l) ∧ ∀ a ∈ l, ∃ k sl, k < n ∧ ρ[k]? = some sl ∧ sl.isLst ∧ own k = a := by
  induction n with
  | zero => exact ⟨[], fun k _ h => absurd h (Nat.not_lt_zero _), fun _ h => nomatch h⟩
  | succ n ih =>
    obtain ⟨l, h1, h2⟩ := ih
    by_cases q : ∃ sl, ρ[n]? = some sl ∧ sl.isLst
    · obtain ⟨sl, e, q⟩ := q
      refine ⟨own n :: l, fun k sl' hk e' q' => ?_, fun a ha => ?_⟩
      · by_cases hkn : k = n
        · subst hkn; exact .head _
        · exact .tail _ (h1 k sl' (by omega) e' q')
      · rcases List.mem_cons.mp ha with rfl | ha
        · exact ⟨n, sl, Nat.lt_succ_self _, e, q, rfl⟩
        · obtain ⟨k, sl', a1, a2⟩ := h2 a ha; exact ⟨k, sl', Nat.lt_succ_of_lt a1, a2⟩
    · refine ⟨l, fun k sl' hk e' q' => ?_, fun a ha => ?_⟩
      · have hkn : k ≠ n := fun e => q ⟨sl', e ▸ e', q'⟩
        exact h1 k sl' (by omega) e' q'
      · obtain ⟨k, sl', a1, a2⟩ := h2 a ha; exact ⟨k, sl', Nat.lt_succ_of_lt a1, a2⟩

/-- the assignment of data to a target -/
def Asg (F : FI W S) (target : Expr) (ρ : List Sl) (d : D) (ρ' : List Sl) : Prop :=
  ∀ (G : Fz) (s : Shared) (v : Value) (Q : Unit → Shared → Prop), St F ρ G s.heap → Rep W.P G v d → (∀ h' tk, s.toks ≤ tk → St F ρ' G h' → Q () { s with heap := h', toks := tk }) → wpAny W.M F.A (assign target F.env v) Q NoE s
theorem asg_name {x : PySem.Str} {p : Pos} {d : D} (k : Nat) (hx : S.xs[k]? = some x) (hk : May F k) : Asg F (.Name x p) ρ d (ρ.set k (.val d)) := fun G s v Q X r H => assign_Name (store_val X hx hk r H)
theorem asg_tuple {elts : List Expr} {n : Nat} {p : Pos} {ds : List D} {ks : List Nat} (hl : (assignEach elts F.env).length = ds.length) (hstar : (assignEach elts F.env).findIdx? (·.1) = none) (hT : Tgts F ((assignEach elts F.env).map (·.2)) ks) :
    Asg F (.Tuple elts n p) ρ (.tuple ds) (setAll ρ ks ds) := by
  intro G s v Q X r H
  cases r with
  | tuple ga rr =>
    rename_i a vs n'
    refine wpAny_assign_Tuple (items := vs.toArray) F.room.hh ⟨_, X.sub _ _ ga, rfl, _, rfl⟩ (by rw [hl, List.size_toArray, rr.length]) hstar fun h₂ he => ?_
    exact assign_all (s := { s with heap := h₂ }) hT rr (X.kept (kp_of_ext he)) H

theorem ex_for {target iter : Expr} {body : List Stmt} {pos : Pos} {d : D} {items : List D} {Post : Out → Prop} (ho : F.own = true) (h : Ev F ρ iter d) (hit : Itr W d items) (I : Nat → List Sl → Prop) (h0 : I 0 ρ)
    (turn : ∀ (F₂ : FI W S), F₂.lv = F.lv → F₂.own = true → ∀ i ρ d, items[i]? = some d → I i ρ → ∃ ρ₁, Asg F₂ target ρ d ρ₁ ∧
      Ex F₂ ρ₁ body (fun o => match o with | .next ρ' | .cont ρ' => I (i + 1) ρ' | .brk ρ' => Post (.next ρ') | .ret d => Post (.ret d)))
    (done : ∀ ρ, I items.length ρ → Post (.next ρ)) (hs : ∀ env x, foldedSetIterable iter env x = pure x) : Ex1 F ρ (.For target iter body [] pos) Post := by
  refine .mk fun G s Q X ht0 H => ?_
  refine wpAny_For (h.then X ht0 fun v h₁ tk₁ G₁ ht₁ k₁ g₁ X₁ r₁ h0₁ => ?_) (hs _)
  refine hit F.A G₁ { s with heap := h₁, toks := tk₁ } v _ F.room0 X₁.sub r₁ fun It fp wr Pt Sx h₂ k₂ IT st₂ hwr => ?_
  have hst : ∀ {ml m own}, StM F ρ G₁ h₁ ml m own → ∀ b ∈ wr, Apart F ρ G₁ own b := by
    intro ml m own Y b hb
    have hn := hwr b hb
    refine ⟨?_, ?_, ?_, ?_, ?_⟩
    · rintro rfl; obtain ⟨o, _, _, e, _⟩ := Y.ns; exact absurd (e.symm.trans hn) (by simp)
    · rintro x c hc rfl; obtain ⟨o, e⟩ := Y.cl x _ hc; exact absurd (e.symm.trans hn) (by simp)
    · intro o g; exact absurd ((Y.sub _ _ g).symm.trans hn) (by simp)
    · rintro k sl hk hsl q rfl
      obtain ⟨y, hy⟩ : ∃ y, S.xs[k]? = some y := ⟨_, List.getElem?_eq_getElem hk⟩
      have := Y.slots k y sl hy hsl
      cases sl with
      | lst ds => obtain ⟨_, ⟨_, _, e, _⟩, _⟩ := this; exact absurd (e.symm.trans hn) (by simp)
      | _ => exact q
    · exact Y.keep.none hn
  -- the turns
  refine codeAny_forLoop_any (fun n s' => ∃ i h' tk G' ρ' ml m own, s' = { s with heap := h', toks := tk } ∧ n = items.length + 1 - i ∧ i ≤ items.length ∧ s.toks ≤ tk ∧ StM F ρ' G' h' ml m own ∧ (∀ a o, G₁ a o → G' a o) ∧ Sx i h' ∧ (∀ b ∈ wr, Apart F ρ' G' own b) ∧ I i ρ') ?_ (items.length + 1) ?_
  · rintro n s' ⟨i, h', tk, G', ρ', ml, m, own, rfl, hn, hi, ht, X', hG, st, hap, hI⟩
    have W₀ := IT.walks
    by_cases hlt : i < items.length
    · refine wpAny_with_toks (n := tk) (Nat.le_refl _) (W₀.item i _ _ _ hlt st fun v h₃ tk₃ hPv st₃ hk₃ ht₃ => ?_)
      obtain ⟨dd, hdd, rv⟩ := IT.rep i v hPv
      have X₃ := X'.keepsBut hap hk₃
      refine wpAny_mono (IT.lot (i + 1) { s with heap := h₃, toks := tk₃ } target v _ st₃ ?_) (fun _ _ x => x) fun _ _ x => x.elim
      -- the frame anew at this heap
      obtain ⟨ol, ol1, ol2⟩ := ownList ρ' own S.xs.length
      have notHid : ∀ b, b ∈ wr ∨ (∃ o, G' b o) → b ∉ F.env.locals :: (F.env.cells.map (·.2) ++ ol) := by
        intro b hb hm
        rcases List.mem_cons.mp hm with rfl | hm
        · rcases hb with hb | ⟨o, hb⟩
          · exact (hap _ hb).nL rfl
          · exact X₃.nL o hb
        · rcases List.mem_append.mp hm with hm | hm
          · obtain ⟨⟨x, c⟩, hc, rfl⟩ := List.mem_map.mp hm
            rcases hb with hb | ⟨o, hb⟩
            · exact (hap _ hb).nC x c hc rfl
            · exact X₃.nC x c hc o hb
          · obtain ⟨k, sl, a1, a2, a3, a4⟩ := ol2 b hm
            rcases hb with hb | ⟨o, hb⟩
            · exact (hap _ hb).nO k sl a1 a2 a3 a4
            · obtain ⟨y, hy⟩ : ∃ y, S.xs[k]? = some y := ⟨_, List.getElem?_eq_getElem a1⟩
              have := X₃.slots k y sl hy a2
              cases sl with
              | lst ds => exact this.2.2 o (a4 ▸ hb)
              | _ => exact a3
      have keep₀ : Kp F.h₀ (hideAll h₃ (F.env.locals :: (F.env.cells.map (·.2) ++ ol))) := fun b o e => hideAll_get _ (X₃.keep b o e) fun hm => by
        rcases List.mem_cons.mp hm with rfl | hm
        · rw [F.newL] at e; cases e
        · rcases List.mem_append.mp hm with hm | hm
          · obtain ⟨⟨x, c⟩, hc, rfl⟩ := List.mem_map.mp hm
            rw [F.newC ho x c hc] at e; cases e
          · obtain ⟨k, sl, a1, a2, a3, a4⟩ := ol2 b hm
            have := (X₃.mL k sl a1 a2 a3).2.2
            rw [a4, e] at this; cases this
      have hL : F.env.locals ∈ F.env.locals :: (F.env.cells.map (·.2) ++ ol) := .head _
      have hC : ∀ x c, (x, c) ∈ F.env.cells → c ∈ F.env.locals :: (F.env.cells.map (·.2) ++ ol) := fun x c hm => .tail _ (List.mem_append_left _ (List.mem_map.mpr ⟨_, hm, rfl⟩))
      generalize hhid : F.env.locals :: (F.env.cells.map (·.2) ++ ol) = hid at notHid keep₀ hL hC
      let F₂ : FI W S := F.anew h₃ G' hid (F.top.keeps keep₀) hL hC
      have X₄ : StM F₂ ρ' G' h₃ ml m own := {
        keep := fun b o e => of_hideAll _ e, sub := X₃.sub, ext := Gx.refl _ _, ns := X₃.ns, loc := X₃.loc, cel := X₃.cel, cl := X₃.cl, nL := X₃.nL, nC := X₃.nC, slots := X₃.slots, mApart := X₃.mApart
        mL := fun k sl hk hsl q => ⟨(X₃.mL k sl hk hsl q).1, (X₃.mL k sl hk hsl q).2.1, hideAll_none _ (hhid ▸ .tail _ (List.mem_append_right _ (ol1 k sl hk hsl q)))⟩ }
      obtain ⟨ρ₁, hasg, hex⟩ := turn F₂ rfl ho i ρ' dd hdd hI
      have rv' : Rep W.P G' v dd := rv.mono hG
      refine wpAny_mono (hasg G' { s with heap := h₃, toks := tk₃ } v _ ⟨ml, m, own, X₄⟩ rv' fun h₄ tk₄ ht₄ X₅ => ?_) (fun _ _ x => x) fun _ _ x => x.elim
      refine wpAny_mono (hex.go G' { s with heap := h₄, toks := tk₄ } _ X₅ (by have a1 : tk₃ ≤ tk₄ := ht₄; have a2 : tk ≤ tk₃ := ht₃; show 0 < tk₄; omega) fun fl h₅ tk₅ G₅ ht₅ f => ?_) (fun _ _ x => x) fun _ _ x => x.elim
      have htt : s.toks ≤ tk₅ := by
        have a1 : tk₃ ≤ tk₄ := ht₄
        have a2 : tk₄ ≤ tk₅ := ht₅
        have a3 : tk ≤ tk₃ := ht₃
        omega
      -- back to the frame
      have back : ∀ {ρ₂ : List Sl} {G₂ : Fz} {h₂ : Heap} {ml₂ m₂ : PySem.Str → Option Value} {own₂ : Nat → Addr}, StM F₂ ρ₂ G₂ h₂ ml₂ m₂ own₂ → StM F ρ₂ G₂ h₂ ml₂ m₂ own₂ := by
        intro ρ₂ G₂ h₂ ml₂ m₂ own₂ Y
        exact { keep := keep₀.trans Y.keep, sub := Y.sub, ext := X₃.ext.trans keep₀ Y.ext, ns := Y.ns, loc := Y.loc, cel := Y.cel, cl := Y.cl, nL := Y.nL, nC := Y.nC, slots := Y.slots, mApart := Y.mApart
                mL := fun k sl hk hsl q => ⟨(Y.mL k sl hk hsl q).1, (Y.mL k sl hk hsl q).2.1, keep₀.none (Y.mL k sl hk hsl q).2.2⟩ }
      have next : ∀ {ρ₂ : List Sl} {G₂ : Fz} {h₂ : Heap} {tk₂ : Nat}, s.toks ≤ tk₂ → St F₂ ρ₂ G₂ h₂ → I (i + 1) ρ₂ → ∃ k, k < n ∧ ∃ i h' tk G' ρ' ml m own, ({ s with heap := h₂, toks := tk₂ } : Shared) = { s with heap := h', toks := tk } ∧ k = items.length + 1 - i ∧ i ≤ items.length ∧ s.toks ≤ tk ∧ StM F ρ' G' h' ml m own ∧ (∀ a o, G₁ a o → G' a o) ∧ Sx i h' ∧ (∀ b ∈ wr, Apart F ρ' G' own b) ∧ I i ρ' := by
        rintro ρ₂ G₂ h₂ tk₂ htk ⟨ml₂, m₂, own₂, Y⟩ hI₂
        have kY : Kp (hideAll h₃ hid) h₂ := Y.keep
        refine ⟨items.length + 1 - (i + 1), by omega, i + 1, h₂, tk₂, G₂, ρ₂, ml₂, m₂, own₂, rfl, rfl, by omega, htk, back Y, fun a o e => Y.ext.sub a o (hG a o e), ?_, fun b hb => ?_, hI₂⟩
        · refine W₀.frame (i + 1) h₃ h₂ st₃ fun b hb o e => kY _ _ (hideAll_get _ e (notHid b ?_))
          exact (IT.fpG b hb).imp id fun ⟨o, g⟩ => ⟨o, hG _ _ g⟩
        · obtain ⟨o, e⟩ := IT.live (i + 1) h₃ st₃ b (W₀.sub b hb)
          have eh : (hideAll h₃ hid).get? b = some o := hideAll_get _ e (notHid b (.inl hb))
          refine ⟨(hap b hb).nL, (hap b hb).nC, fun o' g => ?_, fun k sl hk hsl q z => ?_, (hap b hb).nH⟩
          · rcases Y.ext.new _ _ g with g | g
            · exact (hap b hb).nG o' g
            · exact absurd (eh.symm.trans g) (by simp)
          · have := (Y.mL k sl hk hsl q).2.2
            rw [z] at this
            exact absurd (eh.symm.trans this) (by simp)
      cases fl with
      | next => obtain ⟨ρ₂, hI₂, Y⟩ := f; exact next htt Y hI₂
      | cont => obtain ⟨ρ₂, hI₂, Y⟩ := f; exact next htt Y hI₂
      | brk => obtain ⟨ρ₂, hp, ml₂, m₂, own₂, Y⟩ := f; exact H .next h₅ tk₅ G₅ htt ⟨ρ₂, hp, _, _, _, back Y⟩
      | ret v => obtain ⟨d', hp, a1, a2, a3, a4⟩ := f; exact H (.ret v) h₅ tk₅ G₅ htt ⟨d', hp, keep₀.trans a1, X₃.ext.trans keep₀ a2, a3, a4⟩
    · have hin : i = items.length := by omega
      subst hin
      refine wpAny_with_toks (n := tk) (Nat.le_refl _) (W₀.done _ _ _ st fun h₃ tk₃ hk₃ ht₃ => ?_)
      have X₃ := X'.keepsBut hap hk₃
      exact wpAny_execs_nil (H .next h₃ tk₃ G' (Nat.le_trans ht ht₃) ⟨ρ', done ρ' hI, _, _, _, X₃⟩)
  · obtain ⟨ml, m, own, Y⟩ := X₁
    exact ⟨0, h₂, tk₁, G₁, ρ, ml, m, own, rfl, rfl, Nat.zero_le _, ht₁, Y.step k₂ (Gx.refl _ _) (fun a o e => k₂ _ _ (Y.sub a o e)), fun _ _ e => e, st₂, hst Y, h0⟩
end
end Mine

end

section
namespace Mine
open PySem PySem.Calls PyProof.Rows PySem.W Builtin Builtin.Str

def relab (sc outer : Scope) : Scope :=
  { sc with names := sc.names.map fun (n, k) => if (k == .free && outer.kind == .function && outer.names.lookup n == some .cell) then (n, .cell) else (n, k) }
theorem relabel_eq (sc : Scope) (env : Env) : relabel sc env = relab sc env.scope := rfl

def compOk (sc : Scope) (xs : List PySem.Str) (ks : List NameKind) : Bool :=
  sc.kind == .function && sc.names.all (fun y => y.2 != .cell) && sc.names.all (fun y => y.2 != .local || sc.names.lookup y.1 == some .local) && sc.names.all (fun y => y.2 != .free || (xs.zip ks).contains (y.1, .cell)) &&
    decide (((sc.names.filter (·.2 == .free)).map (·.1)).Nodup)

/-- the cells that a comprehension takes along -/
def closL (env : Env) : List (PySem.Str × NameKind) → List (PySem.Str × Addr) → List (PySem.Str × Addr)
  | [], acc => acc
  | (n, k) :: r, acc => if k == .free then closL env r ((n, (env.cells.lookup n).getD 0) :: acc) else closL env r acc
theorem closureFor_some {env : Env} {sc : Scope} (h : ∀ y ∈ sc.names, y.2 = .free → ∃ c, env.cells.lookup y.1 = some c) : closureFor sc env = pure (closL env sc.names []) := by
  simp only [closureFor]
  have key : ∀ (names : List (PySem.Str × NameKind)) (acc : List (PySem.Str × Addr)), (∀ y ∈ names, y.2 = .free → ∃ c, env.cells.lookup y.1 = some c) →
      (forIn names acc fun x r => if (x.2 == NameKind.free) = true then do let a ← cellOf env x.1; pure (ForInStep.yield ((x.1, a) :: r)) else pure (ForInStep.yield r) : Sem (List (PySem.Str × Addr))) = pure (closL env names acc) := by
    intro names
    induction names with
    | nil => intro acc _; rfl
    | cons y names ih =>
      intro acc hy
      obtain ⟨n, k⟩ := y
      rw [List.forIn_cons, closL]
      have ih' := fun acc => ih acc fun y hm => hy y (List.mem_cons_of_mem _ hm)
      by_cases hk : (k == NameKind.free) = true
      · obtain ⟨c, hc⟩ := hy (n, k) List.mem_cons_self (by simpa using hk)
        have e : cellOf env n = pure c := by unfold cellOf; rw [show env.cells.lookup n = some c from hc]
        dsimp only
        rw [if_pos hk, if_pos hk, e, show (env.cells.lookup n).getD 0 = c by rw [show env.cells.lookup n = some c from hc]; rfl]
        exact ih' _
      · dsimp only
        rw [if_neg hk, if_neg hk]
        exact ih' _
  rw [key sc.names [] h]
  rfl
theorem closL_mem {env : Env} : ∀ {names : List (PySem.Str × NameKind)} {acc : List (PySem.Str × Addr)} {x : PySem.Str} {c : Addr}, (x, c) ∈ closL env names acc → (x, c) ∈ acc ∨ ((x, NameKind.free) ∈ names ∧ c = (env.cells.lookup x).getD 0) := by
  intro names
  induction names with
  | nil => intro acc x c h; exact .inl h
  | cons y names ih =>
    intro acc x c h
    obtain ⟨n, k⟩ := y
    rw [closL] at h
    split at h
    · rename_i hk
      rcases ih h with h | ⟨h1, h2⟩
      · rcases List.mem_cons.mp h with h | h
        · cases h; exact .inr ⟨by rw [show k = .free by simpa using hk]; exact List.mem_cons_self, rfl⟩
        · exact .inl h
      · exact .inr ⟨List.mem_cons_of_mem _ h1, h2⟩
    · rcases ih h with h | ⟨h1, h2⟩
      · exact .inl h
      · exact .inr ⟨List.mem_cons_of_mem _ h1, h2⟩
theorem closL_has {env : Env} : ∀ {names : List (PySem.Str × NameKind)} {acc : List (PySem.Str × Addr)} {x : PySem.Str}, ((x, NameKind.free) ∈ names ∨ ∃ c, (x, c) ∈ acc) → ∃ c, (x, c) ∈ closL env names acc := by
  intro names
  induction names with
  | nil => intro acc x h; rcases h with h | h; cases h; exact h
  | cons y names ih =>
    intro acc x h
    obtain ⟨n, k⟩ := y
    rw [closL]
    by_cases hk : (k == NameKind.free) = true
    · rw [if_pos hk]
      refine ih ?_
      rcases h with h | ⟨c, h⟩
      · rcases List.mem_cons.mp h with h | h
        · cases h; exact .inr ⟨_, List.mem_cons_self⟩
        · exact .inl h
      · exact .inr ⟨c, List.mem_cons_of_mem _ h⟩
    · rw [if_neg hk]
      refine ih ?_
      rcases h with h | h
      · rcases List.mem_cons.mp h with h | h
        · cases h; exact absurd rfl hk
        · exact .inl h
      · exact .inr h
theorem closL_names {env : Env} : ∀ (names : List (PySem.Str × NameKind)) (acc : List (PySem.Str × Addr)), (closL env names acc).map (·.1) = ((names.filter (·.2 == .free)).map (·.1)).reverse ++ acc.map (·.1) := by
  intro names
  induction names with
  | nil => intro acc; simp [closL]
  | cons y names ih =>
    intro acc
    obtain ⟨n, k⟩ := y
    rw [closL]
    by_cases hk : (k == NameKind.free) = true
    · rw [if_pos hk, ih]; simp [hk]
    · rw [if_neg hk, ih]; simp [hk]

section
variable {prog : Program} {w : World} {A : Around} {R : Result → Shared → Prop} {s : Shared}
theorem comp_loop {elt target iter : Expr} {ifs : List Expr} {scope : Scope} {pos : Pos} {it acc : Value} {env : Env} (I : Nat → Shared → Prop)
    (turn : ∀ n s, I n s → wpAny (model prog w) A (pyNext it) (fun r s₁ => match r with
      | none => R (.ok .next) s₁
      | some v => wpAny (model prog w) A (letOwnedTupleGo target it v) (fun _ s₁' => wpAny (model prog w) A (assign target env v) (fun _ s₂ =>
          wpAny (model prog w) A (forIn ifs true fun c r => if r = true then do let ok ← isTrue c env (eval c env); pure (ForInStep.yield ok) else pure (ForInStep.yield r)) (fun ok s₃ =>
            if ok = true then wpAny (model prog w) A (eval elt env) (fun x s₄ => wpAny (model prog w) A (call (.builtin "list.append") [acc, x]) (fun _ s₅ => ∃ m, m < n ∧ I m s₅) NoE s₄) NoE s₃
            else ∃ m, m < n ∧ I m s₃) NoE s₂) NoE s₁') NoE s₁) NoE s)
    (n : Nat) (h : I n s) : codeAny (model prog w) A (.compLoop (.ListComp elt [⟨target, iter, ifs, 0⟩] scope pos) 0 it acc env) R s := by
  have el : ∀ {α : Type} {t : Sem α} {Q : α → Shared → Prop} {s : Shared} {E : Value → Shared → Prop}, wpAny (model prog w) A t Q NoE s → wpAny (model prog w) A t Q E s := fun h => wpAny_mono h (fun _ _ x => x) fun _ _ x => x.elim
  refine codeAny_loop rfl I (fun n s hI => ?_) n h
  show wpAny _ A ((compTurn (.ListComp elt [⟨target, iter, ifs, 0⟩] scope pos) 0 it acc env).onRaise (fun x => do noteFrame x env; theTreesLotGoes x)) _ _ s
  refine wpAny_noted ?_
  rw [compTurn_list]
  refine wpAny_bind (wpAny_standAt (wpAny_bind (el (wpAny_mono (turn n s hI) (fun r s₁ h₁ => ?_) fun _ _ x => x))))
  cases r with
  | none => exact wpAny_pure h₁
  | some v =>
    refine wpAny_bind (el (wpAny_mono h₁ (fun _ s₁' h₁' => ?_) fun _ _ x => x))
    refine wpAny_bind (el (wpAny_mono h₁' (fun _ s₂ h₂ => ?_) fun _ _ x => x))
    refine wpAny_bind (el (wpAny_mono h₂ (fun ok s₃ h₃ => ?_) fun _ _ x => x))
    cases ok with
    | false => exact wpAny_pure ⟨rfl, h₃⟩
    | true =>
      exact wpAny_bind (wpAny_bind (el (wpAny_mono h₃ (fun x s₄ h₄ => wpAny_bind (el (wpAny_mono h₄ (fun _ s₅ h₅ => wpAny_pure (wpAny_pure ⟨rfl, h₅⟩)) fun _ _ x => x))) fun _ _ x => x)))
end

inductive Tes {W : Wd} {S : Sig} (F : FI W S) (ρ : List Sl) : List Expr → Bool → Prop
  | nil : Tes F ρ [] true
  | one {e : Expr} {b : Bool} : Te F ρ e b → Tes F ρ [e] b
theorem Tes.then {W : Wd} {S : Sig} {F : FI W S} {ρ : List Sl} {es : List Expr} {b : Bool} (h₁ : Tes F ρ es b) {G : Fz} {s : Shared} {Q : Bool → Shared → Prop} (X : St F ρ G s.heap) (h0 : 0 < s.toks)
    (h : ∀ h' tk G', s.toks ≤ tk → Kp s.heap h' → Gx s.heap G G' → St F ρ G' h' → 0 < tk → Q b { s with heap := h', toks := tk }) :
    wpAny W.M F.A (forIn es true fun c r => if r = true then do let ok ← isTrue c F.env (eval c F.env); pure (ForInStep.yield ok) else pure (ForInStep.yield r)) Q NoE s := by
  cases h₁ with
  | nil => exact wpAny_tests_nil (h s.heap s.toks G (Nat.le_refl _) (Kp.refl _) (Gx.refl _ _) X h0)
  | one h₁ => exact wpAny_tests_one (h₁.then X h0 h)
end Mine

end

section
namespace Mine
open PySem PySem.Calls PyProof.Rows PySem.W Builtin Builtin.Str
section
variable {W : Wd} {S S' : Sig} {F : FI W S} {ρ : List Sl}

theorem lookup_of_mem : ∀ {l : List (PySem.Str × Addr)} {x : PySem.Str} {c : Addr}, (x, c) ∈ l → ∃ c', l.lookup x = some c'
  | (y, d) :: l, x, c, h => by
    by_cases e : x = y
    · subst e; exact ⟨d, by simp⟩
    · obtain ⟨c', h'⟩ := lookup_of_mem ((List.mem_cons.mp h).resolve_left fun q => e (by cases q; rfl))
      refine ⟨c', ?_⟩
      rw [List.lookup_cons, show (x == y) = false by simpa using e]
      exact h'
/-- the comprehension's names at its start -/
def Taken (S S' : Sig) (ρ ρ₀ : List Sl) : Prop :=
  ∀ (j : Nat) x sl, S'.xs[j]? = some x → ρ₀[j]? = some sl → sl = .no ∨ (S'.ks[j]? = some .cell ∧ ∃ (k : Nat) (d : D), S.xs[k]? = some x ∧ S.ks[k]? = some .cell ∧ ρ[k]? = some (.val d) ∧ sl = .val d)

theorem comp_core {elt target iter : Expr} {ifs : List Expr} {scope : Scope} {pos p₀ : Pos} {d : D} {items : List D} {c : D → Bool} {g : D → D} {ρ₀ : List Sl} {use : Option (Value → Sem Unit)} {Q : Value → Shared → Prop}
    (hsc : S'.sc = relab scope S.sc) (hok : compOk scope S.xs S.ks = true) (hfn : S.sc.kind = .function) (hcl' : ∀ (j : Nat) x, S'.xs[j]? = some x → S'.ks[j]? = some .cell → (x, NameKind.free) ∈ scope.names)
    (h : Ev F ρ iter d) (hit : Itr W d items) (hz : items.length ≤ 1048576) (htk : Taken S S' ρ ρ₀)
    (turn : ∀ F' : FI W S', F'.lv = F.lv → ∀ (i : Nat) d, items[i]? = some d → ∃ ρ₁, Asg F' target ρ₀ d ρ₁ ∧ (∀ G h, St F' ρ₁ G h → St F' ρ₀ G h) ∧ Tes F' ρ₁ ifs (c d) ∧ (c d = true → Ev F' ρ₁ elt (g d)))
    {G : Fz} {s : Shared} (X : St F ρ G s.heap) (h0 : 0 < s.toks)
    (fin : ∀ Da C vs n h' tk G' m', s.toks ≤ tk → Kp s.heap h' → Gx s.heap G G' → Sub G' h' → h'.get? Da = some { cls := .type "list", data := .seq vs.toArray n } → s.heap.get? Da = none → (∀ o, ¬ G' Da o) → RepAll W.P G' vs ((items.filter c).map g) →
      h'.Ns C m' → s.heap.get? C = none → C ≠ Da → (∀ o, ¬ G' C o) → compPost W.M F.A NoE use Q (.ref Da) C (.ok .next) { s with heap := h', toks := tk })
    (hs : ∀ env x, foldedSetIterable iter env x = pure x) :
    wpAny W.M F.A (comprehension (.ListComp elt [⟨target, iter, ifs, 0⟩] scope pos) scope F.env p₀ (newList []) false (eval iter F.env) use) Q NoE s := by
  simp only [compOk, Bool.and_eq_true, beq_iff_eq, List.all_eq_true, bne_iff_ne, Bool.or_eq_true, decide_eq_true_eq] at hok
  obtain ⟨⟨⟨⟨ok1, ok2⟩, ok3⟩, ok4⟩, ok5⟩ := hok
  have hfr : ∀ y ∈ scope.names, y.2 = .free → ∃ c, F.env.cells.lookup y.1 = some c := by
    intro y hy hf
    have hm : (y.1, NameKind.cell) ∈ S.xs.zip S.ks := by
      rcases ok4 y hy with q | q
      · exact absurd hf q
      · simpa using q
    obtain ⟨k, hk⟩ := List.getElem?_of_mem hm
    rw [List.getElem?_zip_eq_some] at hk
    exact F.cells k y.1 hk.1 hk.2
  have hmemC : ∀ x c, (x, c) ∈ closL F.env scope.names [] → F.env.cells.lookup x = some c := by
    intro x c hm
    rcases closL_mem hm with hm | ⟨hm, hc⟩
    · cases hm
    · obtain ⟨c', hc'⟩ := hfr _ hm rfl
      have : F.env.cells.lookup x = some c' := hc'
      rw [this] at hc; rw [this, hc]; rfl
  refine wpAny_comprehension_free (e := .ListComp elt [⟨target, iter, ifs, 0⟩] scope pos) (use := use) rfl (hs _) (closureFor_some hfr) ok1 (fun x hx hl => by rcases ok3 x hx with q | q; exact absurd hl q; exact q) ?_
  refine h.then X h0 fun v h₁ tk₁ G₁ ht₁ k₁ g₁ X₁ r₁ h0₁ => ?_
  refine hit F.A G₁ { s with heap := h₁, toks := tk₁ } v _ F.room0 X₁.sub r₁ fun It fp wr Pt Sx h₂ k₂ IT st₂ hwr => ?_
  refine wpAny_newObj_type (wpAny_newFunctionEnv (fun x hx => ok2 x hx) (by intro y hy; simp at hy) (fun h₄ hns₄ hsb₄ => ?_) ok1)
  dsimp only at hns₄ hsb₄ ⊢
  generalize hH3 : h₂.push { cls := .type "list", dict := none, data := .seq ([] : List Value).toArray } = h₃ at hns₄ hsb₄ ⊢
  generalize hDa : h₂.objs.size = Da
  generalize hCC : h₃.objs.size = C at hns₄ hsb₄ ⊢
  have k₃ : Kp h₂ h₃ := by rw [← hH3]; exact Kp.push _ _
  have hCsz : C = Da + 1 := by rw [← hCC, ← hH3, Heap.size_push, hDa]
  have hDC : C ≠ Da := by omega
  have k₄ : Kp h₃ h₄ := fun b o e => hsb₄.extBut b o (by rw [← hCC]; exact Nat.ne_of_lt (Heap.lt_size e)) (Heap.get?_push_of_some _ e)
  have hD₄ : h₄.get? Da = some { cls := .type "list", data := .seq ([] : List Value).toArray } := k₄ _ _ (by rw [← hH3, ← hDa]; exact Heap.get?_push_size _ rfl)
  have nD₂ : h₂.get? Da = none := by rw [← hDa]; exact size_none _
  have nC₂ : h₂.get? C = none := fresh_none _ (by omega)
  have k₁₄ : Kp h₁ h₄ := k₂.trans (k₃.trans k₄)
  have nD₁ : h₁.get? Da = none := k₂.none nD₂
  have nC₁ : h₁.get? C = none := k₂.none nC₂
  obtain ⟨ml, m, own, Y⟩ := X₁
  -- the comprehension's frame
  let F' : FI W S' := {
    env := compEnvC scope (closL F.env scope.names []) C F.env, A := F.A, h₀ := h₁, G₀ := G₁, own := false, lv := F.lv, room := F.room
    sc := by show relabel scope F.env = S'.sc; rw [hsc, relabel_eq, F.sc]
    hg := F.hg, hb := F.hb, top := F.top.keeps Y.keep, newL := nC₁, newC := fun q => by cases q
    apart := by
      have nd : ((closL F.env scope.names []).map (·.1)).Nodup := by rw [closL_names]; simpa using ((List.reverse_perm _).nodup_iff.mpr ok5)
      have : ∀ l : List (PySem.Str × Addr), (∀ x c, (x, c) ∈ l → F.env.cells.lookup x = some c) → (l.map (·.1)).Nodup → l.Pairwise fun x y => x.2 ≠ y.2 := by
        intro l
        induction l with
        | nil => intro _ _; exact .nil
        | cons y l ih =>
          intro h1 h2
          obtain ⟨n1, n2⟩ := List.nodup_cons.mp h2
          refine .cons (fun z hz e => n1 ?_) (ih (fun x c hm => h1 x c (List.mem_cons_of_mem _ hm)) n2)
          have a1 := mem_of_lookup (h1 y.1 y.2 List.mem_cons_self)
          have a2 := mem_of_lookup (h1 z.1 z.2 (List.mem_cons_of_mem _ hz))
          have := name_of_addr F.apart a1 (e ▸ a2)
          show y.1 ∈ _
          rw [this]; exact List.mem_map.mpr ⟨z, hz, rfl⟩
      exact this _ hmemC nd
    apL := fun x c hm e => by
      obtain ⟨o, q⟩ := Y.cl x c (mem_of_lookup (hmemC x c hm))
      have e' : c = C := e
      rw [e', nC₁] at q; cases q
    cells := fun j x hx hk => by
      obtain ⟨c, hc⟩ := closL_has (env := F.env) (acc := []) (.inl (hcl' j x hx hk))
      exact lookup_of_mem hc }
  have Z₀ : StM F' ρ₀ G₁ h₄ (fun _ => none) (fun x => if F'.env.kindOf x = some .local then none else m x) (fun _ => 0) := by
    refine { keep := k₁₄, sub := fun a o e => k₁₄ _ _ (Y.sub a o e), ext := Gx.refl _ _, ns := hns₄, loc := fun x hx => if_pos hx, cel := fun x c hx hc => ?_, cl := fun x c hm => ?_, nL := fun o q => ?_, nC := fun x c hm o q => ?_, slots := fun j x sl hx hsl => ?_,
             mApart := fun j j' sl sl' _ h1 _ h2 _ q _ => ?_, mL := fun j sl h1 h2 q => ?_ }
    · have hne : F'.env.kindOf x ≠ some .local := by rw [hx]; intro e; cases e
      rw [if_neg hne]
      have hm := mem_of_lookup hc
      have hl := hmemC x c hm
      have hkx : F.env.kindOf x = some .cell := by
        rcases closL_mem hm with hm | ⟨hm, _⟩
        · cases hm
        · have hz' : (x, NameKind.cell) ∈ S.xs.zip S.ks := by
            rcases ok4 _ hm with q | q
            · exact absurd rfl q
            · simpa using q
          obtain ⟨k, hk⟩ := List.getElem?_of_mem hz'
          rw [List.getElem?_zip_eq_some] at hk
          exact F.kindOf hk.1 hk.2
      exact (Y.cel x c hkx hl).keeps k₁₄
    · obtain ⟨o, e⟩ := Y.cl x c (mem_of_lookup (hmemC x c hm)); exact ⟨o, k₁₄ _ _ e⟩
    · have := Y.sub _ _ q
      exact absurd (this.symm.trans nC₁) (by simp)
    · exact Y.nC x c (mem_of_lookup (hmemC x c hm)) o q
    · rcases htk j x sl hx hsl with rfl | ⟨hcj, k, dd, hk1, hk2, hk3, rfl⟩
      · trivial
      · obtain ⟨u, e, r⟩ := Y.slots k x _ hk1 hk3
        have hne : F'.env.kindOf x ≠ some .local := by rw [F'.kindOf hx hcj]; intro e; cases e
        exact ⟨u, by rw [if_neg hne]; exact e, r⟩
    · obtain ⟨y, hy⟩ : ∃ y, S'.xs[j]? = some y := ⟨_, List.getElem?_eq_getElem h1⟩
      rcases htk j y sl hy h2 with rfl | ⟨_, _, _, _, _, _, rfl⟩ <;> exact q.elim
    · obtain ⟨y, hy⟩ : ∃ y, S'.xs[j]? = some y := ⟨_, List.getElem?_eq_getElem h1⟩
      rcases htk j y sl hy h2 with rfl | ⟨_, _, _, _, _, _, rfl⟩ <;> exact q.elim
  have W₀ := IT.walks
  have noLst : ∀ (j : Nat) sl, j < S'.xs.length → ρ₀[j]? = some sl → ¬ sl.isLst := fun j sl h1 h2 q => by
    obtain ⟨y, hy⟩ : ∃ y, S'.xs[j]? = some y := ⟨_, List.getElem?_eq_getElem h1⟩
    rcases htk j y sl hy h2 with rfl | ⟨_, _, _, _, _, _, rfl⟩ <;> exact q.elim
  have wrLive : ∀ b ∈ wr, ∃ o, h₂.get? b = some o := fun b hb => IT.live 0 h₂ st₂ b (W₀.sub b hb)
  have fpLive : ∀ b ∈ fp, ∃ o, h₂.get? b = some o := fun b hb => IT.live 0 h₂ st₂ b hb
  have fpC : ∀ b ∈ fp, b ≠ C := by rintro b hb rfl; obtain ⟨o, e⟩ := fpLive _ hb; exact absurd (e.symm.trans nC₂) (by simp)
  have fpD : ∀ b ∈ fp, b ≠ Da := by rintro b hb rfl; obtain ⟨o, e⟩ := fpLive _ hb; exact absurd (e.symm.trans nD₂) (by simp)
  have cellNe : ∀ x c, (x, c) ∈ closL F.env scope.names [] → ∃ o, h₁.get? c = some o := fun x c hm => Y.cl x c (mem_of_lookup (hmemC x c hm))
  have apWr : ∀ {G' : Fz} {own' : Nat → Addr}, (∀ b ∈ wr, ∀ o, ¬ G' b o) → ∀ b ∈ wr, Apart F' ρ₀ G' own' b := by
    intro G' own' hG' b hb
    refine ⟨fpC b (W₀.sub b hb), ?_, hG' b hb, fun k sl hk hsl q => absurd q (noLst k sl hk hsl), hwr b hb⟩
    rintro x c hm rfl
    obtain ⟨o, e⟩ := cellNe x _ hm
    exact absurd (e.symm.trans (hwr _ hb)) (by simp)
  have apD : ∀ {G' : Fz} {own' : Nat → Addr}, (∀ o, ¬ G' Da o) → ∀ b ∈ [Da], Apart F' ρ₀ G' own' b := by
    intro G' own' hG' b hb
    have : b = Da := by simpa using hb
    subst this
    refine ⟨Ne.symm hDC, ?_, hG', fun k sl hk hsl q => absurd q (noLst k sl hk hsl), nD₁⟩
    rintro x c hm rfl
    obtain ⟨o, e⟩ := cellNe x _ hm
    exact absurd (e.symm.trans nD₁) (by simp)
  have live_no : ∀ {h : Heap} {G' G'' : Fz} {b : Addr} {o : Obj}, h.get? b = some o → Gx h G' G'' → (∀ o, ¬ G' b o) → ∀ o, ¬ G'' b o := by
    intro h G' G'' b o e gx hn o' q
    rcases gx.new _ _ q with q | q
    · exact hn _ q
    · exact absurd (e.symm.trans q) (by simp)
  -- the turns
  have loop : ∀ s₅ : Shared, s₅ = { s with heap := h₄, toks := tk₁ + ([] : List (PySem.Str × Value)).length } → codeAny W.M F.A (.compLoop (.ListComp elt [⟨target, iter, ifs, 0⟩] scope pos) 0 (.ref It) (.ref Da) (compEnvC scope (closL F.env scope.names []) C F.env)) (compPost W.M F.A NoE use Q (.ref Da) C) s₅ := by
    rintro s₅ rfl
    refine comp_loop (fun n s' => ∃ i h' tk G' vs nn, s' = { s with heap := h', toks := tk } ∧ n = items.length + 1 - i ∧ i ≤ items.length ∧ s.toks ≤ tk ∧ St F' ρ₀ G' h' ∧ Gx h₁ G₁ G' ∧ Sx i h' ∧ h'.get? Da = some { cls := .type "list", data := .seq vs.toArray nn } ∧ (∀ o, ¬ G' Da o) ∧
      (∀ b ∈ wr, ∀ o, ¬ G' b o) ∧ RepAll W.P G' vs (((items.take i).filter c).map g)) ?_ (items.length + 1) ?_
    · rintro n s' ⟨i, h', tk, G', vs, nn, rfl, hn, hi, ht, ⟨mlZ, mZ, ownZ, Z⟩, hG, st, hD, nGD, nGw, rr⟩
      by_cases hlt : i < items.length
      · refine wpAny_with_toks (n := tk) (Nat.le_refl _) (W₀.item i _ _ _ hlt st fun v h₅ tk₅ hPv st₅ hk₅ ht₅ => ?_)
        obtain ⟨dd, hdd, rv⟩ := IT.rep i v hPv
        have Z₅ := Z.keepsBut (apWr nGw) hk₅
        have hD₅ : h₅.get? Da = some { cls := .type "list", data := .seq vs.toArray nn } := hk₅ _ _ (fun q => fpD _ (W₀.sub _ q) rfl) hD
        refine wpAny_mono (IT.lot (i + 1) { s with heap := h₅, toks := tk₅ } target v _ st₅ ?_) (fun _ _ x => x) fun _ _ x => x.elim
        have keep₀ : Kp h₁ (hideAll h₅ [C]) := fun b o e => hideAll_get _ (Z₅.keep b o e) fun hm => by
          have : b = C := by simpa using hm
          rw [this, nC₁] at e; cases e
        let F'' : FI W S' := { F' with h₀ := hideAll h₅ [C], G₀ := G', top := F'.top.keeps keep₀, newL := hideAll_none _ (.head _), newC := fun q => by cases q }
        have Z₆ : StM F'' ρ₀ G' h₅ mlZ mZ ownZ := {
          keep := fun b o e => of_hideAll _ e, sub := Z₅.sub, ext := Gx.refl _ _, ns := Z₅.ns, loc := Z₅.loc, cel := Z₅.cel, cl := Z₅.cl, nL := Z₅.nL, nC := Z₅.nC, slots := Z₅.slots, mApart := Z₅.mApart
          mL := fun k sl hk hsl q => absurd q (noLst k sl hk hsl) }
        have back : ∀ {G₂ : Fz} {h₂ : Heap}, St F'' ρ₀ G₂ h₂ → St F' ρ₀ G₂ h₂ := by
          rintro G₂ h₂ ⟨a1, a2, a3, B⟩
          exact ⟨a1, a2, a3, { keep := keep₀.trans B.keep, sub := B.sub, ext := hG.trans keep₀ B.ext, ns := B.ns, loc := B.loc, cel := B.cel, cl := B.cl, nL := B.nL, nC := B.nC, slots := B.slots, mApart := B.mApart, mL := fun k sl hk hsl q => absurd q (noLst k sl hk hsl) }⟩
        obtain ⟨ρ₁, hasg, hbk, htes, helt⟩ := turn F'' rfl i dd hdd
        refine hasg G' { s with heap := h₅, toks := tk₅ } v _ ⟨_, _, _, Z₆⟩ (rv.mono hG.sub) fun h₆ tk₆ ht₆ X₆ => ?_
        have k₅₆ : Kp (hideAll h₅ [C]) h₆ := X₆.keep
        have hD₆ : h₆.get? Da = some { cls := .type "list", data := .seq vs.toArray nn } := k₅₆ _ _ (hideAll_get _ hD₅ (by simpa using Ne.symm hDC))
        have wr₆ : ∀ b ∈ wr, ∃ o, h₆.get? b = some o := fun b hb => by
          obtain ⟨o, e⟩ := IT.live (i + 1) h₅ st₅ b (W₀.sub b hb)
          exact ⟨o, k₅₆ _ _ (hideAll_get _ e (by simpa using fpC b (W₀.sub b hb)))⟩
        have st₆ : Sx (i + 1) h₆ := W₀.frame _ _ _ st₅ fun b hb o e => k₅₆ _ _ (hideAll_get _ e (by simpa using fpC b hb))
        have h0₆ : 0 < tk₆ := by have a1 : tk₅ ≤ tk₆ := ht₆; have a2 : tk ≤ tk₅ := ht₅; omega
        refine htes.then (s := { s with heap := h₆, toks := tk₆ }) X₆ h0₆ fun h₇ tk₇ G₇ ht₇ k₇ g₇ X₇ h0₇ => ?_
        have tot₇ : s.toks ≤ tk₇ := by have a1 : tk₅ ≤ tk₆ := ht₆; have a2 : tk ≤ tk₅ := ht₅; have a3 : tk₆ ≤ tk₇ := ht₇; omega
        have nGD₇ := live_no hD₆ g₇ nGD
        have nGw₇ : ∀ b ∈ wr, ∀ o, ¬ G₇ b o := fun b hb => by obtain ⟨o, e⟩ := wr₆ b hb; exact live_no e g₇ (nGw b hb)
        have hG₇ : Gx h₁ G₁ G₇ := hG.trans (back (hbk _ _ X₆)).keep g₇
        have tk1 : items.take (i + 1) = items.take i ++ [dd] := by rw [List.take_add_one, hdd]; rfl
        cases hc : c dd with
        | false =>
          simp only [Bool.false_eq_true, if_false]
          refine ⟨items.length + 1 - (i + 1), by omega, i + 1, h₇, tk₇, G₇, vs, nn, rfl, rfl, by omega, tot₇, back (hbk _ _ X₇), hG₇, W₀.frame _ _ _ st₆ fun b hb o e => k₇ _ _ e, k₇ _ _ hD₆, nGD₇, nGw₇, ?_⟩
          rw [tk1, List.filter_append]
          simpa [hc] using rr.mono g₇.sub
        | true =>
          simp only [if_true]
          refine (helt hc).then (s := { s with heap := h₇, toks := tk₇ }) X₇ h0₇ fun u h₈ tk₈ G₈ ht₈ k₈ g₈ X₈ ru h0₈ => ?_
          have hD₈ := k₈ _ _ (k₇ _ _ hD₆)
          have lenvs : vs.length ≤ items.length := by rw [rr.length, List.length_map]; exact Nat.le_trans (List.length_filter_le _ _) (by simp; omega)
          refine wpAny_list_append_plain (s := { s with heap := h₈, toks := tk₈ }) (items := vs.toArray) ⟨nn, hD₈⟩ (fun h₉ hl₉ hs₉ => ?_) (by rw [List.size_toArray]; unfold sizeLine; omega)
          obtain ⟨n', hl₉⟩ := hl₉
          have nGD₈ := live_no (k₇ _ _ hD₆) g₈ nGD₇
          have nGw₈ : ∀ b ∈ wr, ∀ o, ¬ G₈ b o := fun b hb => by obtain ⟨o, e⟩ := wr₆ b hb; exact live_no (k₇ _ _ e) g₈ (nGw₇ b hb)
          obtain ⟨b1, b2, b3, B⟩ := back (hbk _ _ X₈)
          have B₉ := B.keepsBut (wr := [Da]) (apD nGD₈) (h' := h₉) fun b o hb e => hs₉.extBut b o (by simpa using hb) e
          refine ⟨items.length + 1 - (i + 1), by omega, i + 1, h₉, tk₈, G₈, vs ++ [u], n', rfl, rfl, by omega, by have a4 : tk₇ ≤ tk₈ := ht₈; omega, ⟨b1, b2, b3, B₉⟩, hG₇.trans (back (hbk _ _ X₇)).keep g₈, ?_, by rw [hl₉]; simp, nGD₈, nGw₈, ?_⟩
          · exact W₀.frame _ _ _ st₆ fun b hb o e => hs₉.extBut b o (fpD b hb) (k₈ _ _ (k₇ _ _ e))
          · rw [tk1, List.filter_append, List.map_append]
            refine ((rr.mono g₇.sub).mono g₈.sub).append ?_
            simpa [hc] using RepAll.cons ru .nil
      · have hin : i = items.length := by omega
        subst hin
        refine wpAny_with_toks (n := tk) (Nat.le_refl _) (W₀.done _ _ _ st fun h₅ tk₅ hk₅ ht₅ => ?_)
        have Z₅ := Z.keepsBut (apWr nGw) hk₅
        have hD₅ : h₅.get? Da = some { cls := .type "list", data := .seq vs.toArray nn } := hk₅ _ _ (fun q => fpD _ (W₀.sub _ q) rfl) hD
        rw [List.take_length] at rr
        exact fin Da C vs nn h₅ tk₅ G' mlZ (Nat.le_trans ht ht₅) (k₁.trans Z₅.keep) (g₁.trans k₁ hG) Z₅.sub hD₅ (k₁.none nD₁) nGD rr Z₅.ns (k₁.none nC₁) hDC Z₅.nL
    · exact ⟨0, h₄, tk₁, G₁, [], 0, rfl, rfl, Nat.zero_le _, ht₁, ⟨_, _, _, Z₀⟩, Gx.refl _ _, W₀.frame _ _ _ st₂ fun b hb o e => k₄ _ _ (k₃ _ _ e), hD₄, fun o q => absurd ((Y.sub _ _ q).symm.trans nD₁) (by simp),
        fun b hb o q => absurd ((Y.sub _ _ q).symm.trans (hwr b hb)) (by simp), .nil⟩
  exact codeAny_compStart_list (loop _ rfl) (W₀.self 0 _ _ _ (W₀.frame _ _ _ st₂ fun b hb o e => k₄ _ _ (k₃ _ _ e)) (loop _ rfl))
end
end Mine

end

section
namespace Mine
open PySem PySem.Calls PyProof.Rows PySem.W Builtin Builtin.Str

theorem swaps_scope {env : Env} {sc : Scope} (h : env.scope = sc) (v : Expr) (t : Option Expr) (line : Nat) : swapsWith v t line env = swapsWith v t line (envS sc) := by
  subst h; rfl
theorem swaps_ok {W : Wd} {S : Sig} (F : FI W S) {v : Expr} {t : Option Expr} {line : Nat} {b : Bool} (h : swapsWith v t line (envS S.sc) = pure b) : swapsWith v t line F.env = pure b := (swaps_scope F.sc v t line).trans h

section
variable {W : Wd} {S S' : Sig} {F : FI W S} {ρ : List Sl}

/-- what a comprehension's text must be, once for all -/
structure CompSig (S S' : Sig) (scope : Scope) : Prop where
  sc : S'.sc = relab scope S.sc
  ok : compOk scope S.xs S.ks = true
  cells : ∀ (j : Nat) x, S'.xs[j]? = some x → S'.ks[j]? = some .cell → (x, NameKind.free) ∈ scope.names
def compSigOk (S S' : Sig) (scope : Scope) : Bool := compOk scope S.xs S.ks && (S'.xs.zip S'.ks).all fun p => p.2 != .cell || scope.names.contains (p.1, .free)
theorem compSig_of {scope : Scope} (h1 : S'.sc = relab scope S.sc) (h2 : compSigOk S S' scope = true) : CompSig S S' scope := by
  simp only [compSigOk, Bool.and_eq_true] at h2
  refine ⟨h1, h2.1, fun j x hx hk => ?_⟩
  have := List.all_eq_true.mp h2.2 (x, NameKind.cell) (List.mem_of_getElem? (i := j) (by rw [List.getElem?_zip_eq_some]; exact ⟨hx, hk⟩))
  simpa using this

theorem evf_comp {elt target iter : Expr} {ifs : List Expr} {scope : Scope} {pos : Pos} {d : D} {items : List D} {c : D → Bool} {g : D → D} {ρ₀ : List Sl} (cs : CompSig S S' scope)
    (h : Ev F ρ iter d) (hit : Itr W d items) (hz : items.length ≤ 1048576) (htk : Taken S S' ρ ρ₀)
    (turn : ∀ F' : FI W S', F'.lv = F.lv → ∀ (i : Nat) d, items[i]? = some d → ∃ ρ₁, Asg F' target ρ₀ d ρ₁ ∧ (∀ G h, St F' ρ₁ G h → St F' ρ₀ G h) ∧ Tes F' ρ₁ ifs (c d) ∧ (c d = true → Ev F' ρ₁ elt (g d)))
    (hs : ∀ env x, foldedSetIterable iter env x = pure x) : EvF F ρ (.ListComp elt [⟨target, iter, ifs, 0⟩] scope pos) ((items.filter c).map g) := by
  refine .mk fun G s Q X h0 H => ?_
  rw [eval_ListComp]
  refine comp_core (use := none) cs.sc cs.ok S.fn cs.cells h hit hz htk turn X h0 (fun Da C vs n h' tk G' m' ht k gx sb hD nD nG rr hn nC hne nGC => ?_) hs
  refine ⟨m', hn, fun h'' hs'' => ?_⟩
  refine H Da vs n h'' tk G' ht (fun b o e => hs''.extBut b o (fun q => ?_) (k b o e)) gx (fun b o e => hs''.extBut b o (fun q => nGC o (q ▸ e)) (sb b o e)) (hs''.extBut _ _ (Ne.symm hne) hD) nD nG rr
  rw [q, nC] at e; cases e
theorem ev_comp {elt target iter : Expr} {ifs : List Expr} {scope : Scope} {pos : Pos} {d : D} {items : List D} {c : D → Bool} {g : D → D} {ρ₀ : List Sl} (cs : CompSig S S' scope)
    (h : Ev F ρ iter d) (hit : Itr W d items) (hz : items.length ≤ 1048576) (htk : Taken S S' ρ ρ₀)
    (turn : ∀ F' : FI W S', F'.lv = F.lv → ∀ (i : Nat) d, items[i]? = some d → ∃ ρ₁, Asg F' target ρ₀ d ρ₁ ∧ (∀ G h, St F' ρ₁ G h → St F' ρ₀ G h) ∧ Tes F' ρ₁ ifs (c d) ∧ (c d = true → Ev F' ρ₁ elt (g d)))
    (hs : ∀ env x, foldedSetIterable iter env x = pure x) : Ev F ρ (.ListComp elt [⟨target, iter, ifs, 0⟩] scope pos) (.list ((items.filter c).map g)) := (evf_comp cs h hit hz htk turn hs).ev

theorem StM.dead {G : Fz} {h h' : Heap} {ml m : PySem.Str → Option Value} {own : Nat → Addr} {C : Addr} (X : StM F ρ G h ml m own) (hC : Apart F ρ G own C) (hs : Heap.SameBut C h h') : StM F ρ G h' ml m own :=
  X.keepsBut (wr := [C]) (fun b hb => by have : b = C := by simpa using hb
                                         rw [this]; exact hC) fun b o hb e => hs.extBut b o (by simpa using hb) e

/-- «x = [.. for ..]» where the store comes ahead of the letting go -/
theorem ex_assign_comp {elt target iter : Expr} {ifs : List Expr} {scope : Scope} {pos spos py : Pos} {y : PySem.Str} {d : D} {items : List D} {c : D → Bool} {g : D → D} {ρ₀ : List Sl} (k : Nat) (cs : CompSig S S' scope)
    (h : Ev F ρ iter d) (hit : Itr W d items) (hz : items.length ≤ 1048576) (htk : Taken S S' ρ ρ₀)
    (turn : ∀ F' : FI W S', F'.lv = F.lv → ∀ (i : Nat) d, items[i]? = some d → ∃ ρ₁, Asg F' target ρ₀ d ρ₁ ∧ (∀ G h, St F' ρ₁ G h → St F' ρ₀ G h) ∧ Tes F' ρ₁ ifs (c d) ∧ (c d = true → Ev F' ρ₁ elt (g d)))
    (hs : ∀ env x, foldedSetIterable iter env x = pure x) (hx : S.xs[k]? = some y) (hk : S.ks[k]? = some .local)
    (hsw : swapsWith (.ListComp elt [⟨target, iter, ifs, 0⟩] scope pos) (some (.Name y py)) spos.line F.env = pure true) :
    Ex1 F ρ (.Assign [.Name y py] (.ListComp elt [⟨target, iter, ifs, 0⟩] scope pos) spos) (fun o => o = .next (ρ.set k (.lst ((items.filter c).map g)))) := by
  refine .mk fun G s Q X h0 H => ?_
  rw [exec_Assign_Name_used _ _ _ _ hsw]
  refine wpAny_bind (wpAny_standAt (wpAny_bind ?_))
  show wpAny _ F.A (do let _ ← comprehension (.ListComp elt [⟨target, iter, ifs, 0⟩] scope pos) scope F.env _ (newList []) false (eval iter F.env) (some (assign (.Name y py) F.env))) _ _ s
  refine wpAny_bind (wpAny_mono (comp_core (use := some (assign (.Name y py) F.env)) (Q := fun _ s' => Q .next s') cs.sc cs.ok S.fn cs.cells h hit hz htk turn X h0 (fun Da C vs n h' tk G' m' ht kp gx sb hD nD nG rr hn nC hne nGC => ?_) hs) (fun _ s' hq => wpAny_pure (wpAny_pure hq)) fun _ _ e => e)
  show wpAny _ F.A (assign (.Name y py) F.env (.ref Da)) _ _ _
  obtain ⟨ml, m, own, Y⟩ := X
  have Y' := Y.step kp gx sb
  have ap : ∀ b, s.heap.get? b = none → ∀ j t, j < S.xs.length → ρ[j]? = some t → t.isLst → own j ≠ b := by
    rintro b hb j t hj ht q rfl
    obtain ⟨z, hz⟩ : ∃ z, S.xs[j]? = some z := ⟨_, List.getElem?_eq_getElem hj⟩
    have := Y.slots j z t hz ht
    cases t with
    | lst ds => obtain ⟨_, ⟨_, _, e, _⟩, _⟩ := this; rw [hb] at e; cases e
    | _ => exact q
  have nL : ∀ b, s.heap.get? b = none → b ≠ F.env.locals := by rintro b hb rfl; obtain ⟨o, _, _, e, _⟩ := Y.ns; rw [hb] at e; cases e
  have nCc : ∀ b, s.heap.get? b = none → ∀ x c, (x, c) ∈ F.env.cells → b ≠ c := by rintro b hb x c hm rfl; obtain ⟨o, e⟩ := Y.cl x _ hm; rw [hb] at e; cases e
  have B : Brings F ρ G' h' own (.ref Da) k Da (.lst ((items.filter c).map g)) := ⟨⟨rfl, ⟨vs, n, hD, rr⟩, nG⟩, fun _ => ⟨nL Da nD, nCc Da nD, Y.keep.none nD, fun j t _ hj ht q => ap Da nD j t hj ht q⟩⟩
  refine assign_Name (wpAny_storeName_local (F.kindOf hx hk) Y'.ns (fun h₂ hn₂ hs₂ => ?_) (by rw [F.kind]; rfl))
  have Z := Y'.storeL hx hk B hn₂ hs₂
  refine ⟨m', hn.sameBut hs₂ (nL C nC), fun h₃ hs₃ => ?_⟩
  have apC : Apart F (ρ.set k (.lst ((items.filter c).map g))) G' (fun j => if j = k then Da else own j) C := by
    refine ⟨nL C nC, nCc C nC, nGC, fun j t hj ht q => ?_, Y.keep.none nC⟩
    rcases set_get ht with ⟨e1, e2⟩ | ⟨hj', ht'⟩
    · simp only [if_pos e1]; exact Ne.symm hne
    · simp only [if_neg hj']; exact ap C nC j t hj ht' q
  exact H .next h₃ _ G' (Nat.le_trans ht (Nat.le_succ _)) ⟨_, rfl, _, _, _, Z.dead apC hs₃⟩

/-- names of a comprehension forgotten at a turn's end -/
theorem back_name {k : Nat} {d : D} (hr : ρ[k]? = some .no) : ∀ G h, St F (ρ.set k (.val d)) G h → St F ρ G h := fun G h X => by
  have := X.forget (k := k)
  rw [List.set_set] at this
  have e : ρ.set k .no = ρ := by
    apply List.ext_getElem?
    intro j
    rw [List.getElem?_set]
    split
    · rename_i q; subst q
      split
      · exact hr.symm
      · rename_i q; rw [List.getElem?_eq_none (by omega)] at hr; cases hr
    · rfl
  rwa [e] at this
theorem back_two {k k' : Nat} {d d' : D} (hk : k ≠ k') (hr : ρ[k]? = some .no) (hr' : ρ[k']? = some .no) : ∀ G h, St F (setAll ρ [k, k'] [d, d']) G h → St F ρ G h := fun G h X => by
  have X1 : St F ((ρ.set k (.val d)).set k' (.val d')) G h := X
  have X2 : St F (ρ.set k (.val d)) G h := back_name (by rw [List.getElem?_set_ne hk]; exact hr') G h X1
  exact back_name hr G h X2
end
end Mine

end

section
namespace Mine
open PySem PySem.Calls PyProof.Rows PySem.W Builtin Builtin.Str PySem.SeqAt

theorem Hands.list {s : Shared} {G : Fz} {P : Params} {ds : List D} {Q : Value → Shared → Prop} (H : Hands s G P (.list ds) Q) (sb : Sub G s.heap) {vs : List Value} (r : RepAll P G vs ds) {tk : Nat} (ht : s.toks ≤ tk) :
    Q (.ref s.heap.objs.size) { s with heap := s.heap.push { cls := .type "list", data := .seq vs.toArray }, toks := tk } := by
  have q : (s.heap.push { cls := .type "list", data := .seq vs.toArray }).get? s.heap.objs.size = some { cls := .type "list", data := .seq vs.toArray } := Heap.get?_push_size _ rfl
  have sb' : Sub G (s.heap.push { cls := .type "list", data := .seq vs.toArray }) := fun a o e => Heap.get?_push_of_some _ (sb a o e)
  exact H _ _ tk (G.add s.heap.objs.size _) ht (Kp.push _ _) (Gx.add (size_none _)) (sb'.add q) (.list (.inr ⟨rfl, rfl⟩) (r.mono fun _ _ e => .inl e))

theorem rep_strs {P : Params} {G : Fz} : ∀ {vs : List Value} {ys : List PySem.Str}, RepAll P G vs (ys.map D.str) → ∃ l : List (PySem.Str × Tok), vs = strValues l ∧ l.map (·.1) = ys
  | [], [], _ => ⟨[], rfl, rfl⟩
  | v :: vs, y :: ys, h => by
    cases h with
    | cons a r =>
      cases a
      rename_i t
      obtain ⟨l, rfl, rfl⟩ := rep_strs r
      exact ⟨(y, t) :: l, rfl, rfl⟩
theorem rep_of_strs {P : Params} {G : Fz} : ∀ {l : List (PySem.Str × Tok)}, RepAll P G (strValues l) ((l.map (·.1)).map D.str)
  | [] => .nil
  | p :: l => .cons (.str p.1 p.2) rep_of_strs
theorem rep_carried {P : Params} {G : Fz} : ∀ {vs : List Value} {ys : List PySem.Str}, RepAll P G vs (ys.map D.str) → CarriedAll vs (ys.map PyData.str)
  | [], [], _ => .nil
  | v :: vs, y :: ys, h => by cases h with | cons a r => cases a; exact .cons (.str _ _) (rep_carried r)
theorem rep_strsAre {P : Params} {G : Fz} : ∀ {vs : List Value} {ys : List PySem.Str}, RepAll P G vs (ys.map D.str) → StrsAre vs ys
  | [], [], _ => .nil
  | v :: vs, y :: ys, h => by cases h with | cons a r => cases a; exact .cons _ _ (rep_strsAre r)
theorem rep_intItems {P : Params} {G : Fz} : ∀ {vs : List Value} {ns : List Int}, RepAll P G vs (ns.map D.int) → ∃ l : List (Int × Tok), vs.toArray = intItems l.toArray ∧ l.map (·.1) = ns
  | [], [], _ => ⟨[], by simp [intItems], rfl⟩
  | v :: vs, y :: ys, h => by
    cases h with
    | cons a r =>
      cases a
      rename_i t
      obtain ⟨l, e, rfl⟩ := rep_intItems r
      refine ⟨(y, t) :: l, ?_, rfl⟩
      have := congrArg Array.toList e
      simp [intItems] at this ⊢
      exact this

theorem range_all {xs ys : List PySem.Str} (h : xs.length = ys.length) : (List.range xs.length).all (fun j => xs[j]? == ys[j]?) = decide (xs = ys) := by
  by_cases e : xs = ys
  · subst e; simp
  · rw [decide_eq_false e, ← Bool.not_eq_true, List.all_eq_true]
    intro q
    refine e (List.ext_getElem? fun j => ?_)
    by_cases hj : j < xs.length
    · exact eq_of_beq (q j (List.mem_range.mpr hj))
    · rw [List.getElem?_eq_none (by omega), List.getElem?_eq_none (by omega)]
theorem strs_at {A : Around} {s : Shared} {l l' : List (PySem.Str × Tok)} (j : Nat) (h1 : j < (strValues l).toArray.size) (h2 : j < (strValues l').toArray.size) :
    EqAt A s (strValues l).toArray[j] (strValues l').toArray[j] ((l.map (·.1))[j]? == (l'.map (·.1))[j]?) := by
  have e1 : j < l.length := by simpa [strValues] using h1
  have e2 : j < l'.length := by simpa [strValues] using h2
  have a1 : (strValues l).toArray[j] = .str l[j].1 l[j].2 := by simp [strValues]
  have a2 : (strValues l').toArray[j] = .str l'[j].1 l'[j].2 := by simp [strValues]
  rw [a1, a2, List.getElem?_map, List.getElem?_map, List.getElem?_eq_getElem e1, List.getElem?_eq_getElem e2]
  exact EqAt.str_str _ _ _ _

section
variable {W : Wd}
theorem eq_ll {xs ys : List PySem.Str} : Op2 W (compareOp .Eq) (.list (xs.map D.str)) (.list (ys.map D.str)) (.bool (decide (xs = ys))) := fun A G s u v Q hr hT hs h0 r r' H => by
  cases r with
  | list g rr =>
    cases r' with
    | list g' rr' =>
      obtain ⟨l, rfl, rfl⟩ := rep_strs rr
      obtain ⟨l', rfl, rfl⟩ := rep_strs rr'
      have hu : A.units < cLine := hr.line
      have z1 : (strValues l).toArray.size = l.length := by simp [strValues]
      have z2 : (strValues l').toArray.size = l'.length := by simp [strValues]
      by_cases hz : l.length = l'.length
      · refine eq_listAt ⟨_, hs _ _ g, rfl, _, rfl⟩ ⟨_, hs _ _ g', rfl, _, rfl⟩ (z1.trans (hz.trans z2.symm)) hu (e := fun j => (l.map (·.1))[j]? == (l'.map (·.1))[j]?) (fun j h1 h2 => strs_at j h1 h2) ?_
        rw [z1, show l.length = (l.map (·.1)).length by simp, range_all (by simpa using hz)]
        exact H.here hs (Nat.le_refl _) (.bool _)
      · have hne : l.map (·.1) ≠ l'.map (·.1) := fun e => hz (by simpa using congrArg List.length e)
        rw [decide_eq_false hne] at H
        exact eq_list_lengthsAt ⟨_, hs _ _ g, rfl, _, rfl⟩ ⟨_, hs _ _ g', rfl, _, rfl⟩ (by rw [z1, z2]; simpa using hz) hu (H.here hs (Nat.le_refl _) (.bool _))
theorem ne_ll {xs ys : List PySem.Str} : Op2 W (compareOp .NotEq) (.list (xs.map D.str)) (.list (ys.map D.str)) (.bool (!decide (xs = ys))) := fun A G s u v Q hr hT hs h0 r r' H => by
  cases r with
  | list g rr =>
    cases r' with
    | list g' rr' =>
      obtain ⟨l, rfl, rfl⟩ := rep_strs rr
      obtain ⟨l', rfl, rfl⟩ := rep_strs rr'
      have hu : A.units < cLine := hr.line
      have z1 : (strValues l).toArray.size = l.length := by simp [strValues]
      have z2 : (strValues l').toArray.size = l'.length := by simp [strValues]
      by_cases hz : l.length = l'.length
      · refine RcNeAt.lists ⟨_, hs _ _ g, rfl, _, rfl⟩ ⟨_, hs _ _ g', rfl, _, rfl⟩ (z1.trans (hz.trans z2.symm)) hu (e := fun j => (l.map (·.1))[j]? == (l'.map (·.1))[j]?) (fun j h1 h2 => strs_at j h1 h2) _ _ _ _ ?_
        rw [z1, show l.length = (l.map (·.1)).length by simp, range_all (by simpa using hz)]
        exact H.here hs (Nat.le_refl _) (.bool _)
      · have hne : l.map (·.1) ≠ l'.map (·.1) := fun e => hz (by simpa using congrArg List.length e)
        rw [decide_eq_false hne] at H
        exact RcNeAt.lists_lengths ⟨_, hs _ _ g, rfl, _, rfl⟩ ⟨_, hs _ _ g', rfl, _, rfl⟩ (by rw [z1, z2]; simpa using hz) hu _ _ _ _ (H.here hs (Nat.le_refl _) (.bool _))
theorem in_sl {x : PySem.Str} {ys : List PySem.Str} : Op2 W (compareOp .In) (.str x) (.list (ys.map D.str)) (.bool (ys.any (· == x))) := fun A G s u v Q hr hT hs h0 r r' H => by
  cases r
  cases r' with
  | list g rr => exact in_list_strs ⟨_, hs _ _ g, rfl, _, rfl⟩ (rep_strsAre rr) (H.here hs (Nat.le_refl _) (.bool _))
theorem nin_sl {x : PySem.Str} {ys : List PySem.Str} : Op2 W (compareOp .NotIn) (.str x) (.list (ys.map D.str)) (.bool (!ys.any (· == x))) := fun A G s u v Q hr hT hs h0 r r' H => by
  cases r
  cases r' with
  | list g rr => exact notin_list_strs ⟨_, hs _ _ g, rfl, _, rfl⟩ (rep_strsAre rr) (H.here hs (Nat.le_refl _) (.bool _))
theorem nin_ss {a b : PySem.Str} : Op2 W (compareOp .NotIn) (.str a) (.str b) (.bool !(!(Builtin.Str.occurrences b a 0 b.length 1).isEmpty)) := fun _ _ _ _ _ _ _ _ hs _ r r' H => by
  cases r; cases r'; exact PyProof.Rows.notIn_str (H.here hs (Nat.le_refl _) (.bool _))
theorem le_ss {a b : PySem.Str} : Op2 W (compareOp .LtE) (.str a) (.str b) (.bool (!(decide (b.cps.toList < a.cps.toList)))) := fun _ _ _ _ _ _ _ _ hs _ r r' H => by
  cases r; cases r'; exact PySem.P.le_str (H.here hs (Nat.le_refl _) (.bool _))
theorem fdiv_ii {a b : Int} (hb : 0 < b) (hb' : b < 1073741824) : Op2 W (binaryOp .FloorDiv) (.int a) (.int b) (.int (a / b)) := fun _ _ _ _ _ _ _ _ hs _ r r' H => by
  cases r; cases r'
  refine PyProof.Rows.floordiv_int (by omega) ?_ (.inl (PyProof.noPylong_small (by omega)))
  rw [Int.fdiv_eq_ediv_of_nonneg _ (by omega)]
  exact H.here hs (Nat.le_succ _) (.int _ _)
theorem mul_ii {a b : Int} (ha : Builtin.Int.intBits a ≤ 64) : Op2 W (binaryOp .Mult) (.int a) (.int b) (.int (a * b)) := fun _ _ _ _ _ _ _ _ hs _ r r' H => by
  cases r; cases r'
  exact PyProof.Rows.mul_int (H.here hs (Nat.le_succ _) (.int _ _)) (IntMulOk.of_left ha)
theorem pow_ii {a b : Int} (hb : 0 ≤ b) (hz : (Builtin.Int.intBits a : Int) * b ≤ 2 ^ 27) : Op2 W (binaryOp .Pow) (.int a) (.int b) (.int (a ^ b.toNat)) := fun _ _ _ _ _ _ _ _ hs _ r r' H => by
  cases r; cases r'
  exact PyProof.Rows.pow_int hb hz (H.here hs (Nat.le_succ _) (.int _ _))
theorem mul_si {x : PySem.Str} {n : Int} (h : MulOk x n) : Op2 W (binaryOp .Mult) (.str x) (.int n) (.str (Txt.mul x n)) := fun _ _ s _ _ _ _ _ hs _ r r' H => by
  cases r; cases r'
  exact wpAny_with_toks (n := s.toks) (Nat.le_refl _) (SB.mul h fun t' k ht => H.here hs ht (.str _ _))
theorem iadd_ss {a b : PySem.Str} (hb : a.length + b.length ≤ 16777216) : Op2 W (inplaceOp .Add) (.str a) (.str b) (.str (a ++ b)) := fun _ _ s _ _ _ _ _ hs _ r r' H => by
  cases r; cases r'
  exact wpAny_with_toks (n := s.toks) (Nat.le_refl _) (PyProof.Rows.iadd_str (fun t' tk ht => H.here hs ht (.str _ _)) (by unfold sizeLine; exact hb))
theorem ne_bb {a b : Bool} : Op2 W (compareOp .NotEq) (.bool a) (.bool b) (.bool (a != b)) := fun A G s u v Q hr hT hs h0 r r' H => by
  cases r; cases r'
  exact PyProof.Rows.ne_bool (H.here hs (Nat.le_refl _) (.bool _))
theorem add_ll {xs ys : List D} (hz : xs.length + ys.length ≤ 16777216) : Op2 W (binaryOp .Add) (.list xs) (.list ys) (.list (xs ++ ys)) := fun A G s u v Q hr hT hs h0 r r' H => by
  cases r with
  | list g rr =>
    cases r' with
    | list g' rr' =>
      refine PySem.P.add_list (hs _ _ g) (hs _ _ g') ?_ (by rw [List.size_toArray, List.size_toArray, rr.length, rr'.length]; exact hz)
      have := H.list hs (rr.append rr') (Nat.le_refl _)
      simpa using this
theorem rep_rep {P : Params} {G : Fz} {vs : List Value} {ds : List D} (r : RepAll P G vs ds) : ∀ n : Nat, RepAll P G (List.replicate n vs).flatten (List.replicate n ds).flatten
  | 0 => .nil
  | n + 1 => by rw [List.replicate_succ, List.replicate_succ, List.flatten_cons, List.flatten_cons]; exact r.append (rep_rep r n)
theorem foldl_rep (vs : List Value) : ∀ (n : Nat) (acc : Array Value), List.foldl (fun x1 x2 => x1 ++ x2) acc (List.replicate n vs.toArray) = acc ++ (List.replicate n vs).flatten.toArray
  | 0, acc => by simp
  | n + 1, acc => by rw [List.replicate_succ, List.foldl_cons, foldl_rep vs n]; simp [List.replicate_succ]
theorem mul_li {xs : List D} {n : Int} (h0' : xs ≠ []) (hn : 0 ≤ n) (hn' : n < 2 ^ 63) (hz : xs.length * n.toNat ≤ 2 ^ 24) : Op2 W (binaryOp .Mult) (.list xs) (.int n) (.list (List.replicate n.toNat xs).flatten) := fun A G s u v Q hr hT hs h0 r r' H => by
  cases r with
  | list g rr =>
    cases r'
    rename_i l vs k u
    have hl := hs _ _ g
    have hne : vs.toArray.isEmpty = false := by
      cases vs with
      | nil => cases rr; exact absurd rfl h0'
      | cons v vs => rfl
    refine wpAny_binaryOp_repeat_ref (T := "list") (U := "int") (by decide) ⟨_, hl, rfl⟩ (fun s' => typeIs_int s' n u) noFill_list_mul PySem.F.fills_int_mul PySem.F.slot_int_rmul repeat_list PySem.F.slot_int_index.lookup
      (call_meets PySem.F.slot_int_rmul (typeIs_int s n u) PySem.F.entry_int_rmul (PySem.F.args_int_rmul_2 _ _) (int___rmul___int_list n u l vs.toArray k)
        ⟨hl, rfl, ⟨_, hl, rfl⟩, call_meets PySem.F.slot_list_mul ⟨_, hl, rfl⟩ PySem.F.entry_list_mul (PySem.F.args_list_mul_2 _ _)
          (AutoListH.list___mul___list_int_3 l vs.toArray k n u (by simp [Builtin.List.listFitsIndex]; omega) (by rw [List.size_toArray, rr.length]; omega) (by rw [Builtin.List.listTooLong, List.size_toArray, rr.length]; simp only [sizeLine]; simpa using hz))
          ⟨hl, ?_⟩⟩)
    rw [hne]
    have := H.list hs (rep_rep rr n.toNat) (Nat.le_refl _)
    rw [foldl_rep]
    simpa using this

/-- the item of a list -/
def itemD (ds : List D) (i : Int) : D := (if 0 ≤ i then ds[i.toNat]? else ds[(i + ds.length).toNat]?).getD .none
theorem item_l {ds : List D} {i : Int} (h1 : -(ds.length : Int) ≤ i) (h2 : i < ds.length) (hz : ds.length ≤ 16777216) : Op2 W getItem (.list ds) (.int i) (itemD ds i) := fun A G s u v Q hr hT hs h0 r r' H => by
  cases r with
  | list g rr =>
    cases r'
    rename_i l vs k u
    by_cases hi : 0 ≤ i
    · obtain ⟨d, hd⟩ : ∃ d, ds[i.toNat]? = some d := ⟨_, List.getElem?_eq_getElem (by omega)⟩
      obtain ⟨x, hx, rx⟩ := rr.get hd
      have e : itemD ds i = d := by unfold itemD; rw [if_pos hi, hd]; rfl
      rw [e] at H
      exact wpAny_getItem_list ⟨_, hs _ _ g, rfl, _, rfl⟩ hi (by omega) (by simpa using hx) (H.here hs (Nat.le_refl _) rx)
    · obtain ⟨d, hd⟩ : ∃ d, ds[(i + ds.length).toNat]? = some d := ⟨_, List.getElem?_eq_getElem (by omega)⟩
      obtain ⟨x, hx, rx⟩ := rr.get hd
      have e : itemD ds i = d := by unfold itemD; rw [if_neg hi, hd]; rfl
      rw [e] at H
      exact wpAny_getItem_list_neg ⟨_, hs _ _ g, rfl, _, rfl⟩ (by omega) (by rw [List.size_toArray, rr.length]; exact h1) (by omega) (by rw [List.size_toArray, rr.length]; simpa using hx) (H.here hs (Nat.le_refl _) rx)
/-- the sign of a text -/
def chAt (x : PySem.Str) (i : Int) : PySem.Str := ⟨#[(if 0 ≤ i then x.cps[i.toNat]? else x.cps[(i + x.length).toNat]?).getD 0]⟩
theorem item_s {x : PySem.Str} {i : Int} (h1 : -(x.length : Int) ≤ i) (h2 : i < x.length) (hz : x.length ≤ 16777216) : Op2 W getItem (.str x) (.int i) (.str (chAt x i)) := fun A G s u v Q hr hT hs h0 r r' H => by
  cases r; cases r'
  have hx : x.length = x.cps.size := rfl
  by_cases hi : 0 ≤ i
  · obtain ⟨c, hc⟩ : ∃ c, x.cps[i.toNat]? = some c := ⟨_, Array.getElem?_eq_getElem (by omega)⟩
    have e : chAt x i = ⟨#[c]⟩ := by unfold chAt; rw [if_pos hi, hc]; rfl
    rw [e] at H
    refine PyProof.Rows.getItem_str (c := c) (by simp; omega) ?_ (H.here hs (Nat.le_succ _) (.str _ _))
    have e' : seqIndex? i x.length = some i.toNat := by
      unfold seqIndex?
      simp only [show ¬ i < 0 by omega, if_false]
      rw [if_pos (by simp only [Bool.and_eq_true, decide_eq_true_eq]; omega)]
    rw [e']
    exact hc
  · obtain ⟨c, hc⟩ : ∃ c, x.cps[(i + x.length).toNat]? = some c := ⟨_, Array.getElem?_eq_getElem (by omega)⟩
    have e : chAt x i = ⟨#[c]⟩ := by unfold chAt; rw [if_neg hi, hc]; rfl
    rw [e] at H
    refine PyProof.Rows.getItem_str (c := c) (by simp; omega) ?_ (H.here hs (Nat.le_succ _) (.str _ _))
    rw [seqIndex_neg (by omega) h1]
    exact hc

/-- a slice of a list -/
def pickD (ds : List D) (lo hi st : Option Int) : List D := (sliceRange (sliceBounds lo hi st ds.length).1 (sliceBounds lo hi st ds.length).2.1 (sliceBounds lo hi st ds.length).2.2).filterMap (ds[·]?)
theorem rep_pick {P : Params} {G : Fz} {vs : List Value} {ds : List D} (r : RepAll P G vs ds) : ∀ l : List Nat, RepAll P G (l.filterMap (vs.toArray[·]?)) (l.filterMap (ds[·]?))
  | [] => .nil
  | i :: l => by
    rw [List.filterMap_cons, List.filterMap_cons]
    cases hd : ds[i]? with
    | none =>
      have : vs.toArray[i]? = none := by
        have : ds.length ≤ i := List.getElem?_eq_none_iff.mp hd
        rw [← r.length] at this
        simpa using this
      rw [this]
      exact rep_pick r l
    | some d =>
      obtain ⟨v, hv, rv⟩ := r.get hd
      have : vs.toArray[i]? = some v := by simpa using hv
      rw [this]
      exact .cons rv (rep_pick r l)
theorem slc_list {ds : List D} {lo hi st : Option Int} (h0 : st ≠ some 0) (hz : ds.length ≤ 16777216) : Slc W (.list ds) lo hi st (.list (pickD ds lo hi st)) := by
  intro A G s v a vl vu vs Q _ hs _ r ha pl pu ps H
  cases r with
  | list g rr =>
    rename_i l ws n
    have part : ∀ {o : Option Int} {v : Value}, PartIs o v → IsPart v o := fun h => by cases h with | none => exact .none | some => exact .int _ _
    refine wpAny_getItem_list_slice ⟨_, hs _ _ g, rfl, _, rfl⟩ ⟨_, ha, rfl, rfl⟩ (part pl) (part pu) (part ps) h0 ?_ (by rw [List.size_toArray, rr.length]; unfold sizeLine; exact hz)
    have := H.list hs (rep_pick rr (sliceRange (sliceBounds lo hi st ds.length).1 (sliceBounds lo hi st ds.length).2.1 (sliceBounds lo hi st ds.length).2.2)) (Nat.le_refl _)
    have e : ws.toArray.size = ds.length := by rw [List.size_toArray, rr.length]
    unfold slicePick
    rw [e]
    exact this
end
end Mine

end

section
namespace Mine
open PySem PySem.Calls PyProof.Rows PySem.W Builtin Builtin.Str

section
variable {W : Wd}
theorem Hands.strs {s : Shared} {G : Fz} {P : Params} {ys : List PySem.Str} {Q : Value → Shared → Prop} (H : Hands s G P (.list (ys.map D.str)) Q) (sb : Sub G s.heap) {l : List (PySem.Str × Tok)} (e : l.map (·.1) = ys) {tk : Nat} (ht : s.toks ≤ tk) :
    Q (.ref s.heap.objs.size) { s with heap := s.heap.push { cls := .type "list", data := .seq (strValues l).toArray }, toks := tk } := by
  subst e; exact H.list sb rep_of_strs ht
theorem cal_join {x : PySem.Str} {ys : List PySem.Str} (hok : JoinOk x ys = true) : Cal W 0 (.builtin "str.join") [.str x, .list (ys.map D.str)] (.str (Txt.join x ys)) := by
  intro A G s vs Q _ _ hs _ r H
  cases r with | cons r rs => cases rs with | cons r' rs =>
    cases rs; cases r
    cases r' with
    | list g rr =>
      obtain ⟨l, rfl, rfl⟩ := rep_strs rr
      exact wpAny_with_toks (n := s.toks) (Nat.le_refl _) (SC.join ⟨_, hs _ _ g, rfl, _, rfl⟩ rfl hok fun t' k ht => H.here hs ht (.str _ _))
theorem cal_split {x y : PySem.Str} (hy : (y.length == 0) = false) (hz : x.length + 2 ≤ 16777216) : Cal W 0 (.builtin "str.split") [.str x, .str y] (.list ((Txt.split x y).map D.str)) := by
  intro A G s vs Q _ _ hs _ r H
  cases r with | cons r rs => cases rs with | cons r' rs =>
    cases rs; cases r; cases r'
    rename_i t u
    have hn : (partsBetween x (occurrences x y 0 x.length (x.length + 1)) y.length).length ≤ sizeLine := by
      have e1 := StrLaws.occ_length_le x y 0 x.length (x.length + 1)
      rw [length_partsBetween]; unfold sizeLine; omega
    cases h1 : (decide (x.length < y.length) || decide (strKind x < strKind y))
    · cases hf : (occurrences x y 0 x.length (x.length + 1)).isEmpty
      · refine call_meets PySem.F.slot_str_split (typeIs_str _ _ _) PySem.F.entry_str_split (PySem.F.args_str_split_2 _ _) (meets_str_split_sep x y t u h1 hy hf (by unfold sizeLine; omega) hn) ?_
        show wants Q NoE _ { s with toks := _, heap := s.heap.push { cls := .type "list", data := .seq (strsFrom s.toks (partsBetween x (occurrences x y 0 x.length (x.length + 1)) y.length)).toArray } }
        rw [strsFrom_eq]
        exact H.strs hs (l := numbered s.toks _) ((numbered_texts _ _).trans ((if_neg (ne_true_of_eq_false h1)).trans (if_neg (ne_true_of_eq_false hf))).symm) (Nat.le_add_right _ _)
      · exact call_meets PySem.F.slot_str_split (typeIs_str _ _ _) PySem.F.entry_str_split (PySem.F.args_str_split_2 _ _) (meets_str_split_not_found x y t u h1 hy hf)
          (H.strs hs (l := [(x, t)]) ((if_neg (ne_true_of_eq_false h1)).trans (if_pos hf)).symm (Nat.le_refl _))
    · exact call_meets PySem.F.slot_str_split (typeIs_str _ _ _) PySem.F.entry_str_split (PySem.F.args_str_split_2 _ _) (meets_str_split_cannot_occur x y t u h1)
        (H.strs hs (l := [(x, t)]) (if_pos h1).symm (Nat.le_refl _))
theorem cal_split2 {x y : PySem.Str} {k : Int} (hy : (y.length == 0) = false) (hk : (decide (k < -(2 ^ 63 : Int)) || decide (k ≥ 2 ^ 63)) = false) (hz : x.length + 2 ≤ 16777216) : Cal W 0 (.builtin "str.split") [.str x, .str y, .int k] (.list ((Txt.splitMax x y k).map D.str)) := by
  intro A G s vs Q _ _ hs _ r H
  cases r with | cons r rs => cases rs with | cons r' rs => cases rs with | cons r'' rs =>
    cases rs; cases r; cases r'; cases r''
    rename_i t u v
    have hn : (partsBetween x (occurrences x y 0 x.length (limitOf x k)) y.length).length ≤ sizeLine := by
      have e1 := StrLaws.occ_length_le_len x y 0 x.length (limitOf x k)
      rw [length_partsBetween]; unfold sizeLine; omega
    cases h1 : (decide (x.length < y.length) || decide (strKind x < strKind y))
    · cases hf : (occurrences x y 0 x.length (limitOf x k)).isEmpty
      · refine call_meets PySem.F.slot_str_split (typeIs_str _ _ _) PySem.F.entry_str_split (PySem.F.args_str_split_3 _ _ _) (meets_str_split_sep_max x y k t u v hk h1 hy hf (by unfold sizeLine; omega) hn) ?_
        show wants Q NoE _ { s with toks := _, heap := s.heap.push { cls := .type "list", data := .seq (strsFrom s.toks (partsBetween x (occurrences x y 0 x.length (limitOf x k)) y.length)).toArray } }
        rw [strsFrom_eq]
        exact H.strs hs (l := numbered s.toks _) ((numbered_texts _ _).trans ((if_neg (ne_true_of_eq_false h1)).trans (if_neg (ne_true_of_eq_false hf))).symm) (Nat.le_add_right _ _)
      · exact call_meets PySem.F.slot_str_split (typeIs_str _ _ _) PySem.F.entry_str_split (PySem.F.args_str_split_3 _ _ _) (meets_str_split_max_not_found x y k t u v hk h1 hy hf)
          (H.strs hs (l := [(x, t)]) ((if_neg (ne_true_of_eq_false h1)).trans (if_pos hf)).symm (Nat.le_refl _))
    · exact call_meets PySem.F.slot_str_split (typeIs_str _ _ _) PySem.F.entry_str_split (PySem.F.args_str_split_3 _ _ _) (meets_str_split_max_cannot_occur x y k t u v hk h1)
        (H.strs hs (l := [(x, t)]) (if_pos h1).symm (Nat.le_refl _))
theorem cal_str_int {a : Int} (h : a.natAbs.log2 < 1920) : Cal W 0 (.type "str") [.int a] (.str (toString a)) := by
  intro A G s vs Q _ _ hs _ r H
  cases r with | cons r rs => cases rs; cases r; exact PySem.P.str_of_int h (H.here hs (Nat.le_succ _) (.str _ _))
theorem cal_len_list {ds : List D} (hz : ds.length ≤ 16777216) : Cal W 0 (.builtin "len") [.list ds] (.int ds.length) := by
  intro A G s vs Q _ _ hs _ r H
  cases r with | cons r rs =>
    cases rs
    cases r with
    | list g rr =>
      refine call_len_list ⟨_, hs _ _ g, rfl, _, rfl⟩ (by rw [List.size_toArray, rr.length]; omega) ?_
      rw [List.size_toArray, rr.length]
      exact H.here hs (Nat.le_add_right _ 2) (.int _ _)
theorem cal_chr {i : Int} (h1 : 0 ≤ i) (h2 : i ≤ 1114111) : Cal W 0 (.builtin "chr") [.int i] (.str ⟨#[i.toNat]⟩) := by
  intro A G s vs Q _ _ hs _ r H
  cases r with | cons r rs => cases rs; cases r; exact PySem.P.chr_of_int (by simp; omega) (H.here hs (Nat.le_succ _) (.str _ _))
theorem cal_ord {c : Nat} : Cal W 0 (.builtin "ord") [.str ⟨#[c]⟩] (.int c) := by
  intro A G s vs Q _ _ hs _ r H
  cases r with | cons r rs => cases rs; cases r; exact PySem.P.ord_of_char (H.here hs (Nat.le_succ _) (.int _ _))
theorem cal_sum {ns : List Int} : Cal W 0 (.builtin "sum") [.list (ns.map D.int)] (.int ns.sum) := by
  intro A G s vs Q hr _ hs _ r H
  cases r with | cons r rs =>
    cases rs
    cases r with
    | list g rr =>
      rename_i a vs n
      obtain ⟨l, e, rfl⟩ := rep_intItems rr
      refine wpAny_with_toks (n := s.toks) (Nat.le_refl _) (sum_intListG (l := a) (xs := l.toArray) hr.hh ⟨_, hs _ _ g, rfl, n, by rw [e]⟩ fun h' tk t' hk ht => ?_)
      have e' : preSum (numAt l.toArray) l.toArray.size = (l.map (·.1)).sum := by
        rw [preSum_eq, List.take_of_length_le (by simp)]
      rw [e']
      exact H _ h' tk G ht hk (Gx.refl _ _) (fun a o q => hk _ _ (hs a o q)) (.int _ _)
theorem Hands.rng {s : Shared} {G : Fz} {P : Params} {a b : Int} {Q : Value → Shared → Prop} (H : Hands s G P (.rng a b) Q) (sb : Sub G s.heap) {t u v : Tok} {tk : Nat} (ht : s.toks ≤ tk) :
    Q (.ref s.heap.objs.size) { s with heap := s.heap.push { cls := .type "range", data := .fields #[.int a t, .int b u, .int 1 v] }, toks := tk } := by
  have q : (s.heap.push { cls := .type "range", data := .fields #[.int a t, .int b u, .int 1 v] }).get? s.heap.objs.size = some { cls := .type "range", data := .fields #[.int a t, .int b u, .int 1 v] } := Heap.get?_push_size _ rfl
  have sb' : Sub G (s.heap.push { cls := .type "range", data := .fields #[.int a t, .int b u, .int 1 v] }) := fun a o e => Heap.get?_push_of_some _ (sb a o e)
  exact H _ _ tk (G.add s.heap.objs.size _) ht (Kp.push _ _) (Gx.add (size_none _)) (sb'.add q) (.rng (.inr ⟨rfl, rfl⟩))
theorem cal_range1 {n : Int} : Cal W 0 (.type "range") [.int n] (.rng 0 n) := by
  intro A G s vs Q _ _ hs _ r H
  cases r with | cons r rs => cases rs; cases r; exact call_range_1 (H.rng hs (Nat.le_add_right _ 2))
theorem cal_range2 {a n : Int} : Cal W 0 (.type "range") [.int a, .int n] (.rng a n) := by
  intro A G s vs Q _ _ hs _ r H
  cases r with | cons r rs => cases rs with | cons r' rs => cases rs; cases r; cases r'; exact call_range_2 (H.rng hs (Nat.le_succ _))
theorem rep_items {P : Params} {G : Fz} {a : Int} : ∀ (n k : Nat) (l : List Value), l.length = n → (∀ j v, l[j]? = some v → ∃ t, v = Value.int (a + (k + j : Nat) * 1) t) → RepAll P G l ((List.range' k n).map fun (i : Nat) => D.int (a + i))
  | 0, k, [], _, _ => .nil
  | n + 1, k, v :: l, hl, h => by
    obtain ⟨t, rfl⟩ := h 0 v rfl
    rw [List.range'_succ, List.map_cons]
    refine .cons ?_ (rep_items n (k + 1) l (by simpa using hl) fun j v hv => ?_)
    · have : a + ((k + 0 : Nat) : Int) * 1 = a + (k : Int) := by simp
      rw [this]; exact .int _ _
    · obtain ⟨t, ht⟩ := h (j + 1) v (by simpa using hv)
      exact ⟨t, by rw [ht, show k + (j + 1) = k + 1 + j by omega]⟩
theorem cal_list_rng {a b : Int} (hs : Builtin.Range.small a b 1 = true) (hz : (b - a).toNat ≤ 2 ^ 24) : Cal W 0 (.type "list") [.rng a b] (.list (rngL a b)) := by
  intro A G s vs Q hr _ sb _ r H
  cases r with | cons r rs =>
    cases rs
    cases r with
    | rng g =>
      have hn : Builtin.Range.rangeSize a b 1 = ((b - a).toNat : Int) := by rw [rangeSize_one]; split <;> omega
      refine wpAny_with_toks (n := s.toks) (Nat.le_refl _) (call_list_range hr.hh (sb _ _ g) hs hn hz fun h' tk acc' c' hk hl hi ht => ?_)
      have sb' : Sub G h' := fun a o e => hk _ _ (sb a o e)
      refine H _ h' tk (G.add s.heap.objs.size _) ht hk ((Gx.add (size_none _))) (sb'.add hl) (.list (vs := acc'.toList) (n := c') (.inr ⟨rfl, by simp⟩) ?_)
      unfold rngL
      rw [List.range_eq_range']
      refine rep_items (b - a).toNat 0 acc'.toList (by have := hi.1; simpa using this) fun j v hv => ?_
      have := hi.2 j v (by simpa using hv)
      simpa using this
end

section
variable {W : Wd} {S : Sig} {F : FI W S} {ρ : List Sl}
theorem ev_replace {o : Expr} {y z : PySem.Str} {k₁ k₂ : Nat} {q₁ q₂ apos pos : Pos} {x : PySem.Str} (h₀ : Ev F ρ o (.str x)) (hyz : (y == z) = false) (hb : x.length + (x.length + 1) * z.length ≤ 16777216)
    (hline : (apos.endLine == pos.line) = true) (hbase : ∀ env, attributeBase o "replace" env (eval o env) = eval o env) :
    Ev F ρ (.Call (.Attribute o "replace" apos) [.Constant (.str y) k₁ q₁, .Constant (.str z) k₂ q₂] [] pos) (.str (Txt.replace x y z)) := by
  refine .mk fun G s Q X h0 H => ?_
  refine wpAny_Call_method_lateS (hbase _) (by rfl) hline ?_
  refine h₀.then X h0 fun v h' tk G' ht k g X' r₀ h0' => ?_
  cases r₀
  rename_i t
  refine ⟨"str", "str.replace", PySem.F.plainAttrs_str, PySem.F.slot_str_replace, PySem.F.type_str_replace, typeIs_str _ _ _, (fun _ e => nomatch e), ?_⟩
  refine callWith_of (P := fun _ => True) rfl (fun h _ => keeps_builtin (W := W) h) ?_
  refine evalArgs_plain (spliced_cons (wpAny_Constant_str (k := k₁) (pos := q₁) (spliced_cons (wpAny_Constant_str (k := k₂) (pos := q₂) (spliced_nil ⟨trivial, ?_⟩)))))
  refine wpAny_with_toks (n := tk + 1 + 1) (Nat.le_refl _) (SC.replace (s := { s with heap := h', toks := tk + 1 + 1 }) (show (tk : Nat) ≠ 0 by omega) (show (tk + 1 : Nat) ≠ 0 by omega) (show (tk : Nat) ≠ tk + 1 by omega) hyz hb fun t' k' ht' => ?_)
  exact (H.after ht k g).here (s := { s with heap := h', toks := tk }) X'.sub (Nat.le_trans (Nat.le_add_right tk 2) ht') (.str _ _)
end
end Mine

end

section
namespace Mine
open PySem PySem.Calls PyProof.Rows PySem.W Builtin Builtin.Str

/-- data without lists -/
inductive Flat : D → Prop
  | none : Flat .none
  | bool {b : Bool} : Flat (.bool b)
  | int {i : Int} : Flat (.int i)
  | str {x : PySem.Str} : Flat (.str x)
  | tuple {ds : List D} : (∀ d ∈ ds, Flat d) → Flat (.tuple ds)
mutual
theorem Rep.flat {P : Params} {G G' : Fz} (hs : ∀ a o, G a o → o.cls ≠ .type "list" → G' a o) : ∀ {v : Value} {d : D}, Rep P G v d → Flat d → Rep P G' v d
  | _, _, .none, _ => .none
  | _, _, .bool b, _ => .bool b
  | _, _, .int i t, _ => .int i t
  | _, _, .str x t, _ => .str x t
  | _, _, .tuple h r, f => .tuple (hs _ _ h (fun e => nomatch (show (Value.type "tuple" == Value.type "list") = true from by rw [show Value.type "tuple" = Value.type "list" from e]; rfl))) (RepAll.flat hs r (by cases f with | tuple f => exact f))
theorem RepAll.flat {P : Params} {G G' : Fz} (hs : ∀ a o, G a o → o.cls ≠ .type "list" → G' a o) : ∀ {vs : List Value} {ds : List D}, RepAll P G vs ds → (∀ d ∈ ds, Flat d) → RepAll P G' vs ds
  | _, _, .nil, _ => .nil
  | _, _, .cons h r, f => .cons (Rep.flat hs h (f _ List.mem_cons_self)) (RepAll.flat hs r fun d hd => f d (List.mem_cons_of_mem _ hd))
end

section
variable {W : Wd} {S : Sig} {F : FI W S} {ρ : List Sl}

/-- own lists, lent for a while -/
def Bor (F : FI W S) (ρ ρ' : List Sl) : Prop :=
  ∀ G h, St F ρ G h → ∃ (G₁ : Fz) (L : Addr → Prop), St F ρ' G₁ h ∧ (∀ a o, G a o → G₁ a o) ∧ (∀ a o, G₁ a o → G a o ∨ L a) ∧ ∀ a, L a → (∃ o, h.get? a = some o ∧ o.cls = .type "list") ∧ ∀ o, ¬ G a o
theorem bor_refl : Bor F ρ ρ := fun G h X => ⟨G, fun _ => False, X, fun _ _ e => e, fun _ _ e => .inl e, fun _ e => e.elim⟩
theorem bor_trans {ρ' ρ'' : List Sl} (b : Bor F ρ ρ') (b' : Bor F ρ' ρ'') : Bor F ρ ρ'' := fun G h X => by
  obtain ⟨G₁, L₁, X₁, a1, a2, a3⟩ := b G h X
  obtain ⟨G₂, L₂, X₂, c1, c2, c3⟩ := b' G₁ h X₁
  refine ⟨G₂, fun a => L₁ a ∨ L₂ a, X₂, fun a o e => c1 _ _ (a1 _ _ e), fun a o e => ?_, fun a e => ?_⟩
  · rcases c2 a o e with e | e
    · exact (a2 a o e).imp id .inl
    · exact .inr (.inr e)
  · rcases e with e | e
    · exact a3 a e
    · exact ⟨(c3 a e).1, fun o q => (c3 a e).2 o (a1 _ _ q)⟩
theorem bor_one {ds : List D} (k : Nat) (hk : k < S.xs.length) (hr : ρ[k]? = some (.lst ds)) : Bor F ρ (ρ.set k (.val (.list ds))) := fun G h X => by
  obtain ⟨ml, m, own, Y⟩ := X
  obtain ⟨x, hx⟩ : ∃ x, S.xs[k]? = some x := ⟨_, List.getElem?_eq_getElem hk⟩
  obtain ⟨e, ⟨vs, n, q, r⟩, ng⟩ := Y.slots k x _ hx hr
  obtain ⟨n1, n2, n3⟩ := Y.mL k _ hk hr trivial
  refine ⟨G.add (own k) { cls := .type "list", data := .seq vs.toArray n }, fun a => a = own k, ?_, fun _ _ e => .inl e, fun a o z => z.imp id (·.1), fun a z => ?_⟩
  · refine ⟨ml, m, own, ?_⟩
    have hg : Gx F.h₀ F.G₀ (G.add (own k) { cls := .type "list", data := .seq vs.toArray n }) := Y.ext.trans (Kp.refl _) (Gx.add n3)
    refine { keep := Y.keep, sub := Y.sub.add q, ext := hg, ns := Y.ns, loc := Y.loc, cel := Y.cel, cl := Y.cl, nL := ?_, nC := ?_, slots := ?_, mApart := ?_, mL := ?_ }
    · rintro o (z | ⟨z, _⟩)
      · exact Y.nL o z
      · exact n1 z.symm
    · rintro y c hy o (z | ⟨z, _⟩)
      · exact Y.nC y c hy o z
      · exact n2 y c hy z.symm
    · intro j y t hy ht
      rcases set_get ht with ⟨rfl, rfl⟩ | ⟨hj, ht⟩
      · have ey : y = x := Option.some.inj (hy.symm.trans hx)
        exact ⟨.ref (own j), ey ▸ e, .list (.inr ⟨rfl, rfl⟩) (r.mono fun _ _ e => .inl e)⟩
      · have := Y.slots j y t hy ht
        cases t with
        | no => trivial
        | val d => obtain ⟨u, e, r⟩ := this; exact ⟨u, e, r.mono fun _ _ e => .inl e⟩
        | lst es =>
          obtain ⟨e', ⟨ws, n', q', r'⟩, ng'⟩ := this
          refine ⟨e', ⟨ws, n', q', r'.mono fun _ _ e => .inl e⟩, ?_⟩
          rintro o (z | ⟨z, _⟩)
          · exact ng' o z
          · exact Y.mApart j k _ _ hj (List.getElem?_eq_some_iff.mp hy).1 hk ht hr trivial trivial z
    · intro j j' t t' hne hl hl' ht ht' q q'
      rcases set_get ht with ⟨e1, e2⟩ | ⟨hj, hz⟩
      · subst e2; exact q.elim
      · rcases set_get ht' with ⟨e3, e4⟩ | ⟨hj', hz'⟩
        · subst e4; exact q'.elim
        · exact Y.mApart j j' t t' hne hl hl' hz hz' q q'
    · intro j t hl ht q
      rcases set_get ht with ⟨e1, e2⟩ | ⟨hj, hz⟩
      · subst e2; exact q.elim
      · exact Y.mL j t hl hz q
  · subst z; exact ⟨⟨_, q, rfl⟩, ng⟩

/-- the facts behind a loan, without what was lent -/
theorem lent {G G₁ G' : Fz} {L : Addr → Prop} {h h' : Heap} (a1 : ∀ a o, G a o → G₁ a o) (a2 : ∀ a o, G₁ a o → G a o ∨ L a) (a3 : ∀ a, L a → (∃ o, h.get? a = some o ∧ o.cls = .type "list") ∧ ∀ o, ¬ G a o)
    (k : Kp h h') (g : Gx h G₁ G') (s : Sub G' h') :
    Gx h G (fun a o => G' a o ∧ ¬ L a) ∧ Sub (fun a o => G' a o ∧ ¬ L a) h' ∧ ∀ a o, G' a o → o.cls ≠ .type "list" → (G' a o ∧ ¬ L a) := by
  refine ⟨⟨fun a o e => ⟨g.sub _ _ (a1 _ _ e), fun z => (a3 a z).2 o e⟩, fun a o e => ?_⟩, fun a o e => s a o e.1, fun a o e hc => ⟨e, fun z => ?_⟩⟩
  · rcases g.new a o e.1 with q | q
    · exact (a2 a o q).elim .inl fun z => absurd z e.2
    · exact .inr q
  · obtain ⟨⟨o', e', c'⟩, _⟩ := a3 a z
    have e1 := k _ _ e'
    rw [s a o e] at e1
    cases e1
    exact hc c'
theorem ev_borrow {ρ' : List Sl} {e : Expr} {d : D} (b : Bor F ρ ρ') (h : Ev F ρ' e d) (hf : Flat d) : Ev F ρ e d := .mk fun G s Q X h0 H => by
  obtain ⟨G₁, L, X₁, a1, a2, a3⟩ := b G s.heap X
  refine h.go G₁ s Q X₁ h0 fun v h' tk G' ht k g sb r => ?_
  obtain ⟨b1, b2, b3⟩ := lent a1 a2 a3 k g sb
  exact H v h' tk _ ht k b1 b2 (r.flat b3 hf)
theorem te_borrow {ρ' : List Sl} {e : Expr} {c : Bool} (b : Bor F ρ ρ') (h : Te F ρ' e c) : Te F ρ e c := .mk fun G s Q X h0 H => by
  obtain ⟨G₁, L, X₁, a1, a2, a3⟩ := b G s.heap X
  refine h.go G₁ s Q X₁ h0 fun h' tk G' ht k g sb => ?_
  obtain ⟨b1, b2, b3⟩ := lent a1 a2 a3 k g sb
  exact H h' tk _ ht k b1 b2
theorem evf_borrow {ρ' : List Sl} {e : Expr} {ds : List D} (b : Bor F ρ ρ') (h : EvF F ρ' e ds) (hf : ∀ d ∈ ds, Flat d) : EvF F ρ e ds := .mk fun G s Q X h0 H => by
  obtain ⟨G₁, L, X₁, a1, a2, a3⟩ := b G s.heap X
  refine h.go G₁ s Q X₁ h0 fun a vs n h' tk G' ht k g sb hl ha hn r => ?_
  obtain ⟨b1, b2, b3⟩ := lent a1 a2 a3 k g sb
  exact H a vs n h' tk _ ht k b1 b2 hl ha (fun o z => hn o z.1) (r.flat b3 hf)

/-- «x = [.. for ..]» over lists that are lent -/
theorem ex_assign_comp_bor {S' : Sig} {ρ' : List Sl} {elt target iter : Expr} {ifs : List Expr} {scope : Scope} {pos spos py : Pos} {y : PySem.Str} {d : D} {items : List D} {c : D → Bool} {g : D → D} {ρ₀ : List Sl} (k : Nat) (b : Bor F ρ ρ') (cs : CompSig S S' scope)
    (h : Ev F ρ' iter d) (hit : Itr W d items) (hz : items.length ≤ 1048576) (htk : Taken S S' ρ' ρ₀)
    (turn : ∀ F' : FI W S', F'.lv = F.lv → ∀ (i : Nat) d, items[i]? = some d → ∃ ρ₁, Asg F' target ρ₀ d ρ₁ ∧ (∀ G h, St F' ρ₁ G h → St F' ρ₀ G h) ∧ Tes F' ρ₁ ifs (c d) ∧ (c d = true → Ev F' ρ₁ elt (g d)))
    (hs : ∀ env x, foldedSetIterable iter env x = pure x) (hf : ∀ d ∈ (items.filter c).map g, Flat d) (hx : S.xs[k]? = some y) (hk : S.ks[k]? = some .local)
    (hsw : swapsWith (.ListComp elt [⟨target, iter, ifs, 0⟩] scope pos) (some (.Name y py)) spos.line F.env = pure true) :
    Ex1 F ρ (.Assign [.Name y py] (.ListComp elt [⟨target, iter, ifs, 0⟩] scope pos) spos) (fun o => o = .next (ρ.set k (.lst ((items.filter c).map g)))) := by
  refine .mk fun G s Q X h0 H => ?_
  obtain ⟨G₁, L, X₁, a1, a2, a3⟩ := b G s.heap X
  rw [exec_Assign_Name_used _ _ _ _ hsw]
  refine wpAny_bind (wpAny_standAt (wpAny_bind ?_))
  show wpAny _ F.A (do let _ ← comprehension (.ListComp elt [⟨target, iter, ifs, 0⟩] scope pos) scope F.env _ (newList []) false (eval iter F.env) (some (assign (.Name y py) F.env))) _ _ s
  refine wpAny_bind (wpAny_mono (comp_core (use := some (assign (.Name y py) F.env)) (Q := fun _ s' => Q .next s') cs.sc cs.ok S.fn cs.cells h hit hz htk turn X₁ h0 (fun Da C vs n h' tk G'' m' ht kp gx'' sb'' hD nD nG'' rr'' hn nC hne nGC'' => ?_) hs) (fun _ s' hq => wpAny_pure (wpAny_pure hq)) fun _ _ e => e)
  obtain ⟨gx, sb, b3⟩ := lent a1 a2 a3 kp gx'' sb''
  have nG : ∀ o, ¬ (fun a o => G'' a o ∧ ¬ L a) Da o := fun o z => nG'' o z.1
  have nGC : ∀ o, ¬ (fun a o => G'' a o ∧ ¬ L a) C o := fun o z => nGC'' o z.1
  have rr := rr''.flat b3 hf
  generalize (fun a o => G'' a o ∧ ¬ L a) = G' at gx sb nG nGC rr
  show wpAny _ F.A (assign (.Name y py) F.env (.ref Da)) _ _ _
  obtain ⟨ml, m, own, Y⟩ := X
  have Y' := Y.step kp gx sb
  have ap : ∀ b, s.heap.get? b = none → ∀ j t, j < S.xs.length → ρ[j]? = some t → t.isLst → own j ≠ b := by
    rintro b hb j t hj ht q rfl
    obtain ⟨z, hz⟩ : ∃ z, S.xs[j]? = some z := ⟨_, List.getElem?_eq_getElem hj⟩
    have := Y.slots j z t hz ht
    cases t with
    | lst ds => obtain ⟨_, ⟨_, _, e, _⟩, _⟩ := this; rw [hb] at e; cases e
    | _ => exact q
  have nL : ∀ b, s.heap.get? b = none → b ≠ F.env.locals := by rintro b hb rfl; obtain ⟨o, _, _, e, _⟩ := Y.ns; rw [hb] at e; cases e
  have nCc : ∀ b, s.heap.get? b = none → ∀ x c, (x, c) ∈ F.env.cells → b ≠ c := by rintro b hb x c hm rfl; obtain ⟨o, e⟩ := Y.cl x _ hm; rw [hb] at e; cases e
  have B : Brings F ρ G' h' own (.ref Da) k Da (.lst ((items.filter c).map g)) := ⟨⟨rfl, ⟨vs, n, hD, rr⟩, nG⟩, fun _ => ⟨nL Da nD, nCc Da nD, Y.keep.none nD, fun j t _ hj ht q => ap Da nD j t hj ht q⟩⟩
  refine assign_Name (wpAny_storeName_local (F.kindOf hx hk) Y'.ns (fun h₂ hn₂ hs₂ => ?_) (by rw [F.kind]; rfl))
  have Z := Y'.storeL hx hk B hn₂ hs₂
  refine ⟨m', hn.sameBut hs₂ (nL C nC), fun h₃ hs₃ => ?_⟩
  have apC : Apart F (ρ.set k (.lst ((items.filter c).map g))) G' (fun j => if j = k then Da else own j) C := by
    refine ⟨nL C nC, nCc C nC, nGC, fun j t hj ht q => ?_, Y.keep.none nC⟩
    rcases set_get ht with ⟨e1, e2⟩ | ⟨hj', ht'⟩
    · simp only [if_pos e1]; exact Ne.symm hne
    · simp only [if_neg hj']; exact ap C nC j t hj ht' q
  exact H .next h₃ _ G' (Nat.le_trans ht (Nat.le_succ _)) ⟨_, rfl, _, _, _, Z.dead apC hs₃⟩
end
end Mine

end

section
namespace Mine
open PySem PySem.Calls PyProof.Rows PySem.W Builtin Builtin.Str
section
variable {W : Wd} {S : Sig} {F : FI W S} {ρ : List Sl}
/-- «a, b, c = l» of a list, the stores in their order -/
theorem ex_unpack_list {elts : List Expr} {n : Nat} {tpos pos : Pos} {value : Expr} {ks : List Nat} {ds : List D} (h : Ev F ρ value (.list ds)) (hl : (assignEach elts F.env).length = ds.length) (hstar : (assignEach elts F.env).findIdx? (·.1) = none)
    (hT : Tgts F ((assignEach elts F.env).map (·.2)) ks) (hs : swapsWithSole [.Tuple elts n tpos] value pos.line F.env = pure false) (hw : swappedStores [.Tuple elts n tpos] value F.env = pure none) :
    Ex1 F ρ (.Assign [.Tuple elts n tpos] value pos) (fun o => o = .next (setAll ρ ks ds)) := by
  refine .mk fun G s Q X h0 H => ?_
  refine Assign_Tuple (h.then X h0 fun v h' tk G' ht k g X' r h0' => ?_) hs hw
  cases r with
  | list ga rr =>
    rename_i a vs n'
    rw [assign_Tuple]
    refine wpAny_bind (wpAny_standAt ?_)
    unfold unpack
    rw [show (assignEach elts F.env).length = vs.toArray.size by rw [hl, List.size_toArray, rr.length], hstar]
    refine wpAny_bind (wpAny_holding (kun_itemsOf (s := { s with heap := h', toks := tk }) F.room.hh ⟨_, X'.sub _ _ ga, rfl, _, rfl⟩ fun h₂ he => ?_))
    have k₂ := kp_of_ext he
    exact assign_all (s := { s with heap := h₂, toks := tk }) hT rr (X'.kept k₂) fun h₃ tk₃ ht₃ X₃ => H .next h₃ tk₃ G' (Nat.le_trans ht ht₃) ⟨_, rfl, X₃⟩
theorem sole_scope {env : Env} {sc : Scope} (h : env.scope = sc) (ts : List Expr) (v : Expr) (line : Nat) : swapsWithSole ts v line env = swapsWithSole ts v line (envS sc) := by
  unfold swapsWithSole
  split
  · exact swaps_scope h _ _ _
  · rfl
theorem sole_ok {W : Wd} {S : Sig} (F : FI W S) {ts : List Expr} {v : Expr} {line : Nat} {b : Bool} (h : swapsWithSole ts v line (envS S.sc) = pure b) : swapsWithSole ts v line F.env = pure b := (sole_scope F.sc ts v line).trans h
end
end Mine

end

section
namespace Mine
open PySem PySem.Calls PyProof.Rows PySem.W Builtin Builtin.Str

/-- a way back from data -/
structure Inv {α : Type} (inj : α → D) where
  inv : D → α
  eq : ∀ a, inv (inj a) = a
def iv_int : Inv D.int := ⟨fun d => match d with | .int i => i | _ => 0, fun _ => rfl⟩
def iv_str : Inv D.str := ⟨fun d => match d with | .str i => i | _ => ⟨#[]⟩, fun _ => rfl⟩
def iv_ch : Inv (fun c : Nat => D.str ⟨#[c]⟩) := ⟨fun d => match d with | .str ⟨⟨[c]⟩⟩ => c | _ => 0, fun _ => rfl⟩
def pairD (p : PySem.Str × PySem.Str) : D := .tuple [.str p.1, .str p.2]
def iv_pair : Inv pairD := ⟨fun d => match d with | .tuple [.str a, .str b] => (a, b) | _ => (⟨#[]⟩, ⟨#[]⟩), fun _ => rfl⟩
theorem inv_map {α : Type} {inj : α → D} (iv : Inv inj) (as : List α) (c : α → Bool) (g : α → D) : (((as.map inj).filter fun d => c (iv.inv d)).map fun d => g (iv.inv d)) = (as.filter c).map g := by
  induction as with
  | nil => rfl
  | cons a as ih =>
    rw [List.map_cons, List.filter_cons, List.filter_cons]
    simp only [iv.eq]
    split
    · rw [List.map_cons, List.map_cons, ih, iv.eq]
    · exact ih

def rngI (a b : Int) : List Int := (List.range (b - a).toNat).map fun (i : Nat) => a + i
theorem rngL_eq (a b : Int) : rngL a b = (rngI a b).map D.int := by unfold rngL rngI; rw [List.map_map]; rfl
theorem rngI_mem {a b i : Int} : i ∈ rngI a b ↔ a ≤ i ∧ i < b := by
  unfold rngI
  rw [List.mem_map]
  constructor
  · rintro ⟨n, h, rfl⟩
    rw [List.mem_range] at h
    omega
  · rintro ⟨h1, h2⟩
    exact ⟨(i - a).toNat, List.mem_range.mpr (by omega), by omega⟩
theorem rngI_len (a b : Int) : (rngI a b).length = (b - a).toNat := by simp [rngI]
def itemS (ys : List PySem.Str) (i : Int) : PySem.Str := (if 0 ≤ i then ys[i.toNat]? else ys[(i + ys.length).toNat]?).getD ⟨#[]⟩
def itemI (ys : List Int) (i : Int) : Int := (if 0 ≤ i then ys[i.toNat]? else ys[(i + ys.length).toNat]?).getD 0
theorem itemD_map {α : Type} {inj : α → D} {ys : List α} {i : Int} (z : α) (h1 : -(ys.length : Int) ≤ i) (h2 : i < ys.length) : itemD (ys.map inj) i = inj ((if 0 ≤ i then ys[i.toNat]? else ys[(i + ys.length).toNat]?).getD z) := by
  unfold itemD
  by_cases hi : 0 ≤ i
  · rw [if_pos hi, if_pos hi, List.getElem?_map, List.getElem?_eq_getElem (by omega)]; rfl
  · rw [if_neg hi, if_neg hi, List.getElem?_map, List.length_map, List.getElem?_eq_getElem (by omega)]; rfl
section
variable {W : Wd}
theorem item_ls {ys : List PySem.Str} {i : Int} (h : -(ys.length : Int) ≤ i ∧ i < ys.length) (hz : ys.length ≤ 16777216) : Op2 W getItem (.list (ys.map D.str)) (.int i) (.str (itemS ys i)) := by
  have := item_l (W := W) (ds := ys.map D.str) (i := i) (by simpa using h.1) (by simpa using h.2) (by simpa using hz)
  rwa [itemD_map ⟨#[]⟩ h.1 h.2] at this
theorem item_li {ys : List Int} {i : Int} (h : -(ys.length : Int) ≤ i ∧ i < ys.length) (hz : ys.length ≤ 16777216) : Op2 W getItem (.list (ys.map D.int)) (.int i) (.int (itemI ys i)) := by
  have := item_l (W := W) (ds := ys.map D.int) (i := i) (by simpa using h.1) (by simpa using h.2) (by simpa using hz)
  rwa [itemD_map 0 h.1 h.2] at this
theorem add_lls {xs ys : List PySem.Str} (hz : xs.length + ys.length ≤ 16777216) : Op2 W (binaryOp .Add) (.list (xs.map D.str)) (.list (ys.map D.str)) (.list ((xs ++ ys).map D.str)) := by
  rw [List.map_append]; exact add_ll (by simpa using hz)
theorem add_lli {xs ys : List Int} (hz : xs.length + ys.length ≤ 16777216) : Op2 W (binaryOp .Add) (.list (xs.map D.int)) (.list (ys.map D.int)) (.list ((xs ++ ys).map D.int)) := by
  rw [List.map_append]; exact add_ll (by simpa using hz)
theorem itr_rngI {a b : Int} (hs : Builtin.Range.small a b 1 = true) : Itr W (.rng a b) ((rngI a b).map D.int) := by
  rw [← rngL_eq]; exact itr_rng hs
end

section
variable {W : Wd} {S : Sig} {F : FI W S} {ρ : List Sl}

/-- a comprehension at work: its items -/
structure CompRun (F : FI W S) (ρ : List Sl) (elt target iter : Expr) (ifs : List Expr) (scope : Scope) (ds : List D) : Prop where
  run : ∃ (S' : Sig) (d : D) (items : List D) (c : D → Bool) (g : D → D) (ρ₀ : List Sl), CompSig S S' scope ∧ Ev F ρ iter d ∧ Itr W d items ∧ items.length ≤ 1048576 ∧ Taken S S' ρ ρ₀ ∧
    (∀ F' : FI W S', F'.lv = F.lv → ∀ (i : Nat) d, items[i]? = some d → ∃ ρ₁, Asg F' target ρ₀ d ρ₁ ∧ (∀ G h, St F' ρ₁ G h → St F' ρ₀ G h) ∧ Tes F' ρ₁ ifs (c d) ∧ (c d = true → Ev F' ρ₁ elt (g d))) ∧
    (∀ env x, foldedSetIterable iter env x = pure x) ∧ ds = (items.filter c).map g
theorem CompRun.evf {elt target iter : Expr} {ifs : List Expr} {scope : Scope} {pos : Pos} {ds : List D} (r : CompRun F ρ elt target iter ifs scope ds) : EvF F ρ (.ListComp elt [⟨target, iter, ifs, 0⟩] scope pos) ds := by
  obtain ⟨S', d, items, c, g, ρ₀, a1, a2, a3, a4, a5, a6, a7, rfl⟩ := r.run
  exact evf_comp a1 a2 a3 a4 a5 a6 a7
theorem CompRun.ev {elt target iter : Expr} {ifs : List Expr} {scope : Scope} {pos : Pos} {ds : List D} (r : CompRun F ρ elt target iter ifs scope ds) : Ev F ρ (.ListComp elt [⟨target, iter, ifs, 0⟩] scope pos) (.list ds) := r.evf.ev
theorem CompRun.assign {elt target iter : Expr} {ifs : List Expr} {scope : Scope} {pos spos py : Pos} {y : PySem.Str} {ds : List D} (k : Nat) (r : CompRun F ρ elt target iter ifs scope ds) (hx : S.xs[k]? = some y) (hk : S.ks[k]? = some .local)
    (hsw : swapsWith (.ListComp elt [⟨target, iter, ifs, 0⟩] scope pos) (some (.Name y py)) spos.line (envS S.sc) = pure true) :
    Ex1 F ρ (.Assign [.Name y py] (.ListComp elt [⟨target, iter, ifs, 0⟩] scope pos) spos) (fun o => o = .next (ρ.set k (.lst ds))) := by
  obtain ⟨S', d, items, c, g, ρ₀, a1, a2, a3, a4, a5, a6, a7, rfl⟩ := r.run
  exact ex_assign_comp k a1 a2 a3 a4 a5 a6 a7 hx hk (swaps_ok F hsw)
theorem CompRun.assignB {ρ' : List Sl} {elt target iter : Expr} {ifs : List Expr} {scope : Scope} {pos spos py : Pos} {y : PySem.Str} {ds : List D} (k : Nat) (b : Bor F ρ ρ') (r : CompRun F ρ' elt target iter ifs scope ds) (hf : ∀ d ∈ ds, Flat d) (hx : S.xs[k]? = some y) (hk : S.ks[k]? = some .local)
    (hsw : swapsWith (.ListComp elt [⟨target, iter, ifs, 0⟩] scope pos) (some (.Name y py)) spos.line (envS S.sc) = pure true) :
    Ex1 F ρ (.Assign [.Name y py] (.ListComp elt [⟨target, iter, ifs, 0⟩] scope pos) spos) (fun o => o = .next (ρ.set k (.lst ds))) := by
  obtain ⟨S', d, items, c, g, ρ₀, a1, a2, a3, a4, a5, a6, a7, rfl⟩ := r.run
  exact ex_assign_comp_bor k b a1 a2 a3 a4 a5 a6 a7 hf hx hk (swaps_ok F hsw)

/-- one name as target, items of a kind -/
theorem comp1 {α : Type} {inj : α → D} (iv : Inv inj) {S' : Sig} {elt iter : Expr} {x : PySem.Str} {px : Pos} {ifs : List Expr} {scope : Scope} {d : D} {as : List α} (c : α → Bool) (g : α → D) (ρ₀ : List Sl) (j : Nat)
    (cs : CompSig S S' scope) (h : Ev F ρ iter d) (hit : Itr W d (as.map inj)) (hz : as.length ≤ 1048576) (htk : Taken S S' ρ ρ₀) (hx : S'.xs[j]? = some x) (hk : S'.ks[j]? = some .local) (hno : ρ₀[j]? = some .no)
    (ht : ∀ F' : FI W S', F'.lv = F.lv → ∀ a ∈ as, Tes F' (ρ₀.set j (.val (inj a))) ifs (c a)) (he : ∀ F' : FI W S', F'.lv = F.lv → ∀ a ∈ as, c a = true → Ev F' (ρ₀.set j (.val (inj a))) elt (g a))
    (hs : ∀ env x, foldedSetIterable iter env x = pure x) : CompRun F ρ elt (.Name x px) iter ifs scope ((as.filter c).map g) := by
  refine ⟨S', d, as.map inj, fun d => c (iv.inv d), fun d => g (iv.inv d), ρ₀, cs, h, hit, by simpa using hz, htk, fun F' hl i d hd => ?_, hs, (inv_map iv as c g).symm⟩
  rw [List.getElem?_map] at hd
  cases e : as[i]? with
  | none => rw [e] at hd; cases hd
  | some a =>
    rw [e] at hd
    cases hd
    have hm := List.mem_of_getElem? e
    refine ⟨_, asg_name j hx (.inl hk), back_name hno, ?_, fun q => ?_⟩
    · dsimp only; rw [iv.eq]; exact ht F' hl a hm
    · dsimp only at q ⊢; rw [iv.eq] at q ⊢; exact he F' hl a hm q
/-- two names as target, items of pairs of texts -/
theorem comp2 {S' : Sig} {elt iter : Expr} {elts : List Expr} {n : Nat} {px : Pos} {ifs : List Expr} {scope : Scope} {d : D} {as : List (PySem.Str × PySem.Str)} (c : PySem.Str × PySem.Str → Bool) (g : PySem.Str × PySem.Str → D) (ρ₀ : List Sl) (j j' : Nat)
    (cs : CompSig S S' scope) (h : Ev F ρ iter d) (hit : Itr W d (as.map pairD)) (hz : as.length ≤ 1048576) (htk : Taken S S' ρ ρ₀)
    (hl : ∀ F' : FI W S', (assignEach elts F'.env).length = 2) (hstar : ∀ F' : FI W S', (assignEach elts F'.env).findIdx? (·.1) = none) (hT : ∀ F' : FI W S', Tgts F' ((assignEach elts F'.env).map (·.2)) [j, j'])
    (hj : j ≠ j') (hno : ρ₀[j]? = some .no) (hno' : ρ₀[j']? = some .no)
    (ht : ∀ F' : FI W S', F'.lv = F.lv → ∀ a ∈ as, Tes F' (setAll ρ₀ [j, j'] [.str a.1, .str a.2]) ifs (c a)) (he : ∀ F' : FI W S', F'.lv = F.lv → ∀ a ∈ as, c a = true → Ev F' (setAll ρ₀ [j, j'] [.str a.1, .str a.2]) elt (g a))
    (hs : ∀ env x, foldedSetIterable iter env x = pure x) : CompRun F ρ elt (.Tuple elts n px) iter ifs scope ((as.filter c).map g) := by
  refine ⟨S', d, as.map pairD, fun d => c (iv_pair.inv d), fun d => g (iv_pair.inv d), ρ₀, cs, h, hit, by simpa using hz, htk, fun F' hl' i d hd => ?_, hs, (inv_map iv_pair as c g).symm⟩
  rw [List.getElem?_map] at hd
  cases e : as[i]? with
  | none => rw [e] at hd; cases hd
  | some a =>
    rw [e] at hd
    cases hd
    have hm := List.mem_of_getElem? e
    refine ⟨_, asg_tuple (hl F') (hstar F') (hT F'), back_two hj hno hno', ?_, fun q => ?_⟩
    · dsimp only; rw [iv_pair.eq]; exact ht F' hl' a hm
    · dsimp only at q ⊢; rw [iv_pair.eq] at q ⊢; exact he F' hl' a hm q
/-- the names of a comprehension's start, checked slot by slot -/
theorem taken_nil {S' : Sig} : Taken S S' ρ [] := fun j x sl _ h => by simp at h
theorem taken_no {S' : Sig} {ρ₀ : List Sl} (h : ρ₀ = List.replicate ρ₀.length .no) : Taken S S' ρ ρ₀ := fun j x sl _ hs => .inl (by rw [h] at hs; exact List.eq_of_mem_replicate (List.mem_of_getElem? hs))
/-- the first names are cells of the outer frame, the rest is empty -/
theorem taken_cells {S' : Sig} {n : Nat} (ds : List D) (h : ∀ (j : Nat) d, ds[j]? = some d → S'.ks[j]? = some .cell ∧ ∃ (k : Nat) (x : PySem.Str), S'.xs[j]? = some x ∧ S.xs[k]? = some x ∧ S.ks[k]? = some .cell ∧ ρ[k]? = some (.val d)) : Taken S S' ρ (ds.map Sl.val ++ List.replicate n Sl.no) := by
  intro j x sl hx hsl
  rcases argSlots hsl with rfl | ⟨d, hd, rfl⟩
  · exact .inl rfl
  · obtain ⟨a, k, y, b1, b2, b3, b4⟩ := h j d hd
    rw [hx] at b1; cases b1
    exact .inr ⟨a, k, d, b2, b3, b4, rfl⟩
theorem taken_of {S' : Sig} {ρ₀ : List Sl} (h : ∀ (j : Nat), j < ρ₀.length → ρ₀[j]? = some .no ∨ (S'.ks[j]? = some .cell ∧ ∃ (k : Nat) (d : D) (x : PySem.Str), S'.xs[j]? = some x ∧ S.xs[k]? = some x ∧ S.ks[k]? = some .cell ∧ ρ[k]? = some (.val d) ∧ ρ₀[j]? = some (.val d))) : Taken S S' ρ ρ₀ := by
  intro j x sl hx hsl
  obtain ⟨hj, _⟩ := List.getElem?_eq_some_iff.mp hsl
  rcases h j hj with e | ⟨a, k, d, y, b, b', b'', b3, b4⟩
  · rw [hsl] at e; exact .inl (Option.some.inj e)
  · rw [hx] at b; cases b
    rw [hsl] at b4
    exact .inr ⟨a, k, d, b', b'', b3, Option.some.inj b4⟩
end
end Mine

end

section
namespace Mine
open PySem PySem.Calls PyProof.Rows PySem.W Builtin Builtin.Str

/-- a slice of any list -/
def pick {α : Type} (ys : List α) (lo hi st : Option Int) : List α := (sliceRange (sliceBounds lo hi st ys.length).1 (sliceBounds lo hi st ys.length).2.1 (sliceBounds lo hi st ys.length).2.2).filterMap (ys[·]?)
theorem pickD_map {α : Type} {inj : α → D} (ys : List α) (lo hi st : Option Int) : pickD (ys.map inj) lo hi st = (pick ys lo hi st).map inj := by
  unfold pickD pick
  rw [List.length_map, List.map_filterMap]
  congr 1
  funext i
  rw [List.getElem?_map]
section
variable {W : Wd} {S : Sig} {F : FI W S} {ρ : List Sl}
theorem slc_ls {ys : List PySem.Str} {lo hi st : Option Int} (h0 : st ≠ some 0) (hz : ys.length ≤ 16777216) : Slc W (.list (ys.map D.str)) lo hi st (.list ((pick ys lo hi st).map D.str)) := by
  rw [← pickD_map]; exact slc_list h0 (by simpa using hz)
theorem slc_li {ys : List Int} {lo hi st : Option Int} (h0 : st ≠ some 0) (hz : ys.length ≤ 16777216) : Slc W (.list (ys.map D.int)) lo hi st (.list ((pick ys lo hi st).map D.int)) := by
  rw [← pickD_map]; exact slc_list h0 (by simpa using hz)
theorem cal_len_strs {ys : List PySem.Str} (hz : ys.length ≤ 16777216) : Cal W 0 (.builtin "len") [.list (ys.map D.str)] (.int ys.length) := by
  have := cal_len_list (W := W) (ds := ys.map D.str) (by simpa using hz)
  rwa [List.length_map] at this
theorem cal_len_ints {ys : List Int} (hz : ys.length ≤ 16777216) : Cal W 0 (.builtin "len") [.list (ys.map D.int)] (.int ys.length) := by
  have := cal_len_list (W := W) (ds := ys.map D.int) (by simpa using hz)
  rwa [List.length_map] at this
theorem evs_nilS : Evs F ρ [] (([] : List PySem.Str).map D.str) := evs_nil
theorem evs_consS {e : Expr} {es : List Expr} {x : PySem.Str} {ys : List PySem.Str} (h : Ev F ρ e (.str x)) (hs : Evs F ρ es (ys.map D.str)) (he : ∀ env, starEach (e :: es) env = (false, eval e env) :: starEach es env) : Evs F ρ (e :: es) ((x :: ys).map D.str) := evs_cons h hs he
theorem evs_nilI : Evs F ρ [] (([] : List Int).map D.int) := evs_nil
theorem evs_consI {e : Expr} {es : List Expr} {x : Int} {ys : List Int} (h : Ev F ρ e (.int x)) (hs : Evs F ρ es (ys.map D.int)) (he : ∀ env, starEach (e :: es) env = (false, eval e env) :: starEach es env) : Evs F ρ (e :: es) ((x :: ys).map D.int) := evs_cons h hs he
/-- the slots, brought to a plain row -/
theorem ex_norm {ρ' : List Sl} {ss : List Stmt} {Post : Out → Prop} (e : ρ = ρ') (h : Ex F ρ' ss Post) : Ex F ρ ss Post := e ▸ h
/-- a statement with several ways on, then the rest -/
theorem ex_seqP {P : List Sl → Prop} {st : Stmt} {rest : List Stmt} {Post : Out → Prop} (h : Ex1 F ρ st (fun o => ∃ ρ', o = .next ρ' ∧ P ρ')) (hr : ∀ ρ', P ρ' → Ex F ρ' rest Post) : Ex F ρ (st :: rest) Post :=
  ex_cons (h.mono fun o ⟨ρ', e, q⟩ => by subst e; exact hr ρ' q)
theorem Ev.as {e : Expr} {d d' : D} (h : Ev F ρ e d) (q : d = d') : Ev F ρ e d' := q ▸ h
/-- branches of one kind -/
theorem ev_iteS {t b o : Expr} {pos : Pos} {c : Bool} {x y : PySem.Str} (ht : Te F ρ t c) (h₁ : c = true → Ev F ρ b (.str x)) (h₂ : c = false → Ev F ρ o (.str y)) : Ev F ρ (.IfExp t b o pos) (.str (if c then x else y)) :=
  (ev_ite ht h₁ h₂).as (by cases c <;> rfl)
theorem ev_iteL {t b o : Expr} {pos : Pos} {c : Bool} {x y : List PySem.Str} (ht : Te F ρ t c) (h₁ : c = true → Ev F ρ b (.list (x.map D.str))) (h₂ : c = false → Ev F ρ o (.list (y.map D.str))) : Ev F ρ (.IfExp t b o pos) (.list ((if c then x else y).map D.str)) :=
  (ev_ite ht h₁ h₂).as (by cases c <;> rfl)
theorem mul_ls {xs : List PySem.Str} {n : Int} (h0 : xs ≠ []) (hn : 0 ≤ n) (hn' : n < 2 ^ 63) (hz : xs.length * n.toNat ≤ 2 ^ 24) : Op2 W (binaryOp .Mult) (.list (xs.map D.str)) (.int n) (.list ((List.replicate n.toNat xs).flatten.map D.str)) := by
  have := mul_li (W := W) (xs := xs.map D.str) (n := n) (by simpa using h0) hn hn' (by simpa using hz)
  rwa [show (List.replicate n.toNat (xs.map D.str)).flatten = (List.replicate n.toNat xs).flatten.map D.str by rw [List.map_flatten, List.map_replicate]] at this
/-- a display of constants -/
def cInts : List Expr → Option (List Int)
  | [] => some []
  | .Constant (.int i) _ _ :: es => match cInts es with | some l => some (i :: l) | none => none
  | _ => none
def cStrs : List Expr → Option (List PySem.Str)
  | [] => some []
  | .Constant (.str i) _ _ :: es => match cStrs es with | some l => some (i :: l) | none => none
  | _ => none
theorem evs_cints : ∀ {es : List Expr} {ns : List Int}, cInts es = some ns → Evs F ρ es (ns.map D.int)
  | [], ns, h => by cases h; exact evs_nil
  | .Constant (.int i) _ _ :: es, ns, h => by
    unfold cInts at h
    cases e : cInts es with
    | none => rw [e] at h; cases h
    | some l => rw [e] at h; cases h; exact evs_cons ev_int (evs_cints e) fun _ => rfl
theorem evs_cstrs : ∀ {es : List Expr} {ns : List PySem.Str}, cStrs es = some ns → Evs F ρ es (ns.map D.str)
  | [], ns, h => by cases h; exact evs_nil
  | .Constant (.str i) _ _ :: es, ns, h => by
    unfold cStrs at h
    cases e : cStrs es with
    | none => rw [e] at h; cases h
    | some l => rw [e] at h; cases h; exact evs_cons ev_str (evs_cstrs e) fun _ => rfl
theorem ev_cints {es : List Expr} {pos : Pos} (ns : List Int) (h : cInts es = some ns) (hz : ns.length ≤ 16777216) : Ev F ρ (.List es pos) (.list (ns.map D.int)) := ev_list (evs_cints h) (by simpa using hz)
theorem ev_cstrs {es : List Expr} {pos : Pos} (ns : List PySem.Str) (h : cStrs es = some ns) (hz : ns.length ≤ 16777216) : Ev F ρ (.List es pos) (.list (ns.map D.str)) := ev_list (evs_cstrs h) (by simpa using hz)
/-- the tail of a program's statement list, by its place -/
def stAt (p : Program) (i : Nat) (j : Nat) : Stmt := (fnRec p i).body[j]?.getD (.Pass ⟨0, 0, 0, 0⟩)
end
end Mine

end

section
namespace Mine
open PySem PySem.Calls PyProof.Rows PySem.W
def prefOk : List PySem.Str → List PySem.Str → List NameKind → Bool
  | [], _, _ => true
  | n :: ns, x :: xs, k :: ks => n == x && (k == .local || k == .cell) && prefOk ns xs ks
  | _, _, _ => false
theorem pref_of : ∀ {ns xs : List PySem.Str} {ks : List NameKind}, prefOk ns xs ks = true → ∀ (k : Nat) x, ns[k]? = some x → xs[k]? = some x ∧ ∃ q, ks[k]? = some q ∧ (q = .local ∨ q = .cell)
  | [], _, _, _, k, x, h => by simp at h
  | n :: ns, x :: xs, q :: ks, h, k, y, hk => by
    simp only [prefOk, Bool.and_eq_true, beq_iff_eq, Bool.or_eq_true] at h
    cases k with
    | zero => simp at hk; subst hk; exact ⟨by simp [h.1.1], q, rfl, h.1.2⟩
    | succ k => simpa using pref_of h.2 k y (by simpa using hk)
theorem fn_by {W : Wd} {d : DefRec} {n : Nat} {ds : List D} {r : D} {rest : Nat} (S : Sig) (names : List PySem.Str) (hd : d ∈ recsOf W.p) (hsc : d.scope = S.sc) (hn : prefOk names S.xs S.ks = true) (hl : names.length = ds.length) (nd : names.Nodup)
    (hb : ∀ pm cd doc (vs : List Value), vs.length = names.length → bindArgs (docDef d.name d.params d.body d.scope pm cd doc) ⟨vs, []⟩ = pure (names.zip vs))
    (hnd : ((cellsFrom 0 d.scope.names []).map (·.1)).Nodup) (hco : d.scope.isCoroutine = false) (hgen : d.scope.isGenerator = false) (a₀ : ∃ h, W.Top h)
    (h : ∀ F : FI W S, F.lv = n → F.own = true → Ex F (ds.map Sl.val ++ List.replicate rest Sl.no) d.body (fun o => o = .ret r)) : Fn W (n + 1) d.name ds r :=
  fn_of S hd hsc names (pref_of hn) hl nd hb hnd hco hgen h a₀
end Mine

end

section
namespace Mine
open PySem PySem.Calls PyProof.Rows PySem.W Builtin Builtin.Str

/-- values that wait to be stored: data, or lists that nothing else holds -/
inductive Pend (P : Params) (G : Fz) (h h₀ : Heap) : List Value → List Sl → List Addr → Prop
  | nil : Pend P G h h₀ [] [] []
  | val {v : Value} {d : D} {vs : List Value} {sls : List Sl} {as : List Addr} : Rep P G v d → Pend P G h h₀ vs sls as → Pend P G h h₀ (v :: vs) (.val d :: sls) as
  | lst {a : Addr} {ws : List Value} {n : Nat} {ds : List D} {vs : List Value} {sls : List Sl} {as : List Addr} : h.get? a = some { cls := .type "list", data := .seq ws.toArray n } → RepAll P G ws ds → (∀ o, ¬ G a o) → h₀.get? a = none → a ∉ as →
      Pend P G h h₀ vs sls as → Pend P G h h₀ (.ref a :: vs) (.lst ds :: sls) (a :: as)
theorem Pend.none {P : Params} {G : Fz} {h h₀ : Heap} {vs : List Value} {sls : List Sl} {as : List Addr} (p : Pend P G h h₀ vs sls as) : ∀ a ∈ as, h₀.get? a = none := by
  induction p with
  | nil => intro a h; cases h
  | val _ _ ih => exact ih
  | lst _ _ _ h0 _ _ ih =>
    intro a h
    rcases List.mem_cons.mp h with rfl | h
    · exact h0
    · exact ih a h
theorem Pend.kp {P : Params} {G : Fz} {h h' h₀ : Heap} {vs : List Value} {sls : List Sl} {as : List Addr} (p : Pend P G h h₀ vs sls as) (k : ∀ a ∈ as, ∀ o, h.get? a = some o → h'.get? a = some o) : Pend P G h' h₀ vs sls as := by
  induction p with
  | nil => exact .nil
  | val r _ ih => exact .val r (ih k)
  | lst e r ng h0 hn _ ih => exact .lst (k _ List.mem_cons_self _ e) r ng h0 hn (ih fun a ha => k a (List.mem_cons_of_mem _ ha))
theorem Pend.mono {P : Params} {G : Fz} {h h₀ h₁ : Heap} {vs : List Value} {sls : List Sl} {as : List Addr} (p : Pend P G h h₁ vs sls as) (k : Kp h₀ h₁) : Pend P G h h₀ vs sls as := by
  induction p with
  | nil => exact .nil
  | val r _ ih => exact .val r ih
  | lst e r ng h0 hn _ ih => exact .lst e r ng (k.none h0) hn ih

section
variable {W : Wd} {S : Sig} {F : FI W S} {ρ : List Sl}
structure EvsM (F : FI W S) (ρ : List Sl) (es : List Expr) (sls : List Sl) : Prop where
  go : ∀ (pos : Pos) (G : Fz) (s : Shared) (Q : List Value → Shared → Prop), St F ρ G s.heap → 0 < s.toks →
    (∀ vs as h' tk G', s.toks ≤ tk → Kp s.heap h' → Gx s.heap G G' → Sub G' h' → Pend W.P G' h' s.heap vs sls as → Q vs { s with heap := h', toks := tk }) → wpAny W.M F.A (spliced (backTo pos (starEach es F.env))) Q NoE s
theorem evsm_nil : EvsM F ρ [] [] := .mk fun _ G s _ X _ H => wpAny_items_nil (H [] [] s.heap s.toks G (Nat.le_refl _) (Kp.refl _) (Gx.refl _ _) X.sub .nil)
theorem evsm_val {e : Expr} {es : List Expr} {d : D} {sls : List Sl} (h : Ev F ρ e d) (hs : EvsM F ρ es sls) (he : ∀ env, starEach (e :: es) env = (false, eval e env) :: starEach es env) : EvsM F ρ (e :: es) (.val d :: sls) := by
  refine .mk fun pos G s Q X h0 H => ?_
  refine wpAny_items_cons (h.then X h0 fun v h' tk G' ht k g X' r h0' => ?_) (he _)
  refine hs.go pos G' { s with heap := h', toks := tk } _ X' h0' fun vs as h'' tk₂ G'' ht₂ k₂ g₂ s₂ r₂ => ?_
  exact H (v :: vs) as h'' tk₂ G'' (Nat.le_trans ht ht₂) (k.trans k₂) (g.trans k g₂) s₂ (.val (r.mono g₂.sub) (r₂.mono k))
theorem evsm_lst {e : Expr} {es : List Expr} {ds : List D} {sls : List Sl} (h : EvF F ρ e ds) (hs : EvsM F ρ es sls) (he : ∀ env, starEach (e :: es) env = (false, eval e env) :: starEach es env) : EvsM F ρ (e :: es) (.lst ds :: sls) := by
  refine .mk fun pos G s Q X h0 H => ?_
  refine wpAny_items_cons (h.go G s _ X h0 fun a ws n h' tk G' ht k g sb hl ha hn r => ?_) (he _)
  refine hs.go pos G' { s with heap := h', toks := tk } _ (X.step k g sb) (Nat.lt_of_lt_of_le h0 ht) fun vs as h'' tk₂ G'' ht₂ k₂ g₂ s₂ r₂ => ?_
  refine H (.ref a :: vs) (a :: as) h'' tk₂ G'' (Nat.le_trans ht ht₂) (k.trans k₂) (g.trans k g₂) s₂ (.lst (k₂ _ _ hl) (r.mono g₂.sub) (fun o z => ?_) ha (fun z => ?_) (r₂.mono k))
  · rcases g₂.new _ _ z with z | z
    · exact hn o z
    · exact absurd (hl.symm.trans z) (by simp)
  · have := r₂.none a z
    exact absurd (hl.symm.trans this) (by simp)

def setSl (ρ : List Sl) : List Nat → List Sl → List Sl
  | k :: ks, d :: ds => setSl (ρ.set k d) ks ds
  | _, _ => ρ

/-- an address that no slot's list has -/
def FreeA (F : FI W S) (ρ : List Sl) (own : Nat → Addr) (a : Addr) : Prop :=
  a ≠ F.env.locals ∧ (∀ x c, (x, c) ∈ F.env.cells → a ≠ c) ∧ F.h₀.get? a = none ∧ ∀ j t, j < S.xs.length → ρ[j]? = some t → t.isLst → own j ≠ a
theorem FreeA.set {own : Nat → Addr} {a b : Addr} {k : Nat} {sl : Sl} (h : FreeA F ρ own a) (hb : sl.isLst → b ≠ a) : FreeA F (ρ.set k sl) (fun j => if j = k then b else own j) a :=
  ⟨h.1, h.2.1, h.2.2.1, fun j t hj ht q => by
    rcases set_get ht with ⟨e1, e2⟩ | ⟨hj', ht'⟩
    · subst e2; simp only [if_pos e1]; exact hb q
    · simp only [if_neg hj']; exact h.2.2.2 j t hj ht' q⟩

theorem store_slM {G : Fz} {s : Shared} {v : Value} {k : Nat} {x : PySem.Str} {a : Addr} {sl : Sl} {ml m : PySem.Str → Option Value} {own : Nat → Addr} {Q : Unit → Shared → Prop} (X : StM F ρ G s.heap ml m own) (hx : S.xs[k]? = some x) (hk : May F k) (B : Brings F ρ G s.heap own v k a sl)
    (h : ∀ h' tk ml' m', s.toks ≤ tk → StM F (ρ.set k sl) G h' ml' m' (fun j => if j = k then a else own j) → (∀ b o, b ≠ F.env.locals → (∀ x c, (x, c) ∈ F.env.cells → b ≠ c) → s.heap.get? b = some o → h'.get? b = some o) → Q () { s with heap := h', toks := tk }) :
    wpAny W.M F.A (storeName F.env x v) Q NoE s := by
  rcases hk with hk | ⟨hk, ho⟩
  · refine wpAny_storeName_local (F.kindOf hx hk) X.ns (fun h' hn hs => h h' _ _ _ (Nat.le_succ _) (X.storeL hx hk B hn hs) fun b o h1 _ e => hs.extBut b o h1 e) ?_
    rw [F.kind]; rfl
  · obtain ⟨c, hc⟩ := F.cells k x hx hk
    exact wpAny_storeName_cell F.kind (F.kindOf hx hk) hc (X.cel x c (F.kindOf hx hk) hc) fun h' hn hs => h h' s.toks _ _ (Nat.le_refl _) (X.storeC hx hk ho hc B hn hs) fun b o _ h2 e => hs.extBut b o (h2 x c (mem_of_lookup hc)) e

theorem assign_mix : ∀ {ts : List (Value → Sem Unit)} {ks : List Nat} {vs : List Value} {sls : List Sl} {as : List Addr} {ρ : List Sl} {G : Fz} {h₀ : Heap} {s : Shared} {ml m : PySem.Str → Option Value} {own : Nat → Addr} {Q : Unit → Shared → Prop}, Tgts F ts ks → Pend W.P G s.heap h₀ vs sls as → StM F ρ G s.heap ml m own →
    (∀ a ∈ as, FreeA F ρ own a) → (∀ h' tk, s.toks ≤ tk → St F (setSl ρ ks sls) G h' → Q () { s with heap := h', toks := tk }) → wpAny W.M F.A (assignInOrder ts vs) Q NoE s := by
  intro ts ks vs sls as ρ G h₀ s ml m own Q T
  induction T generalizing vs sls as ρ s ml m own with
  | nil => intro r X _ h; cases vs <;> exact wpAny_pure (h s.heap s.toks (Nat.le_refl _) (by cases r <;> exact ⟨_, _, _, X⟩))
  | @name x p ts ks k hx hk T ih =>
    intro r X fr h
    cases r with
    | nil => exact wpAny_pure (h s.heap s.toks (Nat.le_refl _) ⟨_, _, _, X⟩)
    | @val v d vs sls as r rs =>
      refine wpAny_bind (wpAny_holding (assign_Name (store_slM (sl := .val d) (a := 0) X hx hk ⟨⟨_, rfl, r⟩, fun q => q.elim⟩ fun h' tk ml' m' ht X' kb => ?_)))
      refine ih (s := { s with heap := h', toks := tk }) (rs.kp fun a ha o e => kb a o (fr a ha).1 (fr a ha).2.1 e) X' (fun a ha => (fr a ha).set fun q => q.elim) fun h'' tk' ht' X'' => h h'' tk' (Nat.le_trans ht ht') X''
    | @lst a ws n ds vs sls as e r ng h0 hn rs =>
      have fa := fr a List.mem_cons_self
      refine wpAny_bind (wpAny_holding (assign_Name (store_slM (sl := .lst ds) (a := a) X hx hk ⟨⟨rfl, ⟨ws, n, e, r⟩, ng⟩, fun _ => ⟨fa.1, fa.2.1, fa.2.2.1, fun j t _ hj ht q => fa.2.2.2 j t hj ht q⟩⟩ fun h' tk ml' m' ht X' kb => ?_)))
      refine ih (s := { s with heap := h', toks := tk }) (rs.kp fun b hb o e => kb b o (fr b (List.mem_cons_of_mem _ hb)).1 (fr b (List.mem_cons_of_mem _ hb)).2.1 e) X' (fun b hb => (fr b (List.mem_cons_of_mem _ hb)).set fun _ z => hn (z ▸ hb)) fun h'' tk' ht' X'' => h h'' tk' (Nat.le_trans ht ht') X''
  | @bind x ts ks k hx hk T ih =>
    intro r X fr h
    cases r with
    | nil => exact wpAny_pure (h s.heap s.toks (Nat.le_refl _) ⟨_, _, _, X⟩)
    | @val v d vs sls as r rs =>
      refine wpAny_bind (wpAny_holding (bindName_ (store_slM (sl := .val d) (a := 0) X hx hk ⟨⟨_, rfl, r⟩, fun q => q.elim⟩ fun h' tk ml' m' ht X' kb => ?_)))
      refine ih (s := { s with heap := h', toks := tk }) (rs.kp fun a ha o e => kb a o (fr a ha).1 (fr a ha).2.1 e) X' (fun a ha => (fr a ha).set fun q => q.elim) fun h'' tk' ht' X'' => h h'' tk' (Nat.le_trans ht ht') X''
    | @lst a ws n ds vs sls as e r ng h0 hn rs =>
      have fa := fr a List.mem_cons_self
      refine wpAny_bind (wpAny_holding (bindName_ (store_slM (sl := .lst ds) (a := a) X hx hk ⟨⟨rfl, ⟨ws, n, e, r⟩, ng⟩, fun _ => ⟨fa.1, fa.2.1, fa.2.2.1, fun j t _ hj ht q => fa.2.2.2 j t hj ht q⟩⟩ fun h' tk ml' m' ht X' kb => ?_)))
      refine ih (s := { s with heap := h', toks := tk }) (rs.kp fun b hb o e => kb b o (fr b (List.mem_cons_of_mem _ hb)).1 (fr b (List.mem_cons_of_mem _ hb)).2.1 e) X' (fun b hb => (fr b (List.mem_cons_of_mem _ hb)).set fun _ z => hn (z ▸ hb)) fun h'' tk' ht' X'' => h h'' tk' (Nat.le_trans ht ht') X''

/-- «a, b, c = x, y, z» in order, lists of the frame's own among them -/
theorem ex_unpack_mix {elts vals : List Expr} {n n' : Nat} {tpos vpos pos : Pos} {ks : List Nat} {sls : List Sl} (h : EvsM F ρ vals sls) (hl : (assignEach elts F.env).length = sls.length) (hz : sls.length ≤ 16777216) (hstar : (assignEach elts F.env).findIdx? (·.1) = none)
    (hT : Tgts F ((assignEach elts F.env).map (·.2)) ks) (hs : swapsWithSole [.Tuple elts n tpos] (.Tuple vals n' vpos) pos.line F.env = pure false) (hw : swappedStores [.Tuple elts n tpos] (.Tuple vals n' vpos) F.env = pure none) :
    Ex1 F ρ (.Assign [.Tuple elts n tpos] (.Tuple vals n' vpos) pos) (fun o => o = .next (setSl ρ ks sls)) := by
  refine .mk fun G s Q X h0 H => ?_
  have plen : ∀ {G : Fz} {h h₀ : Heap} {vs : List Value} {sls : List Sl} {as : List Addr}, Pend W.P G h h₀ vs sls as → vs.length = sls.length := by
    intro G h h₀ vs sls as p
    induction p with
    | nil => rfl
    | val _ _ ih => simp [ih]
    | lst _ _ _ _ _ _ ih => simp [ih]
  refine Assign_Tuple (wpAny_Tuple (h.go vpos G s _ X h0 fun vs as h' tk G' ht k g sb r => ⟨by rw [plen r]; exact hz, ?_⟩)) hs hw
  have q : (h'.push { cls := .type "tuple", data := .seq vs.toArray }).get? h'.objs.size = some { cls := .type "tuple", data := .seq vs.toArray } := Heap.get?_push_size _ rfl
  refine wpAny_assign_Tuple (s := { s with heap := h'.push { cls := .type "tuple", data := .seq vs.toArray }, toks := tk }) (items := vs.toArray) F.room.hh ⟨_, q, rfl, _, rfl⟩ (by rw [hl, List.size_toArray, plen r]) hstar fun h₂ he => ?_
  have k₁ : Kp h' h₂ := (Kp.push _ _).trans (kp_of_ext he)
  obtain ⟨ml, m, own, Y⟩ := X
  have Y₂ : StM F ρ G' h₂ ml m own := Y.step (k.trans k₁) g (fun a o e => k₁ _ _ (sb a o e))
  refine assign_mix (s := { s with heap := h₂, toks := tk }) hT (r.kp fun a _ o e => k₁ _ _ e) Y₂ (fun a ha => ?_) fun h₃ tk₃ ht₃ X₃ => H .next h₃ tk₃ G' (Nat.le_trans ht ht₃) ⟨_, rfl, X₃⟩
  have hn := r.none a ha
  refine ⟨?_, ?_, Y.keep.none hn, ?_⟩
  · rintro rfl; obtain ⟨o, _, _, e, _⟩ := Y.ns; rw [e] at hn; cases hn
  · rintro y c hy rfl; obtain ⟨o, e⟩ := Y.cl y _ hy; rw [e] at hn; cases hn
  · intro j t hj ht q e
    obtain ⟨y, hy⟩ : ∃ y, S.xs[j]? = some y := ⟨_, List.getElem?_eq_getElem hj⟩
    have := Y.slots j y t hy ht
    cases t with
    | lst ds => obtain ⟨_, ⟨_, _, q, _⟩, _⟩ := this; rw [e, hn] at q; cases q
    | _ => exact q
end
end Mine

end

section
namespace Mine
open PySem Builtin Builtin.Str

def scanS (w : List Nat) : List Nat → Nat → Nat → List Nat
  | [], _, _ => []
  | c :: l, 0, i => if w.isPrefixOf (c :: l) then i :: scanS w l (w.length - 1) (i + 1) else scanS w l 0 (i + 1)
  | _ :: l, k + 1, i => scanS w l k (i + 1)

theorem subAt_iff {s sub : PySem.Str} {A B C : List Nat} (hs : s.cps.toList = A ++ B ++ C) : (A.length + sub.length ≤ A.length + B.length ∧ subAt s sub A.length = true) ↔ sub.cps.toList.isPrefixOf B = true := by
  have hl : sub.length = sub.cps.toList.length := by simp [Str.length]
  have e : s.cps = (A ++ B ++ C).toArray := by rw [← hs]
  unfold subAt
  rw [List.isPrefixOf_iff_prefix, beq_iff_eq]
  constructor
  · rintro ⟨h1, h2⟩
    have h3 : (s.cps.extract A.length (A.length + sub.length)).toList = sub.cps.toList := by rw [h2]
    rw [e] at h3
    simp only [List.extract_toArray, List.extract_eq_take_drop, List.append_assoc, List.drop_left] at h3
    rw [Nat.add_sub_cancel_left, List.take_append_of_le_length (by omega)] at h3
    exact ⟨_, by rw [← h3]; exact List.take_append_drop ..⟩
  · rintro ⟨t, rfl⟩
    refine ⟨by simp [hl], ?_⟩
    apply Array.ext'
    rw [e]
    simp only [List.extract_toArray, List.extract_eq_take_drop, List.append_assoc, List.drop_left]
    rw [Nat.add_sub_cancel_left, List.take_left' hl.symm]

theorem occ_go (s sub : PySem.Str) (hi limit : Nat) (hw : 1 ≤ sub.length) (C : List Nat) : ∀ (B A : List Nat) (found : Array Nat) (free : Nat), s.cps.toList = A ++ B ++ C → hi = A.length + B.length → (hf : found.size < limit → True) →
    (forIn (List.range' A.length (B.length + 1)) (found, free) (StrLaws.occBody s sub hi limit)).run.fst.toList = found.toList ++ (scanS sub.cps.toList B (free - A.length) A.length).take (limit - found.size) := by
  intro B
  induction B with
  | nil =>
    intro A found free hs hhi _
    simp only [List.length_nil, Nat.zero_add, List.range'_one, List.forIn_cons, List.forIn_nil, scanS, List.take_nil, List.append_nil]
    unfold StrLaws.occBody
    rw [if_neg (by rintro ⟨⟨_, h⟩, _⟩; simp at hhi; omega)]
    rfl
  | cons c B ih =>
    intro A found free hs hhi _
    have hs' : s.cps.toList = (A ++ [c]) ++ B ++ C := by rw [hs]; simp
    have hhi' : hi = (A ++ [c]).length + B.length := by rw [hhi]; simp; omega
    have step : ∀ (st : Array Nat × Nat), (forIn (List.range' (A.length + 1) (B.length + 1)) st (StrLaws.occBody s sub hi limit)).run.fst.toList = st.1.toList ++ (scanS sub.cps.toList B (st.2 - (A.length + 1)) (A.length + 1)).take (limit - st.1.size) := by
      intro st
      have := ih (A ++ [c]) st.1 st.2 hs' hhi' (fun _ => trivial)
      simpa using this
    rw [List.length_cons, List.range'_succ, List.forIn_cons]
    unfold StrLaws.occBody
    have pre := subAt_iff (sub := sub) hs
    rw [← hhi] at pre
    by_cases hc : ((found.size < limit ∧ free ≤ A.length) ∧ A.length + sub.length ≤ hi) ∧ subAt s sub A.length = true
    · rw [if_pos hc]
      have hp := pre.mp ⟨hc.1.2, hc.2⟩
      have h0 : free - A.length = 0 := Nat.sub_eq_zero_of_le hc.1.1.2
      show (forIn _ (found.push A.length, A.length + sub.length) (StrLaws.occBody s sub hi limit)).run.fst.toList = _
      rw [step, h0, scanS, if_pos hp]
      obtain ⟨m, hm⟩ : ∃ m, limit - found.size = m + 1 := ⟨limit - found.size - 1, by have := hc.1.1.1; omega⟩
      have hl : sub.length = sub.cps.toList.length := by simp [Str.length]
      rw [hm, List.take_succ_cons]
      have e1 : limit - (found.push A.length).size = m := by simp; omega
      have e2 : A.length + sub.length - (A.length + 1) = sub.cps.toList.length - 1 := by rw [← hl]; omega
      dsimp only
      rw [e1, e2]
      simp
    · rw [if_neg hc]
      show (forIn _ (found, free) (StrLaws.occBody s sub hi limit)).run.fst.toList = _
      rw [step]
      dsimp only
      by_cases hlim : found.size < limit
      · by_cases hfr : free ≤ A.length
        · have hp : ¬ sub.cps.toList.isPrefixOf (c :: B) = true := fun q => hc ⟨⟨⟨hlim, hfr⟩, (pre.mpr q).1⟩, (pre.mpr q).2⟩
          have h0 : free - A.length = 0 := Nat.sub_eq_zero_of_le hfr
          rw [h0, scanS, if_neg hp, show free - (A.length + 1) = 0 by omega]
        · obtain ⟨m, hm⟩ : ∃ m, free - A.length = m + 1 := ⟨free - A.length - 1, by omega⟩
          rw [hm, scanS, show free - (A.length + 1) = m by omega]
      · have : limit - found.size = 0 := by omega
        rw [this, List.take_zero, List.take_zero]

theorem occ_scan {s sub : PySem.Str} {A B C : List Nat} (limit : Nat) (hs : s.cps.toList = A ++ B ++ C) (hw : 1 ≤ sub.length) :
    occurrences s sub A.length (A.length + B.length) limit = (scanS sub.cps.toList B 0 A.length).take limit := by
  rw [StrLaws.occ_eq]
  have := occ_go s sub (A.length + B.length) limit hw C B A #[] A.length hs rfl (fun _ => trivial)
  rw [show A.length + B.length + 1 - A.length = B.length + 1 by omega, this]
  simp
theorem occ_empty {s sub : PySem.Str} {lo hi : Nat} (limit : Nat) (h : hi ≤ lo) (hw : 1 ≤ sub.length) : occurrences s sub lo hi limit = [] := by
  rw [StrLaws.occ_eq]
  by_cases e : hi + 1 - lo = 0
  · rw [e]; rfl
  · have : hi + 1 - lo = 1 := by omega
    rw [this]
    simp only [List.range'_one, List.forIn_cons, List.forIn_nil]
    unfold StrLaws.occBody
    rw [if_neg (by rintro ⟨⟨_, h⟩, _⟩; omega)]
    rfl
end Mine

end

section
namespace Mine
open PySem Builtin Builtin.Str

/-- the signs of a text -/
abbrev cl (x : PySem.Str) : List Nat := x.cps.toList
abbrev mk (l : List Nat) : PySem.Str := ⟨l.toArray⟩
theorem cl_len (x : PySem.Str) : x.length = (cl x).length := by simp [Str.length]
theorem cl_mk (l : List Nat) : cl (mk l) = l := rfl
theorem mk_cl (x : PySem.Str) : mk (cl x) = x := rfl
theorem mk_len (l : List Nat) : (mk l).length = l.length := by simp [Str.length]
theorem cl_app (x y : PySem.Str) : cl (x ++ y) = cl x ++ cl y := by
  show (x.cps ++ y.cps).toList = _
  simp
theorem mk_app (a b : List Nat) : mk (a ++ b) = mk a ++ mk b := by
  have : cl (mk (a ++ b)) = cl (mk a ++ mk b) := by rw [cl_app]
  exact Str.ext' (Array.ext' this)

theorem scan_not {c : Nat} : ∀ {B : List Nat} {i : Nat}, c ∉ B → scanS [c] B 0 i = []
  | [], _, _ => rfl
  | b :: B, i, h => by
    rw [scanS, if_neg]
    · exact scan_not fun q => h (List.mem_cons_of_mem _ q)
    · simp; rintro rfl; exact h List.mem_cons_self
theorem scan_first {c : Nat} {B₂ : List Nat} : ∀ {B₁ : List Nat} {i : Nat}, c ∉ B₁ → scanS [c] (B₁ ++ c :: B₂) 0 i = (i + B₁.length) :: scanS [c] B₂ 0 (i + B₁.length + 1)
  | [], i, _ => by simp [scanS]
  | b :: B, i, h => by
    rw [List.cons_append, scanS, if_neg]
    · rw [scan_first fun q => h (List.mem_cons_of_mem _ q)]
      simp only [List.length_cons]
      rw [show i + 1 + B.length = i + (B.length + 1) by omega]
    · simp; rintro rfl; exact h List.mem_cons_self
theorem scan_count {c : Nat} : ∀ {B : List Nat} {i : Nat}, (scanS [c] B 0 i).length = B.count c
  | [], _ => rfl
  | b :: B, i => by
    rw [scanS, List.count_cons]
    by_cases e : c = b
    · subst e
      simp [scan_count]
    · rw [if_neg (by simpa using e), scan_count]
      simp [Ne.symm e]

/-- quotation marks without a backslash at once ahead -/
def nq (p : Bool) : List Nat → Nat
  | [] => 0
  | c :: l => (if c = 34 ∧ p = false then 1 else 0) + nq (c == 92) l
def lastBs (p : Bool) : List Nat → Bool
  | [] => p
  | c :: l => lastBs (c == 92) l
theorem nq_app : ∀ (a b : List Nat) (p : Bool), nq p (a ++ b) = nq p a + nq (lastBs p a) b
  | [], b, p => by simp [nq, lastBs]
  | c :: a, b, p => by simp [nq, lastBs, nq_app a b, Nat.add_assoc]
theorem scan_pair : ∀ (n : Nat) (B : List Nat) (i : Nat), B.length ≤ n → (scanS [92, 34] B 0 i).length + nq false B = B.count 34
  | _, [], i, _ => by simp [scanS, nq]
  | _, [b], i, _ => by
    rw [scanS, if_neg (by simp)]
    by_cases h : b = 34 <;> simp [scanS, nq, List.count_cons, h]
  | 0, _ :: _, _, h => by simp at h
  | n + 1, b :: c :: B, i, h => by
    by_cases hp : b = 92 ∧ c = 34
    · obtain ⟨rfl, rfl⟩ := hp
      have := scan_pair n B (i + 1 + 1) (by simp at h; omega)
      rw [scanS, if_pos (by simp), List.count_cons, List.count_cons]
      show ((i :: scanS [92, 34] B 0 (i + 1 + 1)).length) + _ = _
      simp [nq] at this ⊢
      omega
    · have := scan_pair n (c :: B) (i + 1) (by simp at h ⊢; omega)
      rw [scanS, if_neg (by simp; intro a b; exact hp ⟨a.symm, b.symm⟩), List.count_cons, nq]
      have e : nq (b == 92) (c :: B) = nq false (c :: B) := by
        by_cases hb : b = 92
        · have hc : c ≠ 34 := fun q => hp ⟨hb, q⟩
          rw [nq, nq, if_neg (fun q => hc q.1), if_neg (fun q => hc q.1)]
        · rw [show (b == 92) = false by simpa using hb]
      rw [e]
      by_cases hq : b = 34 <;> simp [hq] <;> omega

end Mine

end

section
namespace Mine
open PySem Builtin Builtin.Str

theorem from_nat (len n : Nat) : fromIndex len (n : Int) = n := by
  unfold fromIndex
  rw [if_neg (by omega)]
  omega
theorem end_nat {len n : Nat} (h : n ≤ len) : endIndex len (n : Int) = n := by
  unfold endIndex
  rw [if_neg (by omega)]
  omega
theorem find3_at {s y : PySem.Str} {A B C : List Nat} {c : Nat} {i : Int} (hy : y = mk [c]) (hs : cl s = A ++ B ++ c :: C) (hc : c ∉ B) (hi : i = A.length) : Txt.find3 s y i = A.length + B.length := by
  subst hy hi
  unfold Txt.find3
  rw [from_nat]
  have h1 : s.length = A.length + (B ++ c :: C).length := by rw [cl_len, hs]; simp
  rw [h1, occ_scan (A := A) (B := B ++ c :: C) (C := []) 1 (by rw [List.append_nil, ← List.append_assoc]; exact hs) (by simp [Str.length])]
  rw [scan_first hc]
  simp
theorem find3_none {s y : PySem.Str} {A B : List Nat} {c : Nat} {i : Int} (hy : y = mk [c]) (hs : cl s = A ++ B) (hc : c ∉ B) (hi : i = A.length) : Txt.find3 s y i = -1 := by
  subst hy hi
  unfold Txt.find3
  rw [from_nat]
  have h1 : s.length = A.length + B.length := by rw [cl_len, hs]; simp
  rw [h1, occ_scan (A := A) (B := B) (C := []) 1 (by rw [List.append_nil]; exact hs) (by simp [Str.length])]
  rw [scan_not hc]
  simp
theorem find4_at {s y : PySem.Str} {A B₁ B₂ C : List Nat} {c : Nat} {i j : Int} (hy : y = mk [c]) (hs : cl s = A ++ (B₁ ++ c :: B₂) ++ C) (hc : c ∉ B₁) (hi : i = A.length) (hj : j = A.length + (B₁ ++ c :: B₂).length) : find4 s y i j = A.length + B₁.length := by
  subst hy hi
  unfold find4
  have h1 : s.length = A.length + (B₁ ++ c :: B₂).length + C.length := by rw [cl_len, hs]; simp only [List.length_append]
  rw [from_nat, hj, show ((A.length : Int) + ((B₁ ++ c :: B₂).length : Int)) = ((A.length + (B₁ ++ c :: B₂).length : Nat) : Int) by simp, end_nat (by omega), occ_scan (A := A) (B := B₁ ++ c :: B₂) (C := C) 1 hs (by simp [Str.length]), scan_first hc]
  simp
theorem find4_none {s y : PySem.Str} {A B C : List Nat} {c : Nat} {i j : Int} (hy : y = mk [c]) (hs : cl s = A ++ B ++ C) (hc : c ∉ B) (hi : i = A.length) (hj : j = A.length + B.length) : find4 s y i j = -1 := by
  subst hy hi
  unfold find4
  have h1 : s.length = A.length + B.length + C.length := by rw [cl_len, hs]; simp only [List.length_append]
  rw [from_nat, hj, show ((A.length : Int) + (B.length : Int)) = ((A.length + B.length : Nat) : Int) by simp, end_nat (by omega), occ_scan (A := A) (B := B) (C := C) 1 hs (by simp [Str.length]), scan_not hc]
  simp
theorem scanS_len_le (w : List Nat) : ∀ (B : List Nat) (k i : Nat), (scanS w B k i).length ≤ B.length
  | [], _, _ => by simp [scanS]
  | c :: B, 0, i => by
    rw [scanS]
    split
    · simp; exact scanS_len_le w B _ _
    · have := scanS_len_le w B 0 (i + 1); simp; omega
  | c :: B, k + 1, i => by rw [scanS]; have := scanS_len_le w B k (i + 1); simp; omega
/-- what one turn adds: the quotation marks without a backslash at once ahead -/
theorem count_diff {s y z : PySem.Str} {A B C : List Nat} {i j : Int} (hy : y = mk [34]) (hz : z = mk [92, 34]) (hs : cl s = A ++ B ++ C) (hi : i = A.length) (hj : j = A.length + B.length) : count4 s y i j - count4 s z i j = nq false B := by
  subst hy hz hi
  unfold count4
  have h1 : s.length = A.length + B.length + C.length := by rw [cl_len, hs]; simp only [List.length_append]
  rw [from_nat, hj, show ((A.length : Int) + (B.length : Int)) = ((A.length + B.length : Nat) : Int) by simp, end_nat (by omega), occ_scan (A := A) (B := B) (C := C) _ hs (by simp [Str.length]), occ_scan (A := A) (B := B) (C := C) _ hs (by simp [Str.length])]
  have l1 := scanS_len_le [34] B 0 A.length
  have l2 := scanS_len_le [92, 34] B 0 A.length
  rw [List.take_of_length_le (by show (scanS [34] B 0 A.length).length ≤ _; omega), List.take_of_length_le (by show (scanS [92, 34] B 0 A.length).length ≤ _; omega)]
  have := scan_pair B.length B A.length (Nat.le_refl _)
  have e := scan_count (c := 34) (B := B) (i := A.length)
  show ((scanS [34] B 0 A.length).length : Int) - ((scanS [92, 34] B 0 A.length).length : Int) = _
  omega
theorem count_diff_empty {s y z : PySem.Str} {i j : Int} (hy : y = mk [34]) (hz : z = mk [92, 34]) (h : endIndex s.length j ≤ fromIndex s.length i) : count4 s y i j - count4 s z i j = 0 := by
  subst hy hz
  unfold count4
  rw [occ_empty _ h (by simp [Str.length]), occ_empty _ h (by simp [Str.length])]
  rfl
theorem range_pick {l : List Nat} (a : Nat) : ∀ n, a + n ≤ l.length → (((List.range n).map (a + ·)).filterMap (l[·]?)) = (l.drop a).take n := by
  intro n
  induction n with
  | zero => intro _; simp
  | succ n ih =>
    intro h
    rw [List.range_succ, List.map_append, List.filterMap_append, ih (by omega), List.take_add_one, List.getElem?_drop]
    simp [List.getElem?_eq_getElem (show a + n < l.length by omega)]
/-- a slice by two places in order -/
theorem strSl_seg {s : PySem.Str} {A B C : List Nat} {i j : Int} (hs : cl s = A ++ B ++ C) (hi : i = A.length) (hj : j = A.length + B.length) : strSl s (some i) (some j) none = mk B := by
  subst hi hj
  have h1 : s.length = A.length + B.length + C.length := by rw [cl_len, hs]; simp only [List.length_append]
  unfold strSl
  have e : strSliceIndices (some (A.length : Int)) (some ((A.length : Int) + B.length)) ((none : Option Int).getD 1) s.length = (List.range B.length).map (A.length + ·) := by
    unfold strSliceIndices
    simp only [Option.getD_none]
    rw [if_neg (show ¬ ((A.length : Int) < 0) by omega), if_neg (show ¬ ((A.length : Int) + B.length < 0) by omega), if_pos (show (1 : Int) > 0 by omega), if_pos (show (1 : Int) > 0 by omega), h1]
    have e1 : max 0 (min (A.length : Int) ((A.length + B.length + C.length : Nat) : Int)) = (A.length : Nat) := by omega
    have e2 : max 0 (min ((A.length : Int) + B.length) ((A.length + B.length + C.length : Nat) : Int)) = ((A.length + B.length : Nat) : Int) := by omega
    rw [e1, e2, sliceRange_one]
    congr 2
    omega
  rw [e]
  have pick : ((List.range B.length).map (A.length + ·)).filterMap (s.cps[·]?) = B := by
    have := range_pick (l := cl s) A.length B.length (by rw [hs]; simp only [List.length_append]; omega)
    simp only [Array.getElem?_toList] at this
    rw [this, hs, List.append_assoc, List.drop_left, List.take_left]
  split
  · rename_i c
    simp only [Option.getD_none, Bool.and_eq_true, beq_iff_eq, List.length_map, List.length_range] at c
    have hA : A = [] := List.eq_nil_of_length_eq_zero (by have := c.2; omega)
    have hC : C = [] := List.eq_nil_of_length_eq_zero (by have := c.2; omega)
    subst hA hC
    rw [← mk_cl s, hs]; simp
  · rw [pick]
end Mine

end

section
namespace Mine
open PySem PySem.Calls PyProof.Rows PySem.W Builtin Builtin.Str
def scOf : Expr → Scope
  | .ListComp _ _ sc _ => sc
  | _ => default
def exOf : Stmt → Expr
  | .Return (some e) _ => e
  | .Assign _ e _ => e
  | _ => .Constant .none 0 ⟨0, 0, 0, 0⟩
def lhs : Expr → Expr
  | .BinOp l _ _ _ => l
  | e => e
def rhs : Expr → Expr
  | .BinOp _ _ r _ => r
  | e => e
theorem slen (a b : PySem.Str) : (a ++ b).length = a.length + b.length := by rw [cl_len, cl_len, cl_len, cl_app, List.length_append]
theorem mulOk_small {x : PySem.Str} {n : Int} (h : x.length ≤ 1000) (h1 : 1 ≤ n) (h3 : n ≤ 3) : MulOk x n := by
  refine ⟨by simp; omega, fun _ _ => ?_, fun _ _ => ?_⟩
  · have : (2 ^ 63 - 1) / n ≥ 1000 := by
      rcases (show n = 1 ∨ n = 2 ∨ n = 3 by omega) with rfl | rfl | rfl <;> decide
    omega
  · unfold tooLong sizeLine
    have : x.length * n.toNat ≤ 1000 * 3 := Nat.mul_le_mul h (by omega)
    simp; omega
theorem itemS_len {ys : List PySem.Str} {n : Nat} (h : ∀ y ∈ ys, y.length ≤ n) (i : Int) : (itemS ys i).length ≤ n := by
  unfold itemS
  have : ∀ o : Option PySem.Str, (∀ y, o = some y → y ∈ ys) → (o.getD ⟨#[]⟩).length ≤ n := fun o ho => by
    cases o with
    | none => exact Nat.zero_le _
    | some y => exact h y (ho y rfl)
  split
  · exact this _ fun y e => List.mem_of_getElem? e
  · exact this _ fun y e => List.mem_of_getElem? e
theorem mul_len {x : PySem.Str} {n : Int} (h3 : n ≤ 3) : (Txt.mul x n).length ≤ 3 * x.length := by
  unfold Txt.mul
  split
  · exact Nat.zero_le _
  · split
    · omega
    · have : ∀ (k : Nat) (acc : Array Nat), ((List.replicate k x.cps).foldl (· ++ ·) acc).size = acc.size + k * x.length := by
        intro k
        induction k with
        | zero => intro acc; simp
        | succ k ih => intro acc; rw [List.replicate_succ, List.foldl_cons, ih, Array.size_append, Nat.succ_mul]; show acc.size + x.length + _ = _; omega
      show ((List.replicate n.toNat x.cps).foldl (· ++ ·) #[]).size ≤ _
      rw [this]
      have : n.toNat * x.length ≤ 3 * x.length := Nat.mul_le_mul_right _ (by omega)
      simpa using this
def cmpL : Expr → Expr
  | .Compare l _ _ _ => l
  | e => e
def cmpR : Expr → Expr
  | .Compare _ _ [r] _ => r
  | e => e
def arg0 : Expr → Expr
  | .Call _ (a :: _) _ _ => a
  | e => e
theorem joinOk_le {sep : PySem.Str} {ys : List PySem.Str} {n : Nat} (h : ∀ y ∈ ys, y.length + sep.length ≤ n) (hz : ys.length * n ≤ 16777216) : JoinOk sep ys = true := by
  unfold JoinOk tooLong sizeLine
  rw [StrLaws.joinTotal]
  have : (ys.map (·.length)).sum + ys.length * sep.length ≤ ys.length * n := by
    clear hz
    induction ys with
    | nil => simp
    | cons y ys ih =>
      have h1 := h y List.mem_cons_self
      have h2 := ih fun z hz => h z (List.mem_cons_of_mem _ hz)
      simp only [List.map_cons, List.sum_cons, List.length_cons, Nat.succ_mul] at h2 ⊢
      omega
  simp
  omega
theorem join_le {sep : PySem.Str} {ys : List PySem.Str} {n : Nat} (h : ∀ y ∈ ys, y.length + sep.length ≤ n) : (Txt.join sep ys).length ≤ ys.length * n := by
  show (glued sep ys).length ≤ _
  rw [StrLaws.glued_eq_join]
  refine Nat.le_trans (StrLaws.join_length_le sep ys) ?_
  induction ys with
  | nil => simp
  | cons y ys ih =>
    have h1 := h y List.mem_cons_self
    have h2 := ih fun z hz => h z (List.mem_cons_of_mem _ hz)
    simp only [List.map_cons, List.sum_cons, List.length_cons, Nat.succ_mul] at h2 ⊢
    omega
end Mine

end

section
namespace Mine
open PySem PySem.Calls PyProof.Rows PySem.W Builtin Builtin.Str PySem.SeqAt

section
variable {W : Wd} {S : Sig} {F : FI W S} {ρ : List Sl}
theorem te_cmp2 {l m r : Expr} {op₁ op₂ : CmpOp} {pos : Pos} {a b c : D} {x y : Bool} (h₁ : Ev F ρ l a) (h₂ : Ev F ρ m b) (h₃ : Ev F ρ r c) (o₁ : Op2 W (compareOp op₁) a b (.bool x)) (o₂ : Op2 W (compareOp op₂) b c (.bool y)) (hm : lastMarks [op₁, op₂] [m, r] = false) :
    Te F ρ (.Compare l [op₁, op₂] [m, r] pos) (x && y) := by
  refine .mk fun G s Q X h0 H => ?_
  refine isTrue_chain (h₁.then X h0 fun v h' tk G' ht k g X' r' h0' => ?_) hm
  refine test_link (h₂.then (s := { s with heap := h', toks := tk }) X' h0' fun v₂ h'' tk₂ G'' ht₂ k₂ g₂ X'' r'' h0'' => ?_)
  refine o₁ F.A G'' { s with heap := h'', toks := tk₂ } v v₂ _ F.room0 X''.topAt X''.sub h0'' (r'.mono g₂.sub) r'' ?_
  intro v₃ h₃' tk₃ G₃ ht₃ k₃ g₃ s₃ r₃
  cases r₃
  refine wpAny_truthy_bool ?_
  have X₃ := X''.step k₃ g₃ s₃
  have t₃ : s.toks ≤ tk₃ := Nat.le_trans ht (Nat.le_trans ht₂ ht₃)
  cases x with
  | false => exact H h₃' tk₃ G₃ t₃ (k.trans (k₂.trans k₃)) ((g.trans k g₂).trans (k.trans k₂) g₃) s₃
  | true =>
    refine test_last (h₃.then (s := { s with heap := h₃', toks := tk₃ }) X₃ (Nat.lt_of_lt_of_le h0 t₃) fun v₄ h₄ tk₄ G₄ ht₄ k₄ g₄ X₄ r₄ h0₄ => ?_)
    refine o₂ F.A G₄ { s with heap := h₄, toks := tk₄ } v₂ v₄ _ F.room0 X₄.topAt X₄.sub h0₄ ((r''.mono g₃.sub).mono g₄.sub) r₄ ?_
    intro v₅ h₅ tk₅ G₅ ht₅ k₅ g₅ s₅ r₅
    cases r₅
    exact wpAny_truthy_bool (H h₅ tk₅ G₅ (Nat.le_trans t₃ (Nat.le_trans ht₄ ht₅)) (k.trans (k₂.trans (k₃.trans (k₄.trans k₅)))) ((((g.trans k g₂).trans (k.trans k₂) g₃).trans (k.trans (k₂.trans k₃)) g₄).trans (k.trans (k₂.trans (k₃.trans k₄))) g₅) s₅)

/-- a list against the empty list -/
theorem ne_nil {ds : List D} : Op2 W (compareOp .NotEq) (.list ds) (.list (([] : List PySem.Str).map D.str)) (.bool (!ds.isEmpty)) := fun A G s u v Q hr hT hs h0 r r' H => by
  cases r with
  | list g rr =>
    rename_i l vs n
    cases r' with
    | list g' rr' =>
      rename_i l' vs' n'
      have e' : vs' = [] := List.eq_nil_of_length_eq_zero rr'.length
      subst e'
      have hu : A.units < cLine := hr.line
      cases ds with
      | nil =>
        have e : vs = [] := List.eq_nil_of_length_eq_zero rr.length
        subst e
        exact RcNeAt.lists ⟨_, hs _ _ g, rfl, _, rfl⟩ ⟨_, hs _ _ g', rfl, _, rfl⟩ rfl hu (e := fun _ => true) (fun j h1 h2 => absurd h1 (Nat.not_lt_zero _)) _ _ _ _ (H.here hs (Nat.le_refl _) (.bool _))
      | cons d ds =>
        have hl := rr.length
        exact RcNeAt.lists_lengths ⟨_, hs _ _ g, rfl, _, rfl⟩ ⟨_, hs _ _ g', rfl, _, rfl⟩ (by rw [List.size_toArray, hl]; rfl) hu _ _ _ _ (H.here hs (Nat.le_refl _) (.bool _))

/-- a dict display of texts -/
inductive CD : List (Option Expr) → List Expr → List (PySem.Str × PySem.Str) → Prop
  | nil : CD [] [] []
  | cons {k v : PySem.Str} {a c : Nat} {b d : Pos} {ks : List (Option Expr)} {vs : List Expr} {l : List (PySem.Str × PySem.Str)} : CD ks vs l → CD (some (.Constant (.str k) a b) :: ks) (.Constant (.str v) c d :: vs) ((k, v) :: l)
inductive PairsAre : List (Value × Value) → List (PySem.Str × Value) → List (PySem.Str × PySem.Str) → Prop
  | nil : PairsAre [] [] []
  | cons {k v : PySem.Str} {t u : Tok} {vs : List (Value × Value)} {kvs : List (PySem.Str × Value)} {l : List (PySem.Str × PySem.Str)} : PairsAre vs kvs l → PairsAre ((.str k t, .str v u) :: vs) ((k, .str v u) :: kvs) ((k, v) :: l)
theorem evalPairs_c {M : Model} {A : Around} {E : Value → Shared → Prop} {env : Env} {pos : Pos} {keys : List (Option Expr)} {values : List Expr} {l : List (PySem.Str × PySem.Str)} (h : CD keys values l) : ∀ {s : Shared} {Q : List (Value × Value) → Shared → Prop},
    (∀ vs kvs tk, s.toks ≤ tk → PairsAre vs kvs l → Q vs { s with toks := tk }) → wpAny M A (evalPairs (pairTrees keys values env pos)) Q E s := by
  induction h with
  | nil => intro s Q H; exact wpAny_pure (H [] [] s.toks (Nat.le_refl _) .nil)
  | @cons k v a c b d ks vs l h ih =>
    intro s Q H
    show wpAny M A (do
        let kv ← eval (.Constant (.str k) a b) env
        let vv ← holding [kv] (do let x ← eval (.Constant (.str v) c d) env; standAt pos; pure x)
        return (kv, vv) :: (← holding [kv, vv] (evalPairs (pairTrees ks vs env pos)))) Q E s
    refine wpAny_bind (wpAny_Constant_str (wpAny_bind (wpAny_holding (wpAny_bind (wpAny_Constant_str (wpAny_bind (wpAny_standAt (wpAny_pure ?_))))))))
    refine wpAny_bind (wpAny_holding (ih fun ws kvs tk ht p => wpAny_pure ?_))
    exact H _ ((k, .str v _) :: kvs) tk (Nat.le_trans (Nat.le_add_right _ 2) ht) (.cons p)
theorem isStr_self (k : PySem.Str) (t : Tok) : Value.isStrOf k (.str k t) = true := by simp [Value.isStrOf]
theorem PairsAre.carries {prog : Program} {w : World} {vs : List (Value × Value)} {kvs : List (PySem.Str × Value)} {l : List (PySem.Str × PySem.Str)} (h : PairsAre vs kvs l) : Carries (PySem.strKind prog w) vs kvs := by
  induction h with
  | nil => trivial
  | @cons k v t u vs kvs l _ ih => exact ⟨isStr_self k t, rfl, ih⟩
theorem PairsAre.keys {vs : List (Value × Value)} {kvs : List (PySem.Str × Value)} {l : List (PySem.Str × PySem.Str)} (h : PairsAre vs kvs l) : kvs.map (·.1) = l.map (·.1) := by
  induction h with
  | nil => rfl
  | cons _ ih => simp [ih]
theorem merged_new : ∀ (kvs acc : List (PySem.Str × Value)), ((acc ++ kvs).map (·.1)).Nodup → merged acc kvs = acc ++ kvs
  | [], acc, _ => by simp [merged]
  | (k, v) :: kvs, acc, h => by
    have e : stored acc k v = acc ++ [(k, v)] := by
      unfold stored
      rw [if_neg]
      intro q
      obtain ⟨p, hp, e⟩ := List.any_eq_true.mp q
      have e : p.1 = k := by simpa using e
      rw [List.map_append, List.nodup_append] at h
      exact h.2.2 p.1 (List.mem_map.mpr ⟨p, hp, rfl⟩) k (by simp) e
    show merged (stored acc k v) kvs = _
    rw [e, merged_new kvs (acc ++ [(k, v)]) (by simpa using h)]
    simp
theorem entries_of {prog : Program} {w : World} : ∀ {es : List DictEntry} {vs : List (Value × Value)} {kvs : List (PySem.Str × Value)} {l : List (PySem.Str × PySem.Str)}, PairsAre vs kvs l → Pairs (PySem.strKind prog w) es kvs → (∀ e ∈ es, ∃ k, (PySem.strKind prog w).is k e.key = true ∧ e.hash = (PySem.strKind prog w).hash k) →
    EntriesAre w.params es l := by
  intro es vs kvs l p
  induction p generalizing es with
  | nil => intro h _; cases h; exact .nil
  | @cons k v t u vs kvs l p ih =>
    intro h hk
    cases h with
    | @cons e _ es _ h1 h2 h3 =>
      obtain ⟨h, key, val⟩ := e
      have h1' : Value.isStrOf k key = true := h1
      obtain ⟨t', rfl⟩ := Value.isStrOf_shape h1'
      have h2' : val = .str v u := h2
      subst h2'
      obtain ⟨k', e1, e2⟩ := hk _ List.mem_cons_self
      have e1' : Value.isStrOf k' (.str k t') = true := e1
      have : k' = k := Value.isStrOf_inj _ _ _ e1' h1'
      subst this
      have e3 : h = PyData.keyHash w.params k' := e2
      rw [e3]
      exact .cons (ih h3 fun e he => hk e (List.mem_cons_of_mem _ he))
theorem ev_cdict {keys : List (Option Expr)} {values : List Expr} {pos : Pos} (l : List (PySem.Str × PySem.Str)) (hc : CD keys values l) (hall : keys.all (·.isSome) = true) (hl : keys.length = values.length) (h0 : keys ≠ []) (hlen : keys.length ≤ 15) (hnd : (l.map (·.1)).Nodup) :
    Ev F ρ (.Dict keys values pos) (.dict l) := by
  refine .mk fun G s Q X ht0 H => ?_
  refine wpAny_Dict_walk (knd := PySem.strKind W.prog W.w) hall hl h0 hlen ?_
  refine evalPairs_c (s := { s with heap := s.heap.push { cls := .type "dict", data := .dict #[] } }) hc fun vs kvs tk ht p => ?_
  refine ⟨kvs, p.carries, Heap.DictOf.new _, fun h' hd hs => ?_⟩
  rw [merged_new kvs [] (by simpa [p.keys] using hnd), List.nil_append] at hd
  obtain ⟨o, es, ep, ho, hex, hdat, hk, hp, _⟩ := hd
  obtain ⟨c, dd, dt, sl⟩ := o
  obtain ⟨e1, e2, e3⟩ := hex
  simp only at e1 e2 e3 hdat
  subst e1 e2 e3 hdat
  have kp : Kp s.heap h' := fun b o e => (hs.2 b (Nat.ne_of_lt (Heap.lt_size e))).trans (Heap.get?_push_of_some _ e)
  refine H _ h' _ (G.add s.heap.objs.size _) ?_ kp (Gx.add (size_none _)) (Sub.add (fun a o e => kp _ _ (X.sub a o e)) ho) ?_
  · exact Nat.le_trans ht (Nat.le_add_right _ _)
  · refine .dict (es := es.toList) (n := ep) (.inr ⟨rfl, by simp⟩) (entries_of p hp fun e he => hk e (Array.mem_def.mpr he)) ?_
    exact beq_eq_false_iff_ne.mpr (Nat.ne_of_gt (modules_low X.topAt.nolimit))
theorem find_entries {P : Params} {es : List DictEntry} {l : List (PySem.Str × PySem.Str)} (h : EntriesAre P es l) (k v : PySem.Str) (t : Tok) : ∃ u, ((es.find? fun e => Value.isStrOf k e.key).map (·.val)).getD (.str v t) = .str ((l.lookup k).getD v) u := by
  induction h with
  | nil => exact ⟨t, rfl⟩
  | @cons k' v' t' u' es l h ih =>
    obtain ⟨u, hu⟩ := ih
    by_cases e : k' = k
    · subst e
      refine ⟨u', ?_⟩
      rw [List.find?_cons_of_pos (by simp [Value.isStrOf]), List.lookup_cons]
      simp
    · refine ⟨u, ?_⟩
      rw [List.find?_cons_of_neg (by simp [Value.isStrOf, e]), List.lookup_cons, show (k == k') = false from beq_eq_false_iff_ne.mpr (Ne.symm e)]
      exact hu
theorem keys_entries {prog : Program} {w : World} {es : List DictEntry} {l : List (PySem.Str × PySem.Str)} (h : EntriesAre w.params es l) : ∀ e ∈ es, ∃ k, (PySem.strKind prog w).is k e.key = true ∧ e.hash = (PySem.strKind prog w).hash k := by
  induction h with
  | nil => intro e he; cases he
  | @cons k v t u es l h ih =>
    intro e he
    rcases List.mem_cons.mp he with rfl | he
    · exact ⟨k, isStr_self k t, rfl⟩
    · exact ih e he
theorem cal_get {l : List (PySem.Str × PySem.Str)} {k v : PySem.Str} : Cal W 0 (.builtin "dict.get") [.dict l, .str k, .str v] (.str ((l.lookup k).getD v)) := by
  intro A G s vs Q _ _ hs _ r H
  cases r with | cons r rs => cases rs with | cons r' rs => cases rs with | cons r'' rs =>
    cases rs; cases r'; cases r''
    rename_i t u
    cases r with
    | dict g en hne =>
      rename_i a es n
      obtain ⟨u', hu⟩ := find_entries en k v u
      refine call_meetsIn PySem.F.slot_dict_get ⟨_, hs _ _ g, rfl⟩ PySem.F.entry_dict_get (PySem.F.args_dict_get_3 _ _ _) (meets_dict_get_default (PySem.strKind W.prog W.w) (k := k) (key := .str k t) a (isStr_self k t) hne _) ?_
      refine ⟨fun k => findBy (PySem.strKind W.prog W.w).is es.toArray k, ⟨_, es.toArray, n, hs _ _ g, ⟨rfl, rfl, rfl⟩, rfl, fun e he => keys_entries en e (by simpa using he), fun _ => rfl⟩, ?_⟩
      have e : (findBy (PySem.strKind W.prog W.w).is es.toArray k).getD (.str v u) = .str ((l.lookup k).getD v) u' := by
        rw [← hu]
        unfold findBy
        rw [List.find?_toArray]
        rfl
      dsimp only
      rw [e]
      exact H.here hs (Nat.le_succ _) (.str _ _)
end
end Mine

end

section
namespace Mine
open PySem PySem.Calls PyProof.Rows PySem.W Builtin Builtin.Str PySem.SeqAt

section
variable {prog : Program} {w : World} {A : Around} {E : Value → Shared → Prop} {s : Shared}
/-- the last item of a plain list, set anew -/
theorem setItem_last {l : Addr} {vs : List Value} {u v : Value} {n : Nat} {t : Tok} {Q : Unit → Shared → Prop} (hl : s.heap.get? l = some { cls := .type "list", data := .seq (vs ++ [u]).toArray n })
    (hQ : ∀ h' n', h'.get? l = some { cls := .type "list", data := .seq (vs ++ [v]).toArray n' } → Heap.SameBut l s.heap h' → Q () { s with heap := h' }) :
    wpAny (model prog w) A (setItem (.ref l) (.int (-1) t) v) Q E s := by
  have hT : s.TypeIs (.ref l) "list" := ⟨_, hl, rfl⟩
  unfold setItem
  try with_reducible refine wpAny_holding ?_
  first | refine wpAny_bind (wpAny_pure ?_) | skip
  refine wpAny_bind (wpAny_sequenceKey hT (by decide) ?_)
  refine wpAny_bind (wpAny_callSpecial?_slot (name := PySem.Str.ofString "__setitem__") hT PySem.F.slot_list_setitem
    (wpAny_call_entry PySem.F.slot_list_setitem hT PySem.F.entry_list_setitem ?_ (PySem.F.args_list_setitem_3 _ _ _)))
  show wpAny _ _ (Builtin.List.listSubscript? (.int (-1) t) >>= _) _ _ s
  refine wpAny_bind (wpAny_listSubscript_int (fitsIndex_neg (by decide) (by decide)) ?_)
  have hidx : seqIndex? (-1) (vs ++ [u]).toArray.size = some vs.length := by
    rw [seqIndex_neg (by decide) (by simp; omega)]
    congr 1
    simp
    omega
  show wpAny _ _ ((Builtin.List.listItems (.ref l) >>= fun xs => pure ((seqIndex? (Int.negSucc 0) xs.size).bind fun i => xs[i]?.map (i, ·))) >>= _) _ _ s
  refine wpAny_bind (wpAny_bind ?_)
  show wpAny _ _ (seqItems? (.ref l) >>= _) _ _ s
  refine wpAny_bind (wpAny_seqItems hl rfl (wpAny_pure (wpAny_pure ?_)))
  have e1 : seqIndex? (Int.negSucc 0) (vs ++ [u]).toArray.size = some vs.length := hidx
  rw [e1]
  have hx : (vs ++ [u]).toArray[vs.length]? = some u := by simp
  simp only [Option.bind_some, hx, Option.map_some]
  show wpAny _ _ (setSeqItemAt l vs.length v >>= _) _ _ s
  refine wpAny_bind (wpAny_setSeqItemAt hl rfl ?_)
  have hset : (vs ++ [u]).toArray.setIfInBounds vs.length v = (vs ++ [v]).toArray := by
    apply Array.ext'
    simp
  have key : ∃ n', (s.heap.update l (Obj.mapSeq (·.setIfInBounds vs.length v))).get? l = some { cls := .type "list", data := .seq (vs ++ [v]).toArray n' } := by
    refine ⟨if ((vs ++ [u]).toArray.setIfInBounds vs.length v).size == (vs ++ [u]).toArray.size then n else n + 1, (Heap.get?_update_self _ hl rfl).trans ?_⟩
    rw [← hset]
    rfl
  obtain ⟨n', hn'⟩ := key
  first
    | exact wpAny_bind (wpAny_pure (wpAny_pure ⟨.none, rfl, wpAny_pure (hQ _ n' hn' (Heap.SameBut.update ..))⟩))
    | exact wpAny_pure ⟨.none, rfl, wpAny_pure (hQ _ n' hn' (Heap.SameBut.update ..))⟩
end
section
variable {W : Wd} {S : Sig} {F : FI W S} {ρ : List Sl}
theorem rep_snoc {P : Params} {G : Fz} : ∀ {ds : List D} {vs : List Value} {a : D}, RepAll P G vs (ds ++ [a]) → ∃ ws u, vs = ws ++ [u] ∧ RepAll P G ws ds ∧ Rep P G u a
  | [], vs, a, h => by
    cases h with
    | cons r rs => cases rs; exact ⟨[], _, rfl, .nil, r⟩
  | d :: ds, vs, a, h => by
    cases h with
    | cons r rs =>
      obtain ⟨ws, u, rfl, r1, r2⟩ := rep_snoc rs
      exact ⟨_ :: ws, u, rfl, .cons r r1, r2⟩
/-- «x[-1] += e» on an own list -/
theorem ex_aug_last {x : PySem.Str} {p₁ tpos pos : Pos} {i e : Expr} {op : Operator} {a b d : D} {ds : List D} (k : Nat) (hx : S.xs[k]? = some x) (hk : S.ks[k]? = some .local ∨ S.ks[k]? = some .cell) (hr : ρ[k]? = some (.lst (ds ++ [a]))) (hi : Ev F ρ i (.int (-1))) (h : Ev F ρ e b)
    (ho : Op2 W (inplaceOp op) a b d) (hz : ds.length ≤ 1048576) (hd : (x == ("__debug__" : PySem.Str)) = false) (hst : ∀ ov iv new, augStore i ov iv new = (do holding [new, ov, iv] (setItem ov iv new); release [new, ov, iv] []; pure .next)) :
    Ex1 F ρ (.AugAssign (.Subscript (.Name x p₁) i tpos) op e pos) (fun o => o = .next (ρ.set k (.lst (ds ++ [d])))) := by
  refine .mk fun G s Q X h0 H => ?_
  have hlt := (List.getElem?_eq_some_iff.mp hx).1
  obtain ⟨ml, m, own, X⟩ := X
  obtain ⟨e', ⟨vs, n, q, r⟩, ng⟩ := X.slots k x _ hx hr
  obtain ⟨ws, u, rfl, rw, ru⟩ := rep_snoc r
  have load : ∀ (Q' : Value → Shared → Prop), Q' (.ref (own k)) s → wpAny W.M F.A (eval (.Name x p₁) F.env) Q' NoE s := by
    intro Q' hQ
    rcases hk with hk | hk
    · exact wpAny_Name (wpAny_loadName_local F.kind (F.kindOf hx hk) X.ns ((X.loc x (F.kindOf hx hk)) ▸ e') hQ) hd
    · obtain ⟨c, hc⟩ := F.cells k x hx hk
      exact wpAny_Name (wpAny_loadName_cell F.kind (F.kindOf hx hk) hc (e' ▸ X.cel x c (F.kindOf hx hk) hc) hQ) hd
  refine wpAny_AugAssign_SubscriptAny (load _ ?_) hst
  refine hi.then ⟨ml, m, own, X⟩ h0 fun iv h₁ tk₁ G₁ ht₁ k₁ g₁ X₁ r₁ h0₁ => ?_
  cases r₁
  rename_i t
  have hlen : (ws ++ [u]).toArray.size = ws.length + 1 := by simp
  refine wpAny_getItem_list_neg (s := { s with heap := h₁, toks := tk₁ }) (items := (ws ++ [u]).toArray) (x := u) ⟨_, k₁ _ _ q, rfl, n, rfl⟩ (by decide) (by rw [hlen]; omega) (by decide) ?_ ?_
  · rw [hlen, show ((-1 : Int) + ((ws.length + 1 : Nat) : Int)).toNat = ws.length by omega]; simp
  refine h.then (s := { s with heap := h₁, toks := tk₁ }) X₁ h0₁ fun v h₂ tk₂ G₂ ht₂ k₂ g₂ X₂ r₂ h0₂ => ?_
  refine ho F.A G₂ { s with heap := h₂, toks := tk₂ } u v _ F.room0 X₂.topAt X₂.sub h0₂ ((ru.mono g₁.sub).mono g₂.sub) r₂ fun w h₃ tk₃ G₃ ht₃ k₃ g₃ s₃ r₃ => ?_
  have kk : Kp s.heap h₃ := k₁.trans (k₂.trans k₃)
  have gg : Gx s.heap G G₃ := (g₁.trans k₁ g₂).trans (k₁.trans k₂) g₃
  have X₃ := X.step kk gg s₃
  refine setItem_last (s := { s with heap := h₃, toks := tk₃ }) (vs := ws) (u := u) (kk _ _ q) fun h₄ n' hl₄ hs₄ => ?_
  exact H .next h₄ tk₃ G₃ (Nat.le_trans ht₁ (Nat.le_trans ht₂ ht₃)) ⟨_, rfl, ml, m, own, X₃.grow hlt hr hs₄ (vs := ws ++ [w]) (n := n') hl₄ ((rw.mono gg.sub).append (.cons r₃ .nil))⟩
end
end Mine

end

section
namespace Mine
open PySem PySem.Calls PyProof.Rows PySem.W Builtin Builtin.Str

abbrev pw : Program := PySem.Challenge.pw_dm0094_04
def S_pp : Sig := Sig.of [("s" : PySem.Str), "plist", "start", "end", "ind", "diff", "i", "f"] [.local, .local, .local, .local, .local, .local, .local, .local] (fnRec pw 1).scope (by decide +kernel)

/-- the text cut at its semicolons -/
def spl : List Nat → List Nat × List (List Nat)
  | [] => ([], [])
  | c :: l => if c = 59 then ([], (spl l).1 :: (spl l).2) else (c :: (spl l).1, (spl l).2)
theorem spl_no : ∀ {B : List Nat}, 59 ∉ B → spl B = (B, [])
  | [], _ => rfl
  | b :: B, h => by
    have hb : b ≠ 59 := fun e => h (e ▸ List.mem_cons_self)
    rw [spl, if_neg hb, spl_no fun q => h (List.mem_cons_of_mem _ q)]
theorem spl_at {R : List Nat} : ∀ {B : List Nat}, 59 ∉ B → spl (B ++ 59 :: R) = (B, (spl R).1 :: (spl R).2)
  | [], _ => by simp [spl]
  | b :: B, h => by
    have hb : b ≠ 59 := fun e => h (e ▸ List.mem_cons_self)
    rw [List.cons_append, spl, if_neg hb, spl_at fun q => h (List.mem_cons_of_mem _ q)]
/-- chunks joined while a quotation is open -/
def grp (cur : List Nat) : List (List Nat) → List (List Nat)
  | [] => [cur]
  | c :: cs => if nq false cur % 2 = 1 then grp (cur ++ 59 :: c) cs else cur :: grp c cs
def pieces (l : List Nat) : List (List Nat) := grp (spl l).1 (spl l).2
/-- a piece as it is given: stripped, the name in small letters -/
def cleanS (p : List Nat) : PySem.Str :=
  if 61 ∈ p then Txt.strip (Txt.lower (Txt.rstrip (mk (p.takeWhile (· != 61)))) ++ "=" ++ Txt.lstrip (mk (p.dropWhile (· != 61)).tail))
  else Txt.strip (mk p)
theorem mem_split : ∀ {c : Nat} {l : List Nat}, c ∈ l → ∃ a b, l = a ++ c :: b ∧ c ∉ a
  | c, [], h => by cases h
  | c, x :: l, h => by
    by_cases e : x = c
    · exact ⟨[], l, by simp [e], by simp⟩
    · obtain ⟨a, b, h1, h2⟩ := mem_split ((List.mem_cons.mp h).resolve_left (Ne.symm e))
      exact ⟨x :: a, b, by simp [h1], fun q => (List.mem_cons.mp q).elim (fun q => e q.symm) h2⟩
theorem takeW {c : Nat} : ∀ {a b : List Nat}, c ∉ a → (a ++ c :: b).takeWhile (· != c) = a
  | [], b, _ => by simp
  | x :: a, b, h => by
    have : x ≠ c := fun e => h (e ▸ List.mem_cons_self)
    simp [this, takeW fun q => h (List.mem_cons_of_mem _ q)]
theorem dropW {c : Nat} : ∀ {a b : List Nat}, c ∉ a → (a ++ c :: b).dropWhile (· != c) = c :: b
  | [], b, _ => by simp
  | x :: a, b, h => by
    have : x ≠ c := fun e => h (e ▸ List.mem_cons_self)
    simp [this, dropW fun q => h (List.mem_cons_of_mem _ q)]

/-- what the inner loop leaves: the end of the piece -/
def Found (st : Nat) (T : List Nat) (e : Int) : Prop :=
  ∃ p, (∃ R, T = p ++ 59 :: R ∧ e = st + p.length ∧ pieces T = p :: pieces R) ∨ (p = T ∧ e = -1 ∧ pieces T = [T])

section
variable {W : Wd} {F : FI W S_pp} {x : PySem.Str}

/-- the inner loop's states -/
def InA (st : Nat) (T : List Nat) (n : Nat) (e i d : Int) : Prop :=
  ∃ U V R, T = U ++ V ++ 59 :: R ∧ 59 ∉ V.tail ∧ (U = [] ∧ 59 ∉ V ∨ V.head? = some 59) ∧ pieces T = grp (U ++ V) ((spl R).1 :: (spl R).2) ∧ e = st + U.length + V.length ∧ i = st + U.length ∧ d = nq false U ∧ n = 2 * R.length + 3
def InB (st : Nat) (T : List Nat) (n : Nat) (e i d : Int) : Prop :=
  ∃ U v V R, T = U ++ v :: V ++ 59 :: R ∧ 59 ∉ V ∧ pieces T = grp (U ++ v :: V) ((spl R).1 :: (spl R).2) ∧ e = st + U.length ∧ d = nq false (U ++ v :: V) ∧ nq false (U ++ v :: V) % 2 = 1 ∧ n = 2 * R.length + 2 ∧
    ((∃ c R', R = c ++ 59 :: R' ∧ 59 ∉ c ∧ i = st + U.length + (V.length + 1) + 1 + c.length) ∨ (59 ∉ R ∧ i = -1))
def InC (T : List Nat) (n : Nat) (e : Int) : Prop := e = -1 ∧ pieces T = [T] ∧ n = 0

theorem nq_seam {U V : List Nat} (h : U = [] ∨ V.head? = some 59) : nq false (U ++ V) = nq false U + nq false V := by
  rw [nq_app]
  rcases h with rfl | h
  · simp [lastBs]
  · cases V with
    | nil => cases h
    | cons v V =>
      simp at h
      subst h
      simp [nq]

theorem pieces_start {c R : List Nat} (h : 59 ∉ c) : pieces (c ++ 59 :: R) = grp c ((spl R).1 :: (spl R).2) := by
  unfold pieces; rw [spl_at h]
theorem pieces_one {c : List Nat} (h : 59 ∉ c) : pieces c = [c] := by
  unfold pieces; rw [spl_no h]; rfl

def stOf (ss : List Stmt) (i : Nat) : Stmt := ss[i]?.getD (.Pass ⟨0, 0, 0, 0⟩)
def bodyOf : Stmt → List Stmt
  | .While _ b _ _ => b
  | .For _ _ b _ _ => b
  | _ => []
abbrev ppInner : Stmt := stOf (bodyOf (stOf (fnRec pw 1).body 3)) 3

theorem pp_inner {s : PySem.Str} {ps : List D} {A T : List Nat} {e₀ : Int} {i₀ f₀ : Sl} (hs : cl s = A ++ 59 :: T) (h0 : ∃ n, InA (A.length + 1) T n e₀ (A.length + 1) 0 ∨ InC T n e₀) :
    Ex1 F [.val (.str s), .lst ps, .val (.int (A.length + 1)), .val (.int e₀), .val (.int (A.length + 1)), .val (.int 0), i₀, f₀] ppInner
      (fun o => ∃ e i d, o = .next [.val (.str s), .lst ps, .val (.int (A.length + 1)), .val (.int e), .val (.int i), .val (.int d), i₀, f₀] ∧ Found (A.length + 1) T e) := by
  obtain ⟨n₀, h0⟩ := h0
  have hlen : s.length = A.length + 1 + T.length := by rw [cl_len, hs]; simp; omega
  have y34 : (PySem.Str.ofString "\"") = mk [34] := by decide +kernel
  have y92 : (PySem.Str.ofString "\\\"") = mk [92, 34] := by decide +kernel
  have y59 : (PySem.Str.ofString ";") = mk [59] := by decide +kernel
  refine ex_while (n := n₀) (fun n ρ => ∃ e i d, ρ = [.val (.str s), .lst ps, .val (.int (A.length + 1)), .val (.int e), .val (.int i), .val (.int d), i₀, f₀] ∧ (InA (A.length + 1) T n e i d ∨ InB (A.length + 1) T n e i d ∨ InC T n e))
    ⟨e₀, A.length + 1, 0, rfl, h0.imp id .inr⟩ ?_
  rintro n ρ ⟨e, i, d, rfl, hI⟩
  refine ⟨_, (te_cmp (ev_name 3 rfl rfl rfl (by decide +kernel)) ev_int gt_ii rfl), fun hb => ?_, fun hb => ?_⟩
  · refine ex_seq (ex_aug 5 rfl (ev_binop (ev_meth (ev_name 0 rfl rfl rfl (by decide +kernel)) (evs_cons ev_str (evs_cons (ev_name 4 rfl rfl rfl (by decide +kernel)) (evs_cons (ev_name 3 rfl rfl rfl (by decide +kernel)) evs_nil fun _ => rfl) fun _ => rfl) fun _ => rfl) .str PySem.F.plainAttrs_str PySem.F.slot_str_count PySem.F.type_str_count cal_count4 (fun _ => rfl) (fun _ => rfl) rfl (by decide)) (ev_meth (ev_name 0 rfl rfl rfl (by decide +kernel)) (evs_cons ev_str (evs_cons (ev_name 4 rfl rfl rfl (by decide +kernel)) (evs_cons (ev_name 3 rfl rfl rfl (by decide +kernel)) evs_nil fun _ => rfl) fun _ => rfl) fun _ => rfl) .str PySem.F.plainAttrs_str PySem.F.slot_str_count PySem.F.type_str_count cal_count4 (fun _ => rfl) (fun _ => rfl) rfl (by decide)) sub_ii) iadd_ii rfl (.inl rfl) (by decide +kernel)) ?_
    have hb' : 0 < e := by simpa using hb
    rcases hI with ⟨U, V, R, hT, hV, hseam, hp, he, hi, hd, hn⟩ | ⟨U, v, V, R, hT, hV, hp, he, hd, hodd, hn, hnext⟩ | ⟨he, _, _⟩
    · -- a stretch with its end found
      have hs₁ : cl s = (A ++ 59 :: U) ++ V ++ (59 :: R) := by rw [hs, hT]; simp
      have hcd := count_diff (i := i) (j := e) y34 y92 hs₁ (by rw [hi]; simp; omega) (by rw [he]; simp; omega)
      rw [hcd]
      have hq : nq false (U ++ V) = nq false U + nq false V := nq_seam (hseam.imp (·.1) id)
      refine ex_cons (ex_if (te_cmp (ev_binop (ev_name 5 rfl rfl rfl (by decide +kernel)) ev_int (mod_ii (by decide))) ev_int eq_ii rfl) (fun h => ?_) (fun h => ?_))
      · refine ex_cons (ex_brk ?_)
        have hev : ¬ nq false (U ++ V) % 2 = 1 := by
          have : (d + (nq false V : Int)) % 2 = 0 := by simpa using h
          omega
        refine ⟨_, _, _, rfl, U ++ V, .inl ⟨R, by rw [hT], by rw [he]; simp; omega, ?_⟩⟩
        rw [hp, grp, if_neg hev]
        rfl
      · refine ex_nil ?_
        have hodd : nq false (U ++ V) % 2 = 1 := by
          have : ¬ (d + (nq false V : Int)) % 2 = 0 := by simpa using h
          omega
        cases V with
        | nil =>
          exfalso
          rcases hseam with ⟨hU, _⟩ | hh
          · subst hU; simp [nq] at hodd
          · simp at hh
        | cons v V =>
          simp at hV
          refine ex_seq (ex_swap (names := ["end", "ind"]) (ev_tuple (evs_cons (ev_name 4 rfl rfl rfl (by decide +kernel)) (evs_cons (ev_meth (ev_name 0 rfl rfl rfl (by decide +kernel)) (evs_cons ev_str (evs_cons (ev_binop (ev_name 3 rfl rfl rfl (by decide +kernel)) ev_int add_ii) evs_nil fun _ => rfl) fun _ => rfl) .str PySem.F.plainAttrs_str PySem.F.slot_str_find PySem.F.type_str_find cal_find3 (fun _ => rfl) (fun _ => rfl) rfl (by decide)) evs_nil fun _ => rfl) fun _ => rfl) (Nat.le_of_ble_eq_true rfl)) rfl (.bind 4 rfl (.inl rfl) (.bind 3 rfl (.inl rfl) .nil)) rfl (swap_ok F (by kernel_rfl))) ?_
          refine ex_nil ?_
          by_cases hR : 59 ∈ R
          · obtain ⟨c, R', hc, hc'⟩ := mem_split hR
            refine ⟨2 * R.length + 2, by omega, _, _, _, rfl, .inr (.inl ⟨U, v, V, R, hT, hV, hp, by rw [hi], by omega, hodd, rfl, .inl ⟨c, R', hc, hc', ?_⟩⟩)⟩
            have hs₂ : cl s = (A ++ 59 :: (U ++ v :: V) ++ [59]) ++ c ++ 59 :: R' := by rw [hs, hT, hc]; simp
            rw [find3_at y59 hs₂ hc' (by rw [he]; simp; omega)]
            simp; omega
          · refine ⟨2 * R.length + 2, by omega, _, _, _, rfl, .inr (.inl ⟨U, v, V, R, hT, hV, hp, by rw [hi], by omega, hodd, rfl, .inr ⟨hR, ?_⟩⟩)⟩
            have hs₂ : cl s = (A ++ 59 :: (U ++ v :: V) ++ [59]) ++ R := by rw [hs, hT]; simp
            rw [find3_none y59 hs₂ hR (by rw [he]; simp; omega)]
    · -- the places are exchanged: nothing is counted
      have hTl : T.length = U.length + (V.length + 1) + 1 + R.length := by rw [hT]; simp; omega
      have hcd : count4 s (PySem.Str.ofString "\"") i e - count4 s (PySem.Str.ofString "\\\"") i e = 0 := by
        refine count_diff_empty y34 y92 ?_
        rw [he, show ((A.length + 1 : Nat) : Int) + (U.length : Int) = ((A.length + 1 + U.length : Nat) : Int) by simp, end_nat (by omega)]
        rcases hnext with ⟨c, R', _, _, hi⟩ | ⟨_, hi⟩
        · rw [hi, show ((A.length + 1 : Nat) : Int) + (U.length : Int) + ((V.length : Int) + 1) + 1 + (c.length : Int) = ((A.length + 1 + U.length + (V.length + 1) + 1 + c.length : Nat) : Int) by simp, from_nat]
          omega
        · rw [hi]
          unfold fromIndex
          rw [if_pos (by omega)]
          omega
      rw [hcd]
      refine ex_cons (ex_if (te_cmp (ev_binop (ev_name 5 rfl rfl rfl (by decide +kernel)) ev_int (mod_ii (by decide))) ev_int eq_ii rfl) (fun h => ?_) (fun h => ?_))
      · exfalso
        have : (d + 0) % 2 = 0 := by simpa using h
        omega
      · refine ex_nil ?_
        refine ex_seq (ex_swap (names := ["end", "ind"]) (ev_tuple (evs_cons (ev_name 4 rfl rfl rfl (by decide +kernel)) (evs_cons (ev_meth (ev_name 0 rfl rfl rfl (by decide +kernel)) (evs_cons ev_str (evs_cons (ev_binop (ev_name 3 rfl rfl rfl (by decide +kernel)) ev_int add_ii) evs_nil fun _ => rfl) fun _ => rfl) .str PySem.F.plainAttrs_str PySem.F.slot_str_find PySem.F.type_str_find cal_find3 (fun _ => rfl) (fun _ => rfl) rfl (by decide)) evs_nil fun _ => rfl) fun _ => rfl) (Nat.le_of_ble_eq_true rfl)) rfl (.bind 4 rfl (.inl rfl) (.bind 3 rfl (.inl rfl) .nil)) rfl (swap_ok F (by kernel_rfl))) ?_
        refine ex_nil ?_
        have hs₂ : cl s = (A ++ 59 :: U ++ [v]) ++ V ++ 59 :: R := by rw [hs, hT]; simp
        rw [find3_at y59 hs₂ hV (by rw [he]; simp; omega)]
        rcases hnext with ⟨c, R', hR, hc, hi⟩ | ⟨hR, hi⟩
        · refine ⟨2 * R'.length + 3, by rw [hn, hR]; simp; omega, _, _, _, rfl, .inl ⟨U ++ v :: V, 59 :: c, R', by rw [hT, hR]; simp, by simpa using hc, .inr rfl, ?_, by rw [hi]; simp; omega, by simp; omega, by omega, rfl⟩⟩
          rw [hp, grp, if_pos hodd, hR, spl_at hc]
        · refine ⟨0, by omega, _, _, _, rfl, .inr (.inr ⟨hi, ?_, rfl⟩)⟩
          rw [hp, grp, if_pos hodd, spl_no hR, grp, hT]
    · omega
  · have hb' : ¬ 0 < e := by simpa using hb
    rcases hI with ⟨U, V, R, hT, hV, hseam, hp, he, hi, hd, hn⟩ | ⟨U, v, V, R, hT, hV, hp, he, hd, hodd, hn, hnext⟩ | ⟨he, hp, _⟩
    · omega
    · omega
    · exact ⟨_, _, _, rfl, T, .inr ⟨rfl, he, hp⟩⟩

/-- the data that _parseparam gives -/
def ppD (x : List Nat) : D := .list ((pieces x).map fun p => .str (cleanS p))

theorem len_low (y : PySem.Str) : (Txt.lower y).length ≤ 3 * y.length := len_lower y

theorem rawLen (p : List Nat) : (if 61 ∈ p then Txt.lower (Txt.rstrip (mk (p.takeWhile (· != 61)))) ++ "=" ++ Txt.lstrip (mk (p.dropWhile (· != 61)).tail) else mk p).length ≤ 4 * p.length + 1 := by
  split
  · rename_i h
    obtain ⟨a, b, hab, ha⟩ := mem_split h
    have e1 : p.takeWhile (· != 61) = a := by rw [hab]; exact takeW ha
    have e2 : (p.dropWhile (· != 61)).tail = b := by rw [hab, dropW ha]; rfl
    rw [e1, e2, Str.length_append, Str.length_append]
    have l1 : (Txt.rstrip (mk a)).length ≤ a.length := Nat.le_trans (len_rstrip (mk a)) (Nat.le_of_eq (mk_len a))
    have l2 := len_low (Txt.rstrip (mk a))
    have l3 : (Txt.lstrip (mk b)).length ≤ b.length := Nat.le_trans (len_lstrip (mk b)) (Nat.le_of_eq (mk_len b))
    have l4 : (PySem.Str.ofString "=").length = 1 := by decide +kernel
    have : p.length = a.length + 1 + b.length := by rw [hab]; simp; omega
    omega
  · rw [mk_len]; omega
theorem pp_body (hB : ∀ y ∈ bnames, W.mg y = none) (hz : x.length ≤ 1000000) : Ex F ([Sl.val (.str x)] ++ List.replicate 7 Sl.no) (fnRec pw 1).body (fun o => o = .ret (ppD (cl x))) := by
  have y61 : (PySem.Str.ofString "=") = mk [61] := by decide +kernel
  have y59 : (PySem.Str.ofString ";") = mk [59] := by decide +kernel
  refine ex_seq (ex_assign 0 (ev_binop ev_str (ev_bcall (evs_cons (ev_name 0 rfl rfl rfl (by decide +kernel)) evs_nil fun _ => rfl) boot_str' (hB _ (by decide +kernel)) keeps_type cal_str_str (by decide +kernel) (by decide +kernel) (by decide +kernel) fun _ => rfl) (add_ss ?_)) rfl (.inl rfl) rfl) ?_
  · rw [y59]; simp [Str.length] at hz ⊢; omega
  generalize hS : PySem.Str.ofString ";" ++ x = s
  have hcl : cl s = 59 :: cl x := by rw [← hS, cl_app, y59]; rfl
  have hsl : s.length ≤ 1000001 := by rw [cl_len, hcl]; rw [cl_len] at hz; simp; omega
  refine ex_seq (ex_assign_lst 1 (evf_list evs_nil (Nat.le_of_ble_eq_true rfl)) rfl (.inl rfl) rfl) ?_
  refine ex_seq (ex_assign 2 ev_int rfl (.inl rfl) rfl) ?_
  refine ex_cons (ex_while (n := (cl x).length + 1)
    (fun n ρ => ∃ (ps done : List (List Nat)) (st : Int) (a b c d e : Sl), ρ = [.val (.str s), .lst (done.map fun p => .str (cleanS p)), .val (.int st), a, b, c, d, e] ∧ done.length ≤ st ∧
      ((∃ A T, cl s = A ++ 59 :: T ∧ st = A.length ∧ pieces (cl x) = done ++ pieces T ∧ n = T.length + 1) ∨ (st = s.length ∧ pieces (cl x) = done ∧ n = 0)))
    ⟨[], [], 0, .no, .no, .no, .no, .no, rfl, by simp, .inl ⟨[], cl x, hcl, rfl, rfl, rfl⟩⟩ ?_)
  rintro n ρ ⟨_, done, st, a, b, c, sd, se, rfl, hdn, hI⟩
  refine ⟨_, (te_cmp (ev_meth (ev_name 0 rfl rfl rfl (by decide +kernel)) (evs_cons ev_str (evs_cons (ev_name 2 rfl rfl rfl (by decide +kernel)) evs_nil fun _ => rfl) fun _ => rfl) .str PySem.F.plainAttrs_str PySem.F.slot_str_find PySem.F.type_str_find cal_find3 (fun _ => rfl) (fun _ => rfl) rfl (by decide)) (ev_name 2 rfl rfl rfl (by decide +kernel)) eq_ii rfl), fun hb => ?_, fun hb => ?_⟩
  · rcases hI with ⟨A, T, hA, hst, hp, hn⟩ | ⟨hst, _, _⟩
    · subst hst
      have hlen : s.length = A.length + 1 + T.length := by rw [cl_len, hA]; simp; omega
      refine ex_seq (ex_aug 2 rfl ev_int iadd_ii rfl (.inl rfl) (by decide +kernel)) ?_
      refine ex_seq (ex_assign 3 (ev_meth (ev_name 0 rfl rfl rfl (by decide +kernel)) (evs_cons ev_str (evs_cons (ev_name 2 rfl rfl rfl (by decide +kernel)) evs_nil fun _ => rfl) fun _ => rfl) .str PySem.F.plainAttrs_str PySem.F.slot_str_find PySem.F.type_str_find cal_find3 (fun _ => rfl) (fun _ => rfl) rfl (by decide)) rfl (.inl rfl) rfl) ?_
      refine ex_seq (ex_swap (names := ["ind", "diff"]) (ev_tuple (evs_cons (ev_name 2 rfl rfl rfl (by decide +kernel)) (evs_cons ev_int evs_nil fun _ => rfl) fun _ => rfl) (Nat.le_of_ble_eq_true rfl)) rfl (.bind 5 rfl (.inl rfl) (.bind 4 rfl (.inl rfl) .nil)) rfl (swap_ok F (by kernel_rfl))) ?_
      generalize he₀ : Txt.find3 s (PySem.Str.ofString ";") (A.length + 1) = e₀
      have hstart : ∃ n, InA (A.length + 1) T n e₀ (A.length + 1) 0 ∨ InC T n e₀ := by
        by_cases hT : 59 ∈ T
        · obtain ⟨c, R, hc, hc'⟩ := mem_split hT
          refine ⟨_, .inl ⟨[], c, R, by simpa using hc, fun q => hc' (List.mem_of_mem_tail q), .inl ⟨rfl, hc'⟩, by rw [hc, List.nil_append]; exact pieces_start hc', ?_, by simp, by simp [nq], rfl⟩⟩
          rw [← he₀, find3_at (A := A ++ [59]) (B := c) (C := R) y59 (by rw [hA, hc]; simp) hc' (by simp)]
          simp
        · refine ⟨0, .inr ⟨?_, pieces_one hT, rfl⟩⟩
          rw [← he₀, find3_none (A := A ++ [59]) (B := T) y59 (by rw [hA]; simp) hT (by simp)]
      refine ex_cons ((pp_inner hA hstart).mono ?_)
      rintro o ⟨e, i, d, rfl, p, hf⟩
      show Ex _ _ _ _
      -- the end of the piece, in both cases
      obtain ⟨Z, hZ, hnext⟩ : ∃ Z, T = p ++ Z ∧ ((∃ R, Z = 59 :: R ∧ e = ((A.length + 1 : Nat) : Int) + p.length ∧ pieces T = p :: pieces R) ∨ (Z = [] ∧ e = -1 ∧ pieces T = [p])) := by
        rcases hf with ⟨R, h1, h2, h3⟩ | ⟨h1, h2, h3⟩
        · exact ⟨59 :: R, h1, .inl ⟨R, rfl, h2, h3⟩⟩
        · exact ⟨[], by rw [h1]; simp, .inr ⟨rfl, h2, by rw [h3, h1]⟩⟩
      have hs₁ : cl s = (A ++ [59]) ++ p ++ Z := by rw [hA, hZ]; simp
      have hpl : p.length ≤ 1000001 := by rw [cl_len, hs₁] at hsl; simp at hsl; omega
      refine ex_seq (ρ' := [.val (.str s), .lst (done.map fun p => .str (cleanS p)), .val (.int (A.length + 1)), .val (.int (A.length + 1 + p.length)), .val (.int i), .val (.int d), sd, se]) (ex_if (te_cmp (ev_name 3 rfl rfl rfl (by decide +kernel)) ev_int lt_ii rfl) (fun h => ?_) (fun h => ?_)) ?_
      · refine ex_seq (ex_assign 3 (ev_bcall (evs_cons (ev_name 0 rfl rfl rfl (by decide +kernel)) evs_nil fun _ => rfl) boot_len' (hB _ (by decide +kernel)) keeps_builtin (cal_len_str ?_) (by decide +kernel) (by decide +kernel) (by decide +kernel) fun _ => rfl) rfl (.inl rfl) rfl) (ex_nil ?_)
        · omega
        have h' : e < 0 := by simpa using h
        rcases hnext with ⟨R, _, he, _⟩ | ⟨hZ', _, _⟩
        · omega
        · have : (s.length : Int) = A.length + 1 + p.length := by rw [hlen, hZ, hZ']; simp
          show Out.next [_, _, _, Sl.val (.int (s.length : Int)), _, _, _, _] = _
          rw [this]
      · refine ex_nil ?_
        have h' : ¬ e < 0 := by simpa using h
        rcases hnext with ⟨R, _, he, _⟩ | ⟨hZ', he, _⟩
        · rw [he]; simp
        · omega
      have hj : ((A.length : Int) + 1 + p.length) = (A ++ [59]).length + p.length := by simp
      have hi₁ : ((A.length : Int) + 1) = (A ++ [59]).length := by simp
      refine ex_seq (ex_assign 6 (ev_meth (ev_name 0 rfl rfl rfl (by decide +kernel)) (evs_cons ev_str (evs_cons (ev_name 2 rfl rfl rfl (by decide +kernel)) (evs_cons (ev_name 3 rfl rfl rfl (by decide +kernel)) evs_nil fun _ => rfl) fun _ => rfl) fun _ => rfl) .str PySem.F.plainAttrs_str PySem.F.slot_str_find PySem.F.type_str_find cal_find4 (fun _ => rfl) (fun _ => rfl) rfl (by decide)) rfl (.inl rfl) rfl) ?_
      refine ex_seq (ρ' := [.val (.str s), .lst (done.map fun p => .str (cleanS p)), .val (.int (A.length + 1)), .val (.int (A.length + 1 + p.length)), .val (.int i), .val (.int d), .val (.int (find4 s (PySem.Str.ofString "=") (A.length + 1) (A.length + 1 + p.length))),
        .val (.str (if 61 ∈ p then Txt.lower (Txt.rstrip (mk (p.takeWhile (· != 61)))) ++ "=" ++ Txt.lstrip (mk (p.dropWhile (· != 61)).tail) else mk p))]) (ex_if (te_cmp (ev_name 6 rfl rfl rfl (by decide +kernel)) (ev_unop ev_int neg_i) eq_ii rfl) (fun h => ?_) (fun h => ?_)) ?_
      · have hno : 61 ∉ p := fun q => by
          obtain ⟨a, b, hab, ha⟩ := mem_split q
          rw [find4_at (A := A ++ [59]) (B₁ := a) (B₂ := b) (C := Z) y61 (by rw [hs₁, hab]) ha hi₁ (by rw [hj, hab])] at h
          simp at h
          omega
        refine ex_seq (ex_assign 7 (ev_slice (ev_name 0 rfl rfl rfl (by decide +kernel)) (.some (ev_name 2 rfl rfl rfl (by decide +kernel))) (.some (ev_name 3 rfl rfl rfl (by decide +kernel))) .none .str (slc_str ?_ ?_ ?_)) rfl (.inl rfl) rfl) (ex_nil ?_)
        · rfl
        · omega
        · rw [strSl_seg hs₁ hi₁ hj, mk_len]; omega
        · rw [strSl_seg hs₁ hi₁ hj, if_neg hno]; rfl
      · have hyes : 61 ∈ p := Classical.byContradiction fun q => by
          rw [find4_none y61 hs₁ q hi₁ hj] at h
          simp at h
        obtain ⟨a', b', hab, ha⟩ := mem_split hyes
        have hfi : find4 s (PySem.Str.ofString "=") (A.length + 1) (A.length + 1 + p.length) = (A ++ [59]).length + a'.length := find4_at (A := A ++ [59]) (B₁ := a') (B₂ := b') (C := Z) y61 (by rw [hs₁, hab]) ha hi₁ (by rw [hj, hab])
        have hpl' : p.length = a'.length + 1 + b'.length := by rw [hab]; simp; omega
        have hsa : strSl s (some (A.length + 1)) (some (find4 s (PySem.Str.ofString "=") (A.length + 1) (A.length + 1 + p.length))) none = mk a' := strSl_seg (A := A ++ [59]) (B := a') (C := 61 :: b' ++ Z) (by rw [hs₁, hab]; simp) hi₁ hfi
        have hsb : strSl s (some (find4 s (PySem.Str.ofString "=") (A.length + 1) (A.length + 1 + p.length) + 1)) (some (A.length + 1 + p.length)) none = mk b' :=
          strSl_seg (A := A ++ [59] ++ a' ++ [61]) (B := b') (C := Z) (by rw [hs₁, hab]; simp) (by rw [hfi]; simp; omega) (by rw [hpl']; simp; omega)
        have l1 : (Txt.rstrip (mk a')).length ≤ a'.length := Nat.le_trans (len_rstrip (mk a')) (Nat.le_of_eq (mk_len a'))
        have l2 := len_low (Txt.rstrip (mk a'))
        have l3 : (Txt.lstrip (mk b')).length ≤ b'.length := Nat.le_trans (len_lstrip (mk b')) (Nat.le_of_eq (mk_len b'))
        have l4 : (PySem.Str.ofString "=").length = 1 := by rw [y61]; rfl
        refine ex_seq (ex_assign 7 (ev_binop (ev_binop (ev_meth (ev_meth (ev_slice (ev_name 0 rfl rfl rfl (by decide +kernel)) (.some (ev_name 2 rfl rfl rfl (by decide +kernel))) (.some (ev_name 6 rfl rfl rfl (by decide +kernel))) .none .str (slc_str ?_ ?_ ?_)) evs_nil .str PySem.F.plainAttrs_str PySem.F.slot_str_rstrip PySem.F.type_str_rstrip (cal_rstrip ?_) (fun _ => rfl) (fun _ => rfl) rfl (by decide)) evs_nil .str PySem.F.plainAttrs_str PySem.F.slot_str_lower PySem.F.type_str_lower (cal_lower ?_) (fun _ => rfl) (fun _ => rfl) rfl (by decide)) ev_str (add_ss ?_)) (ev_meth (ev_slice (ev_name 0 rfl rfl rfl (by decide +kernel)) (.some (ev_binop (ev_name 6 rfl rfl rfl (by decide +kernel)) ev_int add_ii)) (.some (ev_name 3 rfl rfl rfl (by decide +kernel))) .none .str (slc_str ?_ ?_ ?_)) evs_nil .str PySem.F.plainAttrs_str PySem.F.slot_str_lstrip PySem.F.type_str_lstrip (cal_lstrip ?_) (fun _ => rfl) (fun _ => rfl) rfl (by decide)) (add_ss ?_)) rfl (.inl rfl) rfl) (ex_nil ?_)
        · rfl
        · omega
        · rw [hsa, mk_len]; omega
        · rw [hsa, mk_len]; omega
        · rw [hsa]; omega
        · rw [hsa, l4]; omega
        · rfl
        · omega
        · rw [hsb, mk_len]; omega
        · rw [hsb, mk_len]; omega
        · rw [hsa, hsb, Str.length_append, l4]; omega
        · rw [hsa, hsb, if_pos hyes]
          have e1 : p.takeWhile (· != 61) = a' := by rw [hab]; exact takeW ha
          have e2 : (p.dropWhile (· != 61)).tail = b' := by rw [hab, dropW ha]; rfl
          rw [e1, e2]; rfl
      refine ex_seq (ex_append 1 rfl (.inl rfl) rfl (ev_meth (ev_name 7 rfl rfl rfl (by decide +kernel)) evs_nil .str PySem.F.plainAttrs_str PySem.F.slot_str_strip PySem.F.type_str_strip (cal_strip ?_) (fun _ => rfl) (fun _ => rfl) rfl (by decide)) ?_ (by decide +kernel) rfl (fun e h => by rw [interactive, h]; rfl) (fun _ => rfl) (fun _ => rfl)) ?_
      · have := rawLen p; omega
      · rw [List.length_map]; have := cl_len s; rw [hA] at this; simp at this; omega
      refine ex_seq (ex_assign 2 (ev_name 3 rfl rfl rfl (by decide +kernel)) rfl (.inl rfl) rfl) (ex_nil ?_)
      have hcl' : Txt.strip (if 61 ∈ p then Txt.lower (Txt.rstrip (mk (p.takeWhile (· != 61)))) ++ "=" ++ Txt.lstrip (mk (p.dropWhile (· != 61)).tail) else mk p) = cleanS p := by
        unfold cleanS; split <;> rfl
      rcases hnext with ⟨R, hZ', he, hpp⟩ | ⟨hZ', he, hpp⟩
      · refine ⟨R.length + 1, by rw [hn, hZ, hZ']; simp; omega, [], done ++ [p], _, _, _, _, _, _, by rw [List.map_append, List.map_cons, List.map_nil, ← hcl']; rfl, by simp; omega, .inl ⟨A ++ 59 :: p, R, by rw [hA, hZ, hZ']; simp, by simp; omega, by rw [hp, hpp]; simp, rfl⟩⟩
      · refine ⟨0, by omega, [], done ++ [p], _, _, _, _, _, _, by rw [List.map_append, List.map_cons, List.map_nil, ← hcl']; rfl, by simp; omega, .inr ⟨?_, by rw [hp, hpp], rfl⟩⟩
        rw [hlen, hZ, hZ']; simp
    · exfalso
      rw [hst, find3_none (A := cl s) (B := []) y59 (by simp) (by simp) (by rw [cl_len])] at hb
      simp at hb
  · rcases hI with ⟨A, T, hA, hst, hp, hn⟩ | ⟨hst, hp, _⟩
    · exfalso
      rw [hst, find3_at (A := A) (B := []) (C := T) y59 (by simpa using hA) (by simp) rfl] at hb
      simp at hb
    · refine ex_cons (ex_ret_lst 1 rfl (.inl rfl) rfl (by decide +kernel) ?_)
      show Out.ret _ = Out.ret _
      rw [ppD, hp]
end
end Mine

end

section
namespace Mine
open PySem PySem.Calls PyProof.Rows PySem.W Builtin Builtin.Str

abbrev sp (c : Nat) : Bool := Unicode.isSpace c
def rst (l : List Nat) : List Nat := (l.reverse.dropWhile sp).reverse
def lst (l : List Nat) : List Nat := l.dropWhile sp
def low (l : List Nat) : List Nat := l.flatMap Unicode.lowerOf

theorem cl_sub (x : PySem.Str) (i j : Nat) : cl (strSub x i j) = ((cl x).drop i).take (j - i) := by
  show (x.cps.extract i j).toList = _
  rw [Array.toList_extract, List.extract_eq_take_drop]
theorem drop_take {p : Nat → Bool} : ∀ l : List Nat, l.drop (l.takeWhile p).length = l.dropWhile p
  | [] => rfl
  | a :: l => by
    by_cases h : p a = true
    · simp [h, drop_take l]
    · simp [h]
theorem take_rst {p : Nat → Bool} (l : List Nat) : l.take (l.length - (l.reverse.takeWhile p).length) = (l.reverse.dropWhile p).reverse := by
  rw [← drop_take, List.reverse_drop]
  simp
theorem cl_lstrip (x : PySem.Str) : cl (Txt.lstrip x) = lst (cl x) := by
  show cl (Txt.stripBy Unicode.isSpace true false x) = _
  rw [PyProof.Rows.stripBy_eq, cl_sub]
  simp only [stripLo, stripHi, if_true, Bool.false_eq_true, if_false]
  rw [List.take_of_length_le (by rw [List.length_drop, cl_len]; exact Nat.le_refl _)]
  exact drop_take (cl x)
theorem cl_rstrip (x : PySem.Str) : cl (Txt.rstrip x) = rst (cl x) := by
  show cl (Txt.stripBy Unicode.isSpace false true x) = _
  rw [PyProof.Rows.stripBy_eq, cl_sub]
  simp only [stripLo, stripHi, if_true, Bool.false_eq_true, if_false]
  rw [List.drop_zero, Nat.sub_zero, cl_len]
  exact take_rst (cl x)
theorem cl_strip (x : PySem.Str) : cl (Txt.strip x) = rst (lst (cl x)) := by
  show cl (Txt.stripBy Unicode.isSpace true true x) = _
  rw [PyProof.Rows.stripBy_eq, cl_sub]
  simp only [stripLo, stripHi, if_true]
  have e : (cl x).drop ((cl x).takeWhile Unicode.isSpace).length = lst (cl x) := drop_take (cl x)
  have hl : (lst (cl x)).length = x.length - ((cl x).takeWhile Unicode.isSpace).length := by rw [← e, List.length_drop, cl_len]
  show (((cl x).drop ((cl x).takeWhile Unicode.isSpace).length).take (x.length - (((cl x).drop ((cl x).takeWhile Unicode.isSpace).length).reverse.takeWhile Unicode.isSpace).length - ((cl x).takeWhile Unicode.isSpace).length)) = _
  rw [e]
  have : x.length - ((lst (cl x)).reverse.takeWhile Unicode.isSpace).length - ((cl x).takeWhile Unicode.isSpace).length = (lst (cl x)).length - ((lst (cl x)).reverse.takeWhile Unicode.isSpace).length := by rw [hl]; omega
  rw [this]
  exact take_rst _
theorem cl_lower {x : PySem.Str} (h : 931 ∉ cl x) : cl (Txt.lower x) = low (cl x) := by
  show (placed x fun i _ => Unicode.lowerAt x.cps i).toList = _
  have e : (x.cps.mapIdx fun i c => (Unicode.lowerAt x.cps i).toArray) = x.cps.map fun c => (Unicode.lowerOf c).toArray := by
    apply Array.ext
    · simp
    · intro i h1 h2
      simp only [Array.getElem_mapIdx, Array.getElem_map]
      have hi : i < x.cps.size := by simpa using h1
      unfold Unicode.lowerAt
      rw [Array.getElem?_eq_getElem hi]
      have : (x.cps[i] == 931) = false := by
        rw [beq_eq_false_iff_ne]
        intro q
        exact h (q ▸ Array.getElem_mem_toList hi)
      dsimp only
      rw [show (x.cps[i] == 0x3A3) = false from this]
      simp
  show (x.cps.mapIdx fun i c => (Unicode.lowerAt x.cps i).toArray).flatten.toList = _
  rw [e]
  simp [low, List.flatMap, Function.comp_def]
/-- a piece cleaned, in codes -/
def cleanL (p : List Nat) : List Nat :=
  if 61 ∈ p then rst (lst (low (rst (p.takeWhile (· != 61))) ++ 61 :: lst (p.dropWhile (· != 61)).tail)) else rst (lst p)
theorem rst_mem {c : Nat} {l : List Nat} (h : c ∈ rst l) : c ∈ l := by
  unfold rst at h
  rw [List.mem_reverse] at h
  exact List.mem_reverse.mp ((List.dropWhile_sublist _).subset h)
theorem cl_clean {p : List Nat} (h : 931 ∉ p) : cl (cleanS p) = cleanL p := by
  unfold cleanS cleanL
  split
  · rw [cl_strip, cl_app, cl_app, cl_lower, cl_rstrip, cl_lstrip]
    · have : cl ("=" : PySem.Str) = [61] := by decide +kernel
      rw [this, List.append_assoc]; rfl
    · rw [cl_rstrip]
      intro q
      exact h ((List.takeWhile_sublist _).subset (rst_mem q))
  · exact cl_strip _
theorem str_ext {x y : PySem.Str} (h : cl x = cl y) : x = y := by
  rw [← mk_cl x, ← mk_cl y, h]

/-- no blank at either end -/
def tight (l : List Nat) : Bool := l.head?.all (!sp ·) && l.getLast?.all (!sp ·)
theorem lst_sp {a l : List Nat} (h : ∀ c ∈ a, sp c = true) : lst (a ++ l) = lst l := by
  induction a with
  | nil => rfl
  | cons c a ih =>
    show List.dropWhile sp (c :: (a ++ l)) = _
    rw [List.dropWhile_cons, if_pos (h c List.mem_cons_self)]
    exact ih fun d hd => h d (List.mem_cons_of_mem _ hd)
theorem rst_sp {b l : List Nat} (h : ∀ c ∈ b, sp c = true) : rst (l ++ b) = rst l := by
  unfold rst
  rw [List.reverse_append]
  congr 1
  exact lst_sp fun c hc => h c (List.mem_reverse.mp hc)
theorem lst_all {a : List Nat} (h : ∀ c ∈ a, sp c = true) : lst a = [] := by have := lst_sp (l := []) h; rwa [List.append_nil] at this
theorem lst_head {c : Nat} {l : List Nat} (h : sp c = false) : lst (c :: l) = c :: l := by
  show List.dropWhile sp (c :: l) = _
  rw [List.dropWhile_cons, h]; simp
theorem lst_tight {l m : List Nat} (h : tight l = true) (hl : l ≠ []) : lst (l ++ m) = l ++ m := by
  cases l with
  | nil => exact absurd rfl hl
  | cons c l =>
    unfold tight at h
    simp only [List.head?_cons, Option.all_some, Bool.and_eq_true, Bool.not_eq_true'] at h
    exact lst_head h.1
theorem rst_last {l : List Nat} {c : Nat} (h : sp c = false) : rst (l ++ [c]) = l ++ [c] := by
  unfold rst
  rw [List.reverse_append, List.reverse_singleton, List.singleton_append]
  have : (c :: l.reverse).dropWhile sp = c :: l.reverse := lst_head h
  rw [this]; simp
theorem rst_tight {l m : List Nat} (h : tight l = true) (hl : l ≠ []) : rst (m ++ l) = m ++ l := by
  obtain ⟨l', c, rfl⟩ : ∃ l' c, l = l' ++ [c] := ⟨l.dropLast, l.getLast hl, (List.dropLast_concat_getLast hl).symm⟩
  unfold tight at h
  simp only [List.getLast?_append, List.getLast?_singleton, Option.some_or, Option.all_some, Bool.and_eq_true, Bool.not_eq_true'] at h
  rw [← List.append_assoc]
  exact rst_last h.2
theorem trim_pad {a b N : List Nat} (ha : ∀ c ∈ a, sp c = true) (hb : ∀ c ∈ b, sp c = true) (hN : tight N = true) : rst (lst (a ++ N ++ b)) = N := by
  rw [List.append_assoc, lst_sp ha]
  by_cases h : N = []
  · subst h; rw [List.nil_append, lst_all hb]; rfl
  · rw [lst_tight hN h, rst_sp hb]
    have := rst_tight (m := []) hN h
    simpa using this
theorem tight_app {a b : List Nat} (ha : tight a = true) (hb : tight b = true) : tight (a ++ b) = true := by
  unfold tight at *
  simp only [Bool.and_eq_true] at *
  rw [List.head?_append, List.getLast?_append]
  constructor
  · cases h : a.head? with
    | none => simpa using hb.1
    | some c => rw [h] at ha; simpa using ha.1
  · cases h : b.getLast? with
    | none => simpa using ha.2
    | some c => rw [h] at hb; simpa using hb.2
theorem low_app (a b : List Nat) : low (a ++ b) = low a ++ low b := List.flatMap_append
theorem sp61 : sp 61 = false := by decide +kernel
theorem rst_nil : rst [] = [] := rfl
/-- a piece with a name and a value -/
theorem clean_eq {a N b c t d : List Nat} (ha : ∀ c ∈ a, sp c = true) (hla : ∀ c ∈ low a, sp c = true) (hb : ∀ c ∈ b, sp c = true) (hc : ∀ x ∈ c, sp x = true) (hd : ∀ c ∈ d, sp c = true) (hN : tight N = true) (hN' : tight (low N) = true) (ht : tight t = true) (h61 : 61 ∉ N) :
    cleanL (a ++ N ++ b ++ 61 :: (c ++ t ++ d)) = low N ++ 61 :: t := by
  have no : ∀ {l : List Nat}, (∀ c ∈ l, sp c = true) → 61 ∉ l := fun h q => by have := h _ q; rw [sp61] at this; cases this
  have hno : 61 ∉ a ++ N ++ b := by
    simp only [List.mem_append, not_or]
    exact ⟨⟨no ha, h61⟩, no hb⟩
  unfold cleanL
  rw [if_pos (by simp), takeW hno, dropW hno, List.tail_cons, rst_sp hb]
  have hv : ∀ m : List Nat, rst (m ++ 61 :: lst (c ++ t ++ d)) = m ++ 61 :: t := fun m => by
    rw [List.append_assoc, lst_sp hc]
    by_cases h : t = []
    · subst h
      rw [List.nil_append, lst_all hd]
      exact rst_last sp61
    · rw [lst_tight ht h, ← List.cons_append, ← List.append_assoc, rst_sp hd]
      have := rst_tight (m := m ++ [61]) ht h
      simpa using this
  by_cases h : N = []
  · subst h
    rw [List.append_nil]
    have e : rst a = [] := by have := rst_sp (l := []) ha; rwa [List.nil_append] at this
    rw [e]
    show rst (lst ([] ++ 61 :: _)) = _
    rw [List.nil_append, lst_head sp61]
    exact hv []
  · rw [rst_tight hN h, low_app, List.append_assoc, lst_sp hla]
    by_cases h' : low N = []
    · rw [h', List.nil_append, lst_head sp61]; exact hv []
    · rw [lst_tight hN' h']; exact hv _
theorem clean_no {a N b : List Nat} (ha : ∀ c ∈ a, sp c = true) (hb : ∀ c ∈ b, sp c = true) (hN : tight N = true) (h61 : 61 ∉ N) : cleanL (a ++ N ++ b) = N := by
  have no : ∀ {l : List Nat}, (∀ c ∈ l, sp c = true) → 61 ∉ l := fun h q => by have := h _ q; rw [sp61] at this; cases this
  unfold cleanL
  rw [if_neg (by simp only [List.mem_append, not_or]; exact ⟨⟨no ha, h61⟩, no hb⟩)]
  exact trim_pad ha hb hN

/-- the reader of quotations: none where a semicolon stands outside -/
def run (q bs : Bool) : List Nat → Option (Bool × Bool)
  | [] => some (q, bs)
  | c :: l => if c = 59 ∧ q = false then none else run (if c = 34 ∧ bs = false then !q else q) (c == 92) l
theorem run_app : ∀ {u v : List Nat} {q bs q' bs' : Bool}, run q bs u = some (q', bs') → run q bs (u ++ v) = run q' bs' v
  | [], v, q, bs, q', bs', h => by cases h; rfl
  | c :: u, v, q, bs, q', bs', h => by
    rw [run] at h
    show run q bs (c :: (u ++ v)) = _
    rw [run]
    split
    · rename_i hc; rw [if_pos hc] at h; cases h
    · rename_i hc; rw [if_neg hc] at h; exact run_app h
/-- the pieces of a text of which cur is read -/
def gat (cur w : List Nat) : List (List Nat) := grp (cur ++ (spl w).1) (spl w).2
theorem gat_nil (cur : List Nat) : gat cur [] = [cur] := by unfold gat; simp [spl, grp]
theorem gat_ne {cur w : List Nat} {c : Nat} (h : c ≠ 59) : gat cur (c :: w) = gat (cur ++ [c]) w := by
  unfold gat; rw [spl, if_neg h]; simp
theorem gat_cut {cur w : List Nat} (h : ¬ nq false cur % 2 = 1) : gat cur (59 :: w) = cur :: pieces w := by
  unfold gat pieces; rw [spl, if_pos rfl]; simp [grp, h]
theorem gat_on {cur w : List Nat} (h : nq false cur % 2 = 1) : gat cur (59 :: w) = gat (cur ++ [59]) w := by
  unfold gat; rw [spl, if_pos rfl]; simp [grp, h]
theorem pieces_gat (w : List Nat) : pieces w = gat [] w := by unfold gat pieces; simp
theorem nq_one (b : Bool) (c : Nat) : nq b [c] = if c = 34 ∧ b = false then 1 else 0 := by
  cases b <;> by_cases h : c = 34 <;> simp [nq, h]
theorem run_gat : ∀ {w cur : List Nat} {q' bs' : Bool}, run (decide (nq false cur % 2 = 1)) (lastBs false cur) w = some (q', bs') →
    gat cur w = [cur ++ w] ∧ (∀ v, gat cur (w ++ 59 :: v) = gat (cur ++ w) (59 :: v)) ∧ q' = decide (nq false (cur ++ w) % 2 = 1) ∧ bs' = lastBs false (cur ++ w)
  | [], cur, q', bs', h => by cases h; exact ⟨by rw [gat_nil]; simp, fun v => by simp, by simp, by simp⟩
  | c :: w, cur, q', bs', h => by
    rw [run] at h
    split at h
    · cases h
    · rename_i hc
      have e1 : (if c = 34 ∧ lastBs false cur = false then !decide (nq false cur % 2 = 1) else decide (nq false cur % 2 = 1)) = decide (nq false (cur ++ [c]) % 2 = 1) := by
        rw [nq_app, nq_one]
        by_cases h2 : c = 34 ∧ lastBs false cur = false
        · rw [if_pos h2, if_pos h2]
          by_cases h3 : nq false cur % 2 = 1
          · rw [decide_eq_true h3]; symm; simp; omega
          · rw [decide_eq_false h3]; symm; simp; omega
        · rw [if_neg h2, if_neg h2]; rfl
      have e2 : (c == 92) = lastBs false (cur ++ [c]) := by
        have : ∀ (l : List Nat) (b : Bool), lastBs b (l ++ [c]) = (c == 92) := by
          intro l
          induction l with
          | nil => intro b; rfl
          | cons d l ih => intro b; exact ih _
        exact (this cur false).symm
      rw [e1, e2] at h
      obtain ⟨a1, a2, a3, a4⟩ := run_gat h
      have step : ∀ v, gat cur (c :: v) = gat (cur ++ [c]) v := fun v => by
        by_cases h5 : c = 59
        · subst h5
          refine gat_on ?_
          by_cases h6 : nq false cur % 2 = 1
          · exact h6
          · exact absurd ⟨rfl, decide_eq_false h6⟩ hc
        · exact gat_ne h5
      refine ⟨by rw [step, a1]; simp, fun v => ?_, by rw [a3]; simp, by rw [a4]; simp⟩
      show gat cur (c :: (w ++ 59 :: v)) = _
      rw [step, a2]; simp
/-- pieces laid one behind the other with semicolons -/
def joinL : List (List Nat) → List Nat
  | [] => []
  | [x] => x
  | x :: y :: r => x ++ 59 :: joinL (y :: r)
theorem pieces_join : ∀ {ps : List (List Nat)} {l : List Nat}, (∀ p ∈ ps, ∃ b, run false false p = some (false, b)) → (∃ s, run false false l = some s) → pieces (joinL (ps ++ [l])) = ps ++ [l]
  | [], l, _, ⟨(q, b), h⟩ => by
    show pieces l = [l]
    rw [pieces_gat, (run_gat (cur := []) h).1]; rfl
  | p :: ps, l, hp, hl => by
    obtain ⟨b, hb⟩ := hp p List.mem_cons_self
    have ih := pieces_join (fun x hx => hp x (List.mem_cons_of_mem _ hx)) hl
    have e : joinL (p :: ps ++ [l]) = p ++ 59 :: joinL (ps ++ [l]) := by
      cases ps with
      | nil => rfl
      | cons y r => rfl
    obtain ⟨_, a2, a3, _⟩ := run_gat (cur := []) hb
    rw [e, pieces_gat, a2, gat_cut (by simpa using a3.symm), ih]
    rfl
theorem cl_join (ys : List PySem.Str) : cl (Txt.join (PySem.Str.ofString ";") ys) = joinL (ys.map cl) := by
  show cl (glued _ ys) = _
  rw [StrLaws.glued_eq_join]
  have e59 : cl (PySem.Str.ofString ";") = [59] := by decide +kernel
  induction ys with
  | nil => rfl
  | cons x r ih =>
    cases r with
    | nil => rfl
    | cons y r =>
      show cl (x ++ PySem.Str.ofString ";" ++ Str.join (PySem.Str.ofString ";") (y :: r)) = _
      rw [cl_app, cl_app, ih, e59]
      show _ = cl x ++ 59 :: joinL ((y :: r).map cl)
      simp
def ppS (x : List Nat) : List PySem.Str := (pieces x).map cleanS
theorem ppD_eq (x : List Nat) : ppD x = .list ((ppS x).map D.str) := by unfold ppD ppS; rw [List.map_map]; rfl
theorem low_id {l : List Nat} (h : ∀ c ∈ l, Unicode.lowerOf c = [c]) : low l = l := by
  induction l with
  | nil => rfl
  | cons c l ih =>
    show Unicode.lowerOf c ++ low l = _
    rw [h c List.mem_cons_self, ih fun d hd => h d (List.mem_cons_of_mem _ hd)]
    rfl
theorem sp59 : sp 59 = false := by decide +kernel
theorem sp34 : sp 34 = false := by decide +kernel
theorem sp92 : sp 92 = false := by decide +kernel
theorem sp931 : sp 931 = false := by decide +kernel
theorem sp_ne {c d : Nat} (h : sp c = true) (hd : sp d = false) : c ≠ d := fun e => by rw [e, hd] at h; cases h
theorem run_sp : ∀ {a : List Nat} {q : Bool}, (∀ c ∈ a, sp c = true) → run q false a = some (q, false)
  | [], q, _ => rfl
  | c :: a, q, h => by
    have hc := h c List.mem_cons_self
    rw [run, if_neg (fun e => sp_ne hc sp59 e.1), if_neg (fun e => sp_ne hc sp34 e.1), show (c == 92) = false from beq_eq_false_iff_ne.mpr (sp_ne hc sp92)]
    exact run_sp fun d hd => h d (List.mem_cons_of_mem _ hd)

theorem laid_ok {ps : List (PySem.Str × PySem.Str)} {l : PySem.Str × PySem.Str} (h : ∀ p ∈ ps, run false false (cl p.1) = some (false, false) ∧ 931 ∉ cl p.1 ∧ cleanL (cl p.1) = cl p.2)
    (hl : (∃ s, run false false (cl l.1) = some s) ∧ 931 ∉ cl l.1 ∧ cleanL (cl l.1) = cl l.2) : ppS (cl (Txt.join (PySem.Str.ofString ";") ((ps ++ [l]).map (·.1)))) = (ps ++ [l]).map (·.2) := by
  have e : ((ps ++ [l]).map (·.1)).map cl = ps.map (fun p => cl p.1) ++ [cl l.1] := by simp [Function.comp_def]
  unfold ppS
  rw [cl_join, e, pieces_join (fun q hq => ?_) hl.1]
  · rw [List.map_append, List.map_map, List.map_append]
    congr 1
    · refine List.map_congr_left fun p hp => str_ext ?_
      obtain ⟨_, a, b⟩ := h p hp
      show cl (cleanS (cl p.1)) = _
      rw [cl_clean a, b]
    · show [cleanS (cl l.1)] = [l.2]
      rw [str_ext ((cl_clean hl.2.1).trans hl.2.2)]
  · obtain ⟨p, hp, rfl⟩ := List.mem_map.mp hq
    exact ⟨false, (h p hp).1⟩
theorem joinL_cons (x : List Nat) {ps : List (List Nat)} (h : ps ≠ []) : joinL (x :: ps) = x ++ 59 :: joinL ps := by
  cases ps with
  | nil => exact absurd rfl h
  | cons y r => rfl
theorem grp_ne (cur : List Nat) (cs : List (List Nat)) : grp cur cs ≠ [] := by
  induction cs generalizing cur with
  | nil => simp [grp]
  | cons c cs ih =>
    rw [grp]
    split
    · exact ih _
    · simp
theorem grp_joinL (cs : List (List Nat)) : ∀ cur : List Nat, joinL (grp cur cs) = joinL (cur :: cs) := by
  induction cs with
  | nil => intro cur; rfl
  | cons c cs ih =>
    intro cur
    rw [grp]
    split
    · rw [ih, joinL_cons cur (by simp)]
      cases cs with
      | nil => simp [joinL]
      | cons d cs => rw [joinL_cons _ (by simp), joinL_cons c (by simp)]; simp
    · rw [joinL_cons _ (grp_ne _ _), ih, joinL_cons cur (by simp)]
theorem spl_joinL : ∀ l : List Nat, joinL ((spl l).1 :: (spl l).2) = l
  | [] => rfl
  | c :: l => by
    have ih := spl_joinL l
    rw [spl]
    split
    · rename_i h
      rw [joinL_cons _ (by simp), ih, h]; rfl
    · cases h : (spl l).2 with
      | nil => rw [h] at ih; simpa [joinL] using ih
      | cons y r => rw [h, joinL_cons _ (by simp)] at ih; rw [joinL_cons _ (by simp)]; simpa using ih
theorem pieces_joinL (l : List Nat) : joinL (pieces l) = l := by
  unfold pieces
  rw [grp_joinL, spl_joinL]
theorem mem_joinL_len {p : List Nat} : ∀ {ps : List (List Nat)}, p ∈ ps → p.length ≤ (joinL ps).length
  | [], h => by cases h
  | x :: ps, h => by
    rcases List.mem_cons.mp h with rfl | h
    · cases ps with
      | nil => exact Nat.le_refl _
      | cons y r => rw [joinL_cons _ (by simp), List.length_append]; omega
    · have := mem_joinL_len h
      rw [joinL_cons _ (List.ne_nil_of_mem h), List.length_append, List.length_cons]; omega
theorem pieces_len {l p : List Nat} (h : p ∈ pieces l) : p.length ≤ l.length := by
  have := mem_joinL_len h
  rwa [pieces_joinL] at this
theorem joinL_count : ∀ ps : List (List Nat), ps.length ≤ (joinL ps).length + 1
  | [] => by simp
  | [x] => by simp
  | x :: y :: r => by
    have := joinL_count (y :: r)
    rw [joinL_cons _ (by simp)]
    simp only [List.length_cons, List.length_append] at this ⊢
    omega
theorem pieces_count (l : List Nat) : (pieces l).length ≤ l.length + 1 := by
  have := joinL_count (pieces l)
  rwa [pieces_joinL] at this
theorem mem_takeWhile_len {p : Nat → Bool} (l : List Nat) : (l.takeWhile p).length ≤ l.length := (List.takeWhile_sublist p).length_le
theorem cleanS_len (p : List Nat) : (cleanS p).length ≤ 4 * p.length + 1 := by
  unfold cleanS
  split
  · have h1 := len_strip (Txt.lower (Txt.rstrip (mk (p.takeWhile (· != 61)))) ++ "=" ++ Txt.lstrip (mk (p.dropWhile (· != 61)).tail))
    have h2 := len_lower (Txt.rstrip (mk (p.takeWhile (· != 61))))
    have h3 := len_rstrip (mk (p.takeWhile (· != 61)))
    have h4 := len_lstrip (mk (p.dropWhile (· != 61)).tail)
    have h5 : (mk (p.takeWhile (· != 61))).length ≤ p.length := by rw [mk_len]; exact mem_takeWhile_len p
    have h6 : (mk (p.dropWhile (· != 61)).tail).length ≤ p.length := by
      rw [mk_len, List.length_tail]
      have := (List.dropWhile_sublist (· != 61) (l := p)).length_le
      omega
    have e : ("=" : PySem.Str).length = 1 := by decide +kernel
    have h7 : (Txt.lower (Txt.rstrip (mk (p.takeWhile (· != 61)))) ++ "=" ++ Txt.lstrip (mk (p.dropWhile (· != 61)).tail)).length = (Txt.lower (Txt.rstrip (mk (p.takeWhile (· != 61))))).length + 1 + (Txt.lstrip (mk (p.dropWhile (· != 61)).tail)).length := by
      rw [cl_len, cl_app, cl_app, List.length_append, List.length_append, ← cl_len, ← cl_len, ← cl_len, e]
    omega
  · have h := len_strip (mk p)
    have h' : (mk p).length = p.length := mk_len p
    omega
theorem ppS_len {l : List Nat} {p : PySem.Str} (h : p ∈ ppS l) : p.length ≤ 4 * l.length + 1 := by
  unfold ppS at h
  obtain ⟨q, hq, rfl⟩ := List.mem_map.mp h
  have := cleanS_len q
  have := pieces_len hq
  omega
theorem ppS_count (l : List Nat) : (ppS l).length ≤ l.length + 1 := by
  unfold ppS; rw [List.length_map]; exact pieces_count l
end Mine

end

section
namespace Mine
open PySem PySem.Calls PyProof.Rows PySem.W Builtin Builtin.Str

/-- a text cut at the places of w, from the left, lim times at most -/
def cut (w : List Nat) : Nat → List Nat → Nat → List Nat × List (List Nat)
  | _, [], _ => ([], [])
  | 0, c :: l, 0 => (c :: l, [])
  | lim + 1, c :: l, 0 => if w.isPrefixOf (c :: l) = true then ([], (cut w lim l (w.length - 1)).1 :: (cut w lim l (w.length - 1)).2) else (c :: (cut w (lim + 1) l 0).1, (cut w (lim + 1) l 0).2)
  | lim, _ :: l, k + 1 => cut w lim l k
/-- the same, at all places -/
def cutU (w : List Nat) : List Nat → Nat → List Nat × List (List Nat)
  | [], _ => ([], [])
  | c :: l, 0 => if w.isPrefixOf (c :: l) = true then ([], (cutU w l (w.length - 1)).1 :: (cutU w l (w.length - 1)).2) else (c :: (cutU w l 0).1, (cutU w l 0).2)
  | _ :: l, k + 1 => cutU w l k
def splitU (w l : List Nat) : List (List Nat) := (cutU w l 0).1 :: (cutU w l 0).2
def splitN (w : List Nat) (lim : Nat) (l : List Nat) : List (List Nat) := (cut w lim l 0).1 :: (cut w lim l 0).2
theorem cut_zero (w : List Nat) : ∀ (l : List Nat) (k : Nat), cut w 0 l k = (l.drop k, [])
  | [], k => by cases k <;> simp [cut]
  | c :: l, 0 => by simp [cut]
  | c :: l, k + 1 => by rw [cut]; simpa using cut_zero w l k
theorem cut_big (w : List Nat) : ∀ (l : List Nat) (lim k : Nat), l.length ≤ lim → cut w lim l k = cutU w l k
  | [], lim, k, _ => by cases lim <;> cases k <;> simp [cut, cutU]
  | c :: l, 0, k, h => by simp at h
  | c :: l, lim + 1, 0, h => by
    have h' : l.length ≤ lim := by simpa using h
    rw [cut, cutU, cut_big w l lim _ h', cut_big w l (lim + 1) 0 (by omega)]
  | c :: l, lim + 1, k + 1, h => by
    have h' : l.length ≤ lim := by simpa using h
    rw [cut, cutU, cut_big w l (lim + 1) k (by omega)]
theorem sub_cl (x : PySem.Str) (i j : Nat) : cl (strSub x i j) = ((cl x).drop i).take (j - i) := by
  show (x.cps.extract i j).toList = _
  rw [Array.toList_extract, List.extract_eq_take_drop]
theorem parts_cut {x : PySem.Str} {w : List Nat} (hw : 1 ≤ w.length) : ∀ (B A : List Nat) (k lim a : Nat), cl x = A ++ B → (k = 0 ∧ a ≤ A.length ∨ 0 < k ∧ a = A.length + k ∧ k ≤ B.length) →
    (StrLaws.partsFrom x w.length a ((scanS w B k A.length).take lim)).map cl = (A.drop a ++ (cut w lim B k).1) :: (cut w lim B k).2 := by
  have last : ∀ (A B : List Nat) (k a : Nat), cl x = A ++ B → (k = 0 ∧ a ≤ A.length ∨ 0 < k ∧ a = A.length + k ∧ k ≤ B.length) → (StrLaws.partsFrom x w.length a []).map cl = [A.drop a ++ B.drop k] := by
    intro A B k a hx hk
    show [cl (strSub x a x.length)] = _
    rw [sub_cl, List.take_of_length_le (by rw [List.length_drop, cl_len]; exact Nat.le_refl _), hx]
    congr 1
    rcases hk with ⟨rfl, h⟩ | ⟨h1, rfl, h3⟩
    · rw [List.drop_append_of_le_length h, List.drop_zero]
    · rw [List.drop_append, List.drop_of_length_le (by omega), Nat.add_sub_cancel_left]
  intro B
  induction B with
  | nil =>
    intro A k lim a hx hk
    have e : (scanS w [] k A.length).take lim = [] := by simp [scanS]
    rw [e, last A [] k a hx hk]
    cases lim <;> cases k <;> simp [cut]
  | cons c l ih =>
    intro A k lim a hx hk
    have hx' : cl x = (A ++ [c]) ++ l := by rw [hx]; simp
    have hA : (A ++ [c]).length = A.length + 1 := by simp
    cases lim with
    | zero => rw [List.take_zero, last A (c :: l) k a hx hk, cut_zero]
    | succ lim =>
      cases k with
      | zero =>
        have ha : a ≤ A.length := by omega
        rw [scanS, cut]
        by_cases hp : w.isPrefixOf (c :: l) = true
        · rw [if_pos hp, if_pos hp, List.take_succ_cons]
          show cl (strSub x a A.length) :: (StrLaws.partsFrom x w.length (A.length + w.length) _).map cl = _
          have e1 : cl (strSub x a A.length) = A.drop a := by
            rw [sub_cl, hx, List.drop_append_of_le_length ha, List.take_left' (by rw [List.length_drop])]
          have hpl : w.length ≤ l.length + 1 := by
            have := (List.isPrefixOf_iff_prefix.mp hp).length_le
            simpa using this
          have := ih (A ++ [c]) (w.length - 1) lim (A.length + w.length) hx' (by rw [hA]; by_cases h1 : w.length = 1 <;> omega)
          rw [hA] at this
          have d1 : (A ++ [c]).drop (A.length + w.length) = [] := List.drop_of_length_le (by rw [hA]; omega)
          rw [e1, this, d1]
          simp
        · rw [if_neg hp, if_neg hp]
          have := ih (A ++ [c]) 0 (lim + 1) a hx' (.inl ⟨rfl, by omega⟩)
          rw [hA] at this
          rw [this, List.drop_append_of_le_length ha]
          simp
      | succ k =>
        rw [scanS, cut]
        have hk' : a = A.length + (k + 1) ∧ k + 1 ≤ l.length + 1 := by
          rcases hk with ⟨h, _⟩ | ⟨_, h2, h3⟩
          · cases h
          · exact ⟨h2, by simpa using h3⟩
        have := ih (A ++ [c]) k (lim + 1) a hx' (by rw [hA]; by_cases h1 : k = 0 <;> omega)
        rw [hA] at this
        have d1 : (A ++ [c]).drop a = [] := List.drop_of_length_le (by rw [hA]; omega)
        have d2 : A.drop a = [] := List.drop_of_length_le (by omega)
        rw [this, d1, d2]
theorem scan_short {w : List Nat} : ∀ {B : List Nat} {i : Nat}, B.length < w.length → scanS w B 0 i = []
  | [], i, _ => rfl
  | c :: l, i, h => by
    rw [scanS, if_neg (fun hp => ?_), scan_short (by simp at h; omega)]
    have := (List.isPrefixOf_iff_prefix.mp hp).length_le
    omega
theorem occ_all (x y : PySem.Str) (lim : Nat) (hy : 1 ≤ y.length) : occurrences x y 0 x.length lim = (scanS (cl y) (cl x) 0 0).take lim := by
  have := occ_scan (s := x) (sub := y) (A := []) (B := cl x) (C := []) lim (by simp) hy
  rw [cl_len]
  simpa using this
theorem kind_le {x y : PySem.Str} (hy : y.cps.all (· < 256) = true) : decide (Builtin.Str.strKind x < Builtin.Str.strKind y) = false := by
  have e : Builtin.Str.strKind y = 1 := by unfold Builtin.Str.strKind; rw [if_pos hy]
  have : 1 ≤ Builtin.Str.strKind x := by unfold Builtin.Str.strKind; split <;> (try split) <;> decide
  rw [e]; exact decide_eq_false (by omega)
theorem parts_all (x y : PySem.Str) (lim : Nat) (hy : 1 ≤ y.length) : (partsBetween x (occurrences x y 0 x.length lim) y.length).map cl = splitN (cl y) lim (cl x) := by
  rw [StrLaws.partsBetween_eq, occ_all x y lim hy]
  have := parts_cut (x := x) (w := cl y) (by rw [← cl_len]; exact hy) (cl x) [] 0 lim 0 (by simp) (.inl ⟨rfl, Nat.zero_le _⟩)
  rw [← cl_len] at this
  simpa [splitN] using this
theorem parts_none (x : PySem.Str) (w : Nat) : partsBetween x [] w = [x] := by
  rw [StrLaws.partsBetween_eq]
  show [strSub x 0 x.length] = [x]
  rw [strSub_whole]
theorem splitMax_cl {x y : PySem.Str} {k : Int} (hy : 1 ≤ y.length) (hk : y.cps.all (· < 256) = true) : (Txt.splitMax x y k).map cl = splitN (cl y) (limitOf x k) (cl x) := by
  rw [← parts_all x y _ hy]
  unfold Txt.splitMax
  rw [kind_le hk, Bool.or_false]
  split
  · rename_i h
    have : occurrences x y 0 x.length (limitOf x k) = [] := by
      rw [occ_all x y _ hy, scan_short (by rw [← cl_len, ← cl_len]; simpa using h)]; simp
    rw [this, parts_none]
  · split
    · rename_i h
      rw [List.isEmpty_iff.mp h, parts_none]
    · rfl
theorem split_cl {x y : PySem.Str} (hy : 1 ≤ y.length) (hk : y.cps.all (· < 256) = true) : (Txt.split x y).map cl = splitU (cl y) (cl x) := by
  have e : splitU (cl y) (cl x) = splitN (cl y) (x.length + 1) (cl x) := by
    unfold splitU splitN
    rw [cut_big (cl y) (cl x) (x.length + 1) 0 (by rw [cl_len]; omega)]
  rw [e, ← parts_all x y _ hy]
  unfold Txt.split
  rw [kind_le hk, Bool.or_false]
  split
  · rename_i h
    have : occurrences x y 0 x.length (x.length + 1) = [] := by
      rw [occ_all x y _ hy, scan_short (by rw [← cl_len, ← cl_len]; simpa using h)]; simp
    rw [this, parts_none]
  · split
    · rename_i h
      rw [List.isEmpty_iff.mp h, parts_none]
    · rfl
/-- texts laid one behind the other -/
def joinW (s : List Nat) : List (List Nat) → List Nat
  | [] => []
  | [x] => x
  | x :: y :: r => x ++ s ++ joinW s (y :: r)
theorem join_cl (sep : PySem.Str) (ys : List PySem.Str) : cl (Txt.join sep ys) = joinW (cl sep) (ys.map cl) := by
  show cl (glued _ ys) = _
  rw [StrLaws.glued_eq_join]
  induction ys with
  | nil => rfl
  | cons x r ih =>
    cases r with
    | nil => rfl
    | cons y r =>
      show cl (x ++ sep ++ Str.join sep (y :: r)) = _
      rw [cl_app, cl_app, ih]
      rfl
theorem replace_cl {x y z : PySem.Str} (hy : 1 ≤ y.length) : cl (Txt.replace x y z) = joinW (cl z) (splitU (cl y) (cl x)) := by
  have e : splitU (cl y) (cl x) = splitN (cl y) (x.length + 1) (cl x) := by
    unfold splitU splitN
    rw [cut_big (cl y) (cl x) (x.length + 1) 0 (by rw [cl_len]; omega)]
  rw [e, ← parts_all x y _ hy]
  unfold Txt.replace
  have hy0 : (y.length == 0) = false := beq_eq_false_iff_ne.mpr (by omega)
  rw [hy0, Bool.false_and, Bool.or_false]
  split
  · rename_i h
    rw [List.isEmpty_iff.mp h, parts_none]; rfl
  · exact join_cl z _
theorem joinW_cons (s x : List Nat) (ps : List (List Nat)) (hps : ps ≠ []) : joinW s (x :: ps) = x ++ s ++ joinW s ps := by
  cases ps with
  | nil => exact absurd rfl hps
  | cons y r => rfl
theorem joinW_head (s : List Nat) (c : Nat) (x : List Nat) (r : List (List Nat)) : joinW s ((c :: x) :: r) = c :: joinW s (x :: r) := by
  cases r <;> rfl
/-- one sign replaced -/
theorem join_split1 (z : List Nat) (c : Nat) : ∀ l : List Nat, joinW z (splitU [c] l) = l.flatMap fun d => if d = c then z else [d]
  | [] => rfl
  | d :: l => by
    have ih := join_split1 z c l
    unfold splitU at ih ⊢
    rw [cutU]
    by_cases h : d = c
    · subst h
      rw [if_pos (by simp)]
      simp only [List.length_singleton, Nat.sub_self]
      rw [joinW_cons _ _ _ (by simp), ih]
      simp
    · rw [if_neg (by simp [Ne.symm h])]
      simp only
      rw [joinW_head, ih]
      simp [h]
theorem cutU_len {w : List Nat} : ∀ (l : List Nat) (k : Nat), (cutU w l k).1.length + ((cutU w l k).2.map List.length).sum + (cutU w l k).2.length ≤ l.length
  | [], k => by cases k <;> simp [cutU]
  | c :: l, 0 => by
    rw [cutU]
    split
    · have := cutU_len (w := w) l (w.length - 1)
      simp only [List.length_nil, List.map_cons, List.sum_cons, List.length_cons]
      omega
    · have := cutU_len (w := w) l 0
      simp only [List.length_cons]
      omega
  | c :: l, k + 1 => by
    rw [cutU]
    have := cutU_len (w := w) l k
    simp only [List.length_cons]
    omega
theorem joinW_len (s : List Nat) : ∀ (ps : List (List Nat)) (p : List Nat), (joinW s (p :: ps)).length = p.length + (ps.map List.length).sum + ps.length * s.length
  | [], p => by simp [joinW]
  | q :: ps, p => by
    have := joinW_len s ps q
    rw [joinW]
    simp only [List.length_append, List.map_cons, List.sum_cons, List.length_cons, Nat.succ_mul] at this ⊢
    omega
theorem splitU_len (w l : List Nat) : (splitU w l).length ≤ l.length + 1 := by
  have := cutU_len (w := w) l 0
  unfold splitU
  simp only [List.length_cons]
  omega
theorem splitU_sum (w l : List Nat) : ((splitU w l).map List.length).sum ≤ l.length := by
  have := cutU_len (w := w) l 0
  unfold splitU
  simp only [List.map_cons, List.sum_cons]
  omega
/-- a replacement by one sign does not grow -/
theorem rep_short {x y z : PySem.Str} (hy : 1 ≤ y.length) (hz : z.length ≤ 1) : (Txt.replace x y z).length ≤ x.length := by
  rw [cl_len, replace_cl hy, cl_len x]
  unfold splitU
  rw [joinW_len, ← cl_len]
  have := cutU_len (w := cl y) (cl x) 0
  have : (cutU (cl y) (cl x) 0).2.length * z.length ≤ (cutU (cl y) (cl x) 0).2.length * 1 := Nat.mul_le_mul_left _ hz
  omega
theorem split_sum {x y : PySem.Str} (hy : 1 ≤ y.length) (hk : y.cps.all (· < 256) = true) : ((Txt.split x y).map (·.length)).sum ≤ x.length := by
  have h := splitU_sum (cl y) (cl x)
  rw [← split_cl hy hk, List.map_map, ← cl_len] at h
  have e : (List.length ∘ cl) = (fun p : PySem.Str => p.length) := by funext p; exact (cl_len p).symm
  rwa [e] at h
theorem split_len {x y : PySem.Str} (hy : 1 ≤ y.length) (hk : y.cps.all (· < 256) = true) : (Txt.split x y).length ≤ x.length + 1 := by
  have h := splitU_len (cl y) (cl x)
  rw [← split_cl hy hk, List.length_map, ← cl_len] at h
  exact h
theorem mem_sum {ys : List PySem.Str} {y : PySem.Str} (h : y ∈ ys) : y.length ≤ (ys.map (·.length)).sum := by
  induction ys with
  | nil => cases h
  | cons z ys ih =>
    rw [List.map_cons, List.sum_cons]
    rcases List.mem_cons.mp h with rfl | h
    · omega
    · have := ih h; omega
theorem joinOk_sum {sep : PySem.Str} {ys : List PySem.Str} (h : (ys.map (·.length)).sum + ys.length * sep.length ≤ 16777216) : JoinOk sep ys = true := by
  unfold JoinOk tooLong sizeLine
  rw [StrLaws.joinTotal]
  simp
  omega
theorem join_sum {sep : PySem.Str} {ys : List PySem.Str} : (Txt.join sep ys).length ≤ (ys.map (·.length)).sum + ys.length * sep.length := by
  show (glued sep ys).length ≤ _
  rw [StrLaws.glued_eq_join]
  exact StrLaws.join_length_le sep ys
theorem sum_le {α : Type} {f g : α → Nat} {l : List α} (h : ∀ a ∈ l, f a ≤ g a) : (l.map f).sum ≤ (l.map g).sum := by
  induction l with
  | nil => simp
  | cons a l ih =>
    have := h a List.mem_cons_self
    have := ih fun b hb => h b (List.mem_cons_of_mem _ hb)
    simp only [List.map_cons, List.sum_cons]
    omega
end Mine

end

section
namespace Mine
open PySem PySem.Calls PyProof.Rows PySem.W Builtin Builtin.Str

theorem range_pickA {α : Type} {l : List α} (a : Nat) : ∀ n, a + n ≤ l.length → (((List.range n).map (a + ·)).filterMap (l[·]?)) = (l.drop a).take n := by
  intro n
  induction n with
  | zero => intro _; simp
  | succ n ih =>
    intro h
    rw [List.range_succ, List.map_append, List.filterMap_append, ih (by omega), List.take_add_one, List.getElem?_drop]
    simp [List.getElem?_eq_getElem (show a + n < l.length by omega)]
theorem range_rev {α : Type} : ∀ {l : List α} (n : Nat), n ≤ l.length → (((List.range n).map fun (k : Nat) => ((n : Int) - 1 + -1 * (k : Int)).toNat).filterMap (l[·]?)) = (l.take n).reverse := by
  intro l n
  induction n with
  | zero => intro _; simp
  | succ n ih =>
    intro h
    rw [List.range_succ_eq_map, List.map_cons, List.filterMap_cons]
    have e0 : ((((n + 1 : Nat) : Int) - 1 + -1 * ((0 : Nat) : Int)).toNat) = n := by omega
    rw [e0, List.getElem?_eq_getElem (by omega), List.map_map]
    have e1 : ((fun (k : Nat) => (((n + 1 : Nat) : Int) - 1 + -1 * (k : Int)).toNat) ∘ Nat.succ) = fun (k : Nat) => ((n : Int) - 1 + -1 * (k : Int)).toNat := by
      funext k; simp only [Function.comp_def, Nat.succ_eq_add_one]; congr 1; omega
    rw [e1, ih (by omega)]
    have : l.take (n + 1) = l.take n ++ [l[n]] := by rw [List.take_add_one, List.getElem?_eq_getElem (by omega)]; rfl
    rw [this, List.reverse_append]
    rfl
def clipN (v : Option Int) (dflt n : Nat) : Nat := match v with
  | none => dflt
  | some i => (max 0 (min (if i < 0 then i + n else i) (n : Int))).toNat
theorem clipN_le {v : Option Int} {dflt n : Nat} (h : dflt ≤ n) : clipN v dflt n ≤ n := by
  unfold clipN
  cases v with
  | none => exact h
  | some i => dsimp only; omega
theorem clip_eq (v : Option Int) (dflt n : Nat) : (match v with | none => (dflt : Int) | some i => max 0 (min (if i < 0 then i + n else i) (n : Int))) = ((clipN v dflt n : Nat) : Int) := by
  unfold clipN
  cases v with
  | none => rfl
  | some i => dsimp only; omega
theorem rangeOne (lo hi : Option Int) (n : Nat) : sliceRange (sliceBounds lo hi none n).1 (sliceBounds lo hi none n).2.1 (sliceBounds lo hi none n).2.2 = (List.range (clipN hi n n - clipN lo 0 n)).map (clipN lo 0 n + ·) := by
  have e1 : (sliceBounds lo hi none n).1 = (clipN lo 0 n : Nat) := by
    unfold sliceBounds clipN
    cases lo with
    | none => rfl
    | some i => simp only [Option.getD_none]; rw [if_pos (by decide)]; omega
  have e2 : (sliceBounds lo hi none n).2.1 = (clipN hi n n : Nat) := by
    unfold sliceBounds clipN
    cases hi with
    | none => rfl
    | some i => simp only [Option.getD_none]; rw [if_pos (by decide)]; omega
  have e3 : (sliceBounds lo hi none n).2.2 = 1 := rfl
  rw [e1, e2, e3, sliceRange_one]
theorem pick_one {α : Type} (ys : List α) (lo hi : Option Int) : pick ys lo hi none = (ys.drop (clipN lo 0 ys.length)).take (clipN hi ys.length ys.length - clipN lo 0 ys.length) := by
  unfold pick
  rw [rangeOne]
  have h1 := clipN_le (v := lo) (Nat.zero_le ys.length)
  have h2 := clipN_le (v := hi) (Nat.le_refl ys.length)
  by_cases h : clipN lo 0 ys.length ≤ clipN hi ys.length ys.length
  · exact range_pickA _ _ (by omega)
  · rw [show clipN hi ys.length ys.length - clipN lo 0 ys.length = 0 by omega]; simp
theorem pick_rev {α : Type} (ys : List α) : pick ys none none (some (-1)) = ys.reverse := by
  unfold pick
  have e : sliceRange (sliceBounds none none (some (-1)) ys.length).1 (sliceBounds none none (some (-1)) ys.length).2.1 (sliceBounds none none (some (-1)) ys.length).2.2 = (List.range ys.length).map fun (k : Nat) => ((ys.length : Int) - 1 + -1 * (k : Int)).toNat := by
    show sliceRange ((ys.length : Int) - 1) (-1) (-1) = _
    unfold sliceRange
    have : (if (-1 : Int) > 0 then (if (ys.length : Int) - 1 < -1 then (-1 - ((ys.length : Int) - 1) + -1 - 1) / -1 else 0) else (if (ys.length : Int) - 1 > -1 then ((ys.length : Int) - 1 - -1 - -1 - 1) / (- -1) else 0)) = (ys.length : Int) := by
      rw [if_neg (by decide), show (- -1 : Int) = 1 by decide, Int.ediv_one]
      split <;> omega
    simp only [this]
    rfl
  rw [e, range_rev ys.length (Nat.le_refl _), List.take_length]
theorem strSl_indices (lo hi : Option Int) (st : Option Int) (n : Nat) : strSliceIndices lo hi (st.getD 1) n = sliceRange (sliceBounds lo hi st n).1 (sliceBounds lo hi st n).2.1 (sliceBounds lo hi st n).2.2 := by
  unfold strSliceIndices sliceBounds
  cases lo <;> cases hi <;> rfl
theorem cl_strSl (x : PySem.Str) (lo hi st : Option Int) (h1 : st.getD 1 = 1 → (strSliceIndices lo hi (st.getD 1) x.length).length = x.length → pick (cl x) lo hi st = cl x) : cl (strSl x lo hi st) = pick (cl x) lo hi st := by
  unfold strSl
  split
  · rename_i c
    simp only [Bool.and_eq_true, beq_iff_eq] at c
    exact (h1 c.1 c.2).symm
  · unfold pick
    rw [strSl_indices, ← cl_len]
    show (sliceRange _ _ _).filterMap (x.cps[·]?) = _
    congr 1
    funext i
    simp
theorem cl_strSl1 (x : PySem.Str) (lo hi : Option Int) : cl (strSl x lo hi none) = ((cl x).drop (clipN lo 0 x.length)).take (clipN hi x.length x.length - clipN lo 0 x.length) := by
  have hp := pick_one (cl x) lo hi
  rw [← cl_len] at hp
  rw [← hp]
  refine cl_strSl x lo hi none fun _ hlen => ?_
  rw [strSl_indices, rangeOne, List.length_map, List.length_range] at hlen
  have h1 := clipN_le (v := lo) (Nat.zero_le x.length)
  have h2 := clipN_le (v := hi) (Nat.le_refl x.length)
  rw [hp]
  by_cases h0 : x.length = 0
  · have : cl x = [] := List.eq_nil_of_length_eq_zero (by rw [← cl_len]; exact h0)
    rw [this]; simp
  · have ha : clipN lo 0 x.length = 0 := by omega
    rw [ha, List.drop_zero, List.take_of_length_le (by rw [← cl_len]; omega)]
theorem cl_strSlR (x : PySem.Str) : cl (strSl x none none (some (-1))) = (cl x).reverse := by
  rw [← pick_rev]
  exact cl_strSl x none none (some (-1)) fun h => absurd h (by decide)
theorem strSl_len (x : PySem.Str) (lo hi : Option Int) : (strSl x lo hi none).length ≤ x.length := by
  rw [cl_len, cl_strSl1, List.length_take, List.length_drop, ← cl_len]; omega
end Mine

end

section
namespace Mine
open PySem PySem.Calls PyProof.Rows PySem.W Builtin Builtin.Str

def testOf : Stmt → Expr
  | .If t _ _ _ => t
  | _ => .Constant .none 0 ⟨0, 0, 0, 0⟩
def and2 : Expr → Expr
  | .BoolOp _ [_, e] _ => e
  | e => e
def codesL : List Int := [9, 10, 11, 12, 13, 28, 29, 30, 31, 32, 133, 160, 5760, 8232, 8233, 8239, 8287, 12288]
def blankL : List PySem.Str := (codesL ++ rngI 8192 8203).map fun i => ⟨#[i.toNat]⟩
theorem blankL_len : blankL.length = 29 := by decide +kernel
theorem blank_one : ∀ y ∈ blankL, y.length ≤ 1 := by decide +kernel
def S_bl : Sig := Sig.of [("codes" : PySem.Str)] [.local] (fnRec pw 3).scope (by decide +kernel)
def S_blc : Sig := Sig.of [("code" : PySem.Str)] [.local] (relab (scOf (exOf (stAt pw 3 1))) S_bl.sc) (by decide +kernel)
theorem cs_bl : CompSig S_bl S_blc (scOf (exOf (stAt pw 3 1))) := compSig_of rfl (by decide +kernel)
section
variable {W : Wd} (hB : ∀ y ∈ bnames, W.mg y = none)
include hB
theorem bl_body {F : FI W S_bl} : Ex F ([] ++ [.no]) (fnRec pw 3).body (fun o => o = .ret (.list (blankL.map .str))) := by
  refine ex_seq (ex_assign 0 (ev_cints codesL (by rfl) (by decide +kernel)) rfl (.inl rfl) (by rfl)) ?_
  refine ex_cons (ex_ret (Ev.as (CompRun.ev (comp1 iv_int (S' := S_blc) (as := codesL ++ rngI 8192 8203) (fun _ => true) (fun i => .str ⟨#[i.toNat]⟩) [.no] 0 cs_bl
    (ev_binop (ev_name 0 rfl rfl rfl (by decide +kernel)) (Ev.as (ev_bcall (evs_cons (ev_bcall (evs_cons ev_int (evs_cons ev_int evs_nil fun _ => rfl) fun _ => rfl) boot_range' (hB _ (by decide +kernel)) keeps_type cal_range2 (by decide +kernel) (by decide +kernel) (by decide +kernel) fun _ => rfl) evs_nil fun _ => rfl) boot_list' (hB _ (by decide +kernel)) keeps_type (cal_list_rng ?_ ?_) (by decide +kernel) (by decide +kernel) (by decide +kernel) fun _ => rfl) (congrArg D.list (rngL_eq _ _))) (add_lli (by decide +kernel))) itr_list (by decide +kernel) (taken_no rfl) rfl rfl rfl (fun _ _ _ _ => .nil) (fun F' _ i hi _ => ?_) (fun _ _ => rfl)))
    (show _ = D.list (blankL.map D.str) from ?_)) rfl)
  · exact small_one (by decide) (by decide) (by decide) (by decide)
  · decide
  · 
    have hi' : ∀ i ∈ codesL ++ rngI 8192 8203, 0 ≤ i ∧ i ≤ 1114111 := by decide +kernel
    refine (ev_bcall (evs_cons (ev_name 0 rfl rfl rfl (by decide +kernel)) evs_nil fun _ => rfl) boot_chr' (hB _ (by decide +kernel)) keeps_builtin (cal_chr ?_ ?_) (by decide +kernel) (by decide +kernel) (by decide +kernel) fun _ => rfl)
    · exact (hi' i hi).1
    · exact (hi' i hi).2
  · unfold blankL
    rw [List.filter_eq_self.mpr (fun _ _ => rfl), List.map_map]
    rfl
end

def signC : PySem.Str := ";\"\\= aBc\"\u00c9\u00e9\u0130.\u037e"
def txStep (p : List PySem.Str × PySem.Str) (x : Int) : List PySem.Str × PySem.Str :=
  if x % 16 = 0 then (p.1 ++ [p.2], PySem.Str.ofString "") else if x % 16 = 15 then (p.1, p.2 ++ itemS blankL (x / 16 % 29)) else (p.1, p.2 ++ chAt signC (x % 16 - 1))
def txFold (ns : List Int) : List PySem.Str × PySem.Str := ns.foldl txStep ([], PySem.Str.ofString "")
def textsW (ns : List Int) : List PySem.Str := (txFold ns).1 ++ [(txFold ns).2]
theorem txFold_snoc (ns : List Int) (x : Int) : txFold (ns ++ [x]) = txStep (txFold ns) x := by unfold txFold; rw [List.foldl_append]; rfl
theorem tx_size (ns : List Int) : (txFold ns).1.length + ((txFold ns).1.map (·.length)).sum + (txFold ns).2.length ≤ ns.length := by
  have key : ∀ n, n ≤ ns.length → (txFold (ns.take n)).1.length + ((txFold (ns.take n)).1.map (·.length)).sum + (txFold (ns.take n)).2.length ≤ n := by
    intro n
    induction n with
    | zero => intro _; exact Nat.le_refl 0
    | succ n ih =>
      intro hn
      have e : ns.take (n + 1) = ns.take n ++ [ns[n]] := by rw [List.take_add_one, List.getElem?_eq_getElem (by omega)]; rfl
      have i := ih (by omega)
      rw [e, txFold_snoc]
      generalize txFold (ns.take n) = p at i
      unfold txStep
      have h0 : (PySem.Str.ofString "").length = 0 := by decide +kernel
      split
      · simp only [List.length_append, List.map_append, List.sum_append, List.map_cons, List.map_nil, List.sum_cons, List.sum_nil, List.length_singleton, h0]; omega
      · split
        · have := itemS_len blank_one (ns[n] / 16 % 29)
          simp only [slen]; omega
        · have : (chAt signC (ns[n] % 16 - 1)).length = 1 := rfl
          simp only [slen]; omega
  have := key ns.length (Nat.le_refl _)
  rwa [List.take_length] at this
def S_tx : Sig := Sig.of [("script" : PySem.Str), "blanks", "texts", "x"] [.local, .local, .local, .local] (fnRec pw 4).scope (by decide +kernel)
section
variable {W : Wd}
theorem tx_body {F : FI W S_tx} (hown : F.own = true) (ns : List Int) (hn : ns.length ≤ 63) : Ex F ([D.list (ns.map .int), .list (blankL.map .str)].map Sl.val ++ List.replicate 2 Sl.no) (fnRec pw 4).body (fun o => o = .ret (.list ((textsW ns).map .str))) := by
  refine ex_norm (ρ' := [_, _, _, _]) rfl ?_
  refine ex_seq (ex_assign_lst 2 (evf_list (evs_cons ev_str evs_nil fun _ => rfl) (Nat.le_of_ble_eq_true rfl)) rfl (.inl rfl) (by rfl)) ?_
  refine ex_norm (ρ' := [_, _, _, _]) rfl ?_
  refine ex_seqP (P := fun ρ' => ∃ s3, ρ' = [.val (.list (ns.map .int)), .val (.list (blankL.map .str)), .lst ((txFold ns).1.map .str ++ [.str (txFold ns).2]), s3]) (ex_for hown (ev_name 0 rfl rfl rfl (by decide +kernel)) itr_list
    (fun i ρ => ∃ s3, ρ = [.val (.list (ns.map .int)), .val (.list (blankL.map .str)), .lst ((txFold (ns.take i)).1.map .str ++ [.str (txFold (ns.take i)).2]), s3]) ⟨.no, rfl⟩ ?_ ?_ (fun _ _ => rfl)) ?_
  · rintro F₂ hl₂ ho₂ i ρ d hd ⟨s3, rfl⟩
    rw [List.getElem?_map] at hd
    cases e : ns[i]? with
    | none => rw [e] at hd; cases hd
    | some x =>
      rw [e] at hd
      cases hd
      have hi := (List.getElem?_eq_some_iff.mp e).1
      have es : txFold (ns.take (i + 1)) = txStep (txFold (ns.take i)) x := by rw [List.take_add_one, e]; exact txFold_snoc _ _
      have hsz := tx_size (ns.take i)
      rw [List.length_take] at hsz
      refine ⟨_, asg_name 3 rfl (.inl rfl), ?_⟩
      show Ex F₂ [_, _, _, Sl.val (.int x)] _ _
      rw [es]
      generalize txFold (ns.take i) = p at hsz
      obtain ⟨ts, last⟩ := p
      dsimp only at hsz ⊢
      have hll : last.length ≤ 63 := by omega
      refine ex_cons (ex_if (te_cmp (ev_binop (ev_name 3 rfl rfl rfl (by decide +kernel)) ev_int (mod_ii (by decide))) ev_int eq_ii rfl) (fun h => ?_) (fun h => ?_))
      · refine ex_seq (ex_append 2 rfl (.inl rfl) rfl ev_str ?_ (by decide +kernel) rfl (fun e h => by rw [interactive, h]; rfl) (fun _ => rfl) (fun _ => rfl)) (ex_nil ?_)
        · simp; omega
        have h' : x % 16 = 0 := by simpa using h
        refine ex_nil ⟨.val (.int x), ?_⟩
        unfold txStep
        rw [if_pos h']
        simp only [List.map_append, List.map_cons, List.map_nil]
        rfl
      · have h0 : x % 16 ≠ 0 := by simpa using h
        refine ex_cons (ex_if (te_cmp (ev_binop (ev_name 3 rfl rfl rfl (by decide +kernel)) ev_int (mod_ii (by decide))) ev_int eq_ii rfl) (fun h => ?_) (fun h => ?_))
        · have h' : x % 16 = 15 := by simpa using h
          have hb := itemS_len blank_one (x / 16 % 29)
          refine ex_seq (ex_aug_last 2 rfl (.inl rfl) rfl (ev_unop ev_int neg_i) (ev_item (ev_name 1 rfl rfl rfl (by decide +kernel)) (ev_binop (ev_binop (ev_name 3 rfl rfl rfl (by decide +kernel)) ev_int (fdiv_ii (by decide) (by decide))) ev_int (mod_ii (by decide))) .list (item_ls ?_ ?_) fun _ _ => ⟨_, rfl⟩) (iadd_ss ?_) ?_ (by decide +kernel) (fun _ _ _ => rfl)) (ex_nil ?_)
          · rw [blankL_len]; omega
          · rw [blankL_len]; decide
          · omega
          · simp; omega
          · refine ex_nil (ex_nil ⟨.val (.int x), ?_⟩)
            unfold txStep
            rw [if_neg h0, if_pos h']
            rfl
        · have h1 : x % 16 ≠ 15 := by simpa using h
          have hl : signC.length = 14 := by decide +kernel
          have hb : (chAt signC (x % 16 - 1)).length = 1 := rfl
          refine ex_seq (ex_aug_last 2 rfl (.inl rfl) rfl (ev_unop ev_int neg_i) (ev_item (ev_str (x := signC)) (ev_binop (ev_binop (ev_name 3 rfl rfl rfl (by decide +kernel)) ev_int (mod_ii (by decide))) ev_int sub_ii) .str (item_s ?_ ?_ ?_) fun _ _ => ⟨_, rfl⟩) (iadd_ss ?_) ?_ (by decide +kernel) (fun _ _ _ => rfl)) (ex_nil ?_)
          · rw [hl]; omega
          · rw [hl]; omega
          · rw [hl]; decide
          · omega
          · simp; omega
          · refine ex_nil (ex_nil ⟨.val (.int x), ?_⟩)
            unfold txStep
            rw [if_neg h0, if_neg h1]
            rfl
  · rintro ρ ⟨s3, hρ⟩
    rw [List.length_map, List.take_length] at hρ
    exact ⟨ρ, rfl, s3, hρ⟩
  rintro ρ' ⟨s3, rfl⟩
  refine ex_cons (ex_ret_lst 2 rfl (.inl rfl) rfl (by decide +kernel) ?_)
  unfold textsW
  rw [List.map_append]
  rfl
end
end Mine

end

section
namespace Mine
open PySem PySem.Calls PyProof.Rows PySem.W Builtin Builtin.Str

def partsW (t : PySem.Str) : List PySem.Str := Txt.split (Txt.replace t (PySem.Str.ofString "\\\"") (PySem.Str.ofString "..")) (PySem.Str.ofString "\"")
def semiIn (p : PySem.Str) : Bool := !(Builtin.Str.occurrences p (PySem.Str.ofString ";") 0 p.length 1).isEmpty
def c1W (t : PySem.Str) : List PySem.Str := (pick (partsW t) (some 0) none (some 2)).filter semiIn
def halvesW (t : PySem.Str) : List PySem.Str := Txt.splitMax t (PySem.Str.ofString "=") 1
def halfC (h : PySem.Str) : Bool := (blankL.any (· == strSl h none (some 1) none)) || (blankL.any (· == strSl h (some (-1)) none none))
def c3W (t : PySem.Str) : List PySem.Str := (halvesW t).filter halfC
def greatC (c : Nat) : Bool := !(Builtin.Str.occurrences (PySem.Str.ofString "BD\u00c9\u0130") ⟨#[c]⟩ 0 (PySem.Str.ofString "BD\u00c9\u0130").length 1).isEmpty
def c4W (t : PySem.Str) : List Nat := (cl (itemS (halvesW t) 0)).filter greatC
def okAt (len n : Nat) (t : PySem.Str) : Bool :=
  decide (c1W t = []) && (!(((((partsW t).length : Int) % 2 == 0)) && decide ((n : Int) + 1 < (len : Int)))) && decide (c3W t = []) && (!((((halvesW t).length : Int) == 2) && !((c4W t).map fun c => D.str ⟨#[c]⟩).isEmpty))
def tAt (ts : List PySem.Str) (n : Nat) : PySem.Str := ts[n]?.getD ⟨#[]⟩
def fitW (ts : List PySem.Str) : Bool := ((List.range ts.length).all fun n => okAt ts.length n (tAt ts n)) && !decide (ts = [])
theorem fit_no {ts : List PySem.Str} {n : Nat} (h : n < ts.length) (q : okAt ts.length n (tAt ts n) = false) : fitW ts = false := by
  unfold fitW
  have : ((List.range ts.length).all fun n => okAt ts.length n (tAt ts n)) = false := by
    rw [← Bool.not_eq_true, List.all_eq_true]
    intro a
    have := a n (List.mem_range.mpr h)
    rw [q] at this; cases this
  rw [this]; rfl
theorem fit_yes {ts : List PySem.Str} (h : ∀ n, n < ts.length → okAt ts.length n (tAt ts n) = true) : fitW ts = !decide (ts = []) := by
  unfold fitW
  rw [List.all_eq_true.mpr fun n hn => h n (List.mem_range.mp hn)]; rfl

def S_ft : Sig := Sig.of [("texts" : PySem.Str), "blanks", "n", "parts", "halves"] [.local, .cell, .local, .local, .local] (fnRec pw 5).scope (by decide +kernel)
def ftB : List Stmt := bodyOf (stAt pw 5 0)
def S_ftA : Sig := Sig.of [("part" : PySem.Str)] [.local] (relab (scOf (cmpL (testOf (stOf ftB 1)))) S_ft.sc) (by decide +kernel)
theorem cs_ftA : CompSig S_ft S_ftA (scOf (cmpL (testOf (stOf ftB 1)))) := compSig_of rfl (by decide +kernel)
def S_ftB : Sig := Sig.of [("blanks" : PySem.Str), "half"] [.cell, .local] (relab (scOf (cmpL (testOf (stOf ftB 4)))) S_ft.sc) (by decide +kernel)
theorem cs_ftB : CompSig S_ft S_ftB (scOf (cmpL (testOf (stOf ftB 4)))) := compSig_of rfl (by decide +kernel)
def S_ftC : Sig := Sig.of [("c" : PySem.Str)] [.local] (relab (scOf (cmpL (and2 (testOf (stOf ftB 5))))) S_ft.sc) (by decide +kernel)
theorem cs_ftC : CompSig S_ft S_ftC (scOf (cmpL (and2 (testOf (stOf ftB 5))))) := compSig_of rfl (by decide +kernel)
theorem halves_len (t : PySem.Str) : 0 < (halvesW t).length ∧ (halvesW t).length ≤ t.length + 1 ∧ ∀ h ∈ halvesW t, h.length ≤ t.length := by
  have hy : 1 ≤ (PySem.Str.ofString "=").length := by decide +kernel
  have hk : (PySem.Str.ofString "=").cps.all (· < 256) = true := by decide +kernel
  have e := splitMax_cl (x := t) (y := PySem.Str.ofString "=") (k := 1) hy hk
  have key : ∀ (w : List Nat) (l : List Nat) (lim k : Nat), (cut w lim l k).1.length + ((cut w lim l k).2.map List.length).sum + (cut w lim l k).2.length ≤ l.length := by
    intro w l
    induction l with
    | nil => intro lim k; cases lim <;> cases k <;> simp [cut]
    | cons c l ih =>
      intro lim k
      cases lim with
      | zero => rw [cut_zero]; simp
      | succ lim =>
        cases k with
        | zero =>
          rw [cut]
          split
          · have := ih lim (w.length - 1)
            simp only [List.length_nil, List.map_cons, List.sum_cons, List.length_cons]
            omega
          · have := ih (lim + 1) 0
            simp only [List.length_cons]
            omega
        | succ k =>
          rw [cut]
          have := ih (lim + 1) k
          simp only [List.length_cons]
          omega
  have hb := key (cl (PySem.Str.ofString "=")) (cl t) (limitOf t 1) 0
  have el := congrArg List.length e
  have es := congrArg (fun l => (l.map List.length).sum) e
  simp only [List.length_map, List.map_map] at el es
  unfold splitN at el es
  simp only [List.length_cons, List.map_cons, List.sum_cons] at el es
  have e2 : (List.length ∘ cl) = (fun p : PySem.Str => p.length) := by funext p; exact (cl_len p).symm
  rw [e2] at es
  rw [← cl_len] at hb
  refine ⟨by unfold halvesW; omega, by unfold halvesW; omega, fun h hh => ?_⟩
  have := mem_sum hh
  unfold halvesW at this
  omega
section
variable {W : Wd} (hB : ∀ y ∈ bnames, W.mg y = none)
include hB
theorem ft_turn {F : FI W S_ft} (hown : F.own = true) (ts : List PySem.Str) (hl : ts.length ≤ 300) (ht : ∀ t ∈ ts, t.length ≤ 2000) (n : Nat) (hn : n < ts.length) (s3 s4 : Sl) :
    Ex F [.val (.list (ts.map .str)), .val (.list (blankL.map .str)), .val (.int n), s3, s4] ftB (fun o => (okAt ts.length n (tAt ts n) = true ∧ ∃ s2 s3 s4, o = .next [.val (.list (ts.map .str)), .val (.list (blankL.map .str)), s2, s3, s4]) ∨ (okAt ts.length n (tAt ts n) = false ∧ o = .ret (.bool false))) := by
  have hat : itemS ts (n : Int) = tAt ts n := by unfold itemS tAt; rw [if_pos (by omega), Int.toNat_natCast]
  have htl : (tAt ts n).length ≤ 2000 := by
    unfold tAt; rw [List.getElem?_eq_getElem hn]; exact ht _ (List.getElem_mem hn)
  generalize htt : tAt ts n = t at hat htl
  have e2 : (PySem.Str.ofString "..").length = 2 := by decide +kernel
  have hy2 : 1 ≤ (PySem.Str.ofString "\\\"").length := by decide +kernel
  have hrl : (Txt.replace t (PySem.Str.ofString "\\\"") (PySem.Str.ofString "..")).length ≤ 3 * t.length := by
    rw [cl_len, replace_cl hy2, cl_len t]
    unfold splitU
    rw [joinW_len, ← cl_len, e2]
    have := cutU_len (w := cl (PySem.Str.ofString "\\\"")) (cl t) 0
    omega
  have hy1 : 1 ≤ (PySem.Str.ofString "\"").length := by decide +kernel
  have hk1 : (PySem.Str.ofString "\"").cps.all (· < 256) = true := by decide +kernel
  have hpl := split_len (x := Txt.replace t (PySem.Str.ofString "\\\"") (PySem.Str.ofString "..")) hy1 hk1
  change (partsW t).length ≤ _ at hpl
  refine ex_seq (ex_assign 3 (ev_meth (ev_replace (ev_item (ev_name 0 rfl rfl rfl (by decide +kernel)) (ev_name 2 rfl rfl rfl (by decide +kernel)) .list (item_ls ?_ ?_) fun _ _ => ⟨_, rfl⟩) (by decide +kernel) ?_ rfl (fun _ => rfl)) (evs_cons ev_str evs_nil fun _ => rfl) .str PySem.F.plainAttrs_str PySem.F.slot_str_split PySem.F.type_str_split (cal_split (by decide +kernel) ?_) (fun _ => rfl) (fun _ => rfl) rfl (by decide)) rfl (.inl rfl) (by rfl)) ?_
  · omega
  · omega
  · rw [hat, e2]; omega
  · rw [hat]; omega
  refine ex_norm (ρ' := [_, _, _, _, _]) rfl ?_
  rw [hat]
  change Ex F [_, _, _, Sl.val (.list ((partsW t).map .str)), _] _ _
  have hpick : (pick (partsW t) (some 0) none (some 2)).length ≤ 1048576 := by
    unfold pick
    refine Nat.le_trans (List.length_filterMap_le _ _) ?_
    show (sliceRange 0 ((partsW t).length : Int) 2).length ≤ _
    unfold sliceRange
    simp only [List.length_map, List.length_range]
    rw [if_pos (by decide)]
    split <;> omega
  refine ex_cons (ex_if (te_cmp (CompRun.ev (comp1 iv_str (S' := S_ftA) (as := pick (partsW t) (some 0) none (some 2)) semiIn (fun p => .str p) [.no] 0 cs_ftA
    (ev_slice (ev_name 3 rfl rfl rfl (by decide +kernel)) (.some ev_int) .none (.some ev_int) .list (slc_ls (by decide) ?_)) itr_list hpick (taken_no rfl) rfl rfl rfl (fun F' _ p hp => .one ?_) (fun F' _ p _ _ => ?_) (fun _ _ => rfl))) (ev_list evs_nilS (Nat.le_of_ble_eq_true rfl)) ne_ll rfl) (fun h => ex_cons (ex_ret ev_bool ?_)) (fun h => ex_nil ?_))
  · omega
  ·
    exact (te_cmp ev_str (ev_name 0 rfl rfl rfl (by decide +kernel)) in_ss rfl)
  · exact (ev_name 0 rfl rfl rfl (by decide +kernel))
  · have h' : ¬ c1W t = [] := by
      have : (!decide (c1W t = [])) = true := h
      simpa using this
    refine .inr ⟨?_, rfl⟩
    unfold okAt; rw [decide_eq_false h']; rfl
  have k1 : c1W t = [] := by
    have : (!decide (c1W t = [])) = false := h
    simpa using this
  refine ex_cons (ex_if (te_bool (all_and (te_cmp (ev_binop (ev_bcall (evs_cons (ev_name 3 rfl rfl rfl (by decide +kernel)) evs_nil fun _ => rfl) boot_len' (hB _ (by decide +kernel)) keeps_builtin (cal_len_strs ?_) (by decide +kernel) (by decide +kernel) (by decide +kernel) fun _ => rfl) ev_int (mod_ii (by decide))) ev_int eq_ii rfl) fun _ => (all_and (te_cmp (ev_binop (ev_name 2 rfl rfl rfl (by decide +kernel)) ev_int add_ii) (ev_bcall (evs_cons (ev_name 0 rfl rfl rfl (by decide +kernel)) evs_nil fun _ => rfl) boot_len' (hB _ (by decide +kernel)) keeps_builtin (cal_len_strs ?_) (by decide +kernel) (by decide +kernel) (by decide +kernel) fun _ => rfl) lt_ii rfl) fun _ => all_and_nil))) (fun h => ex_cons (ex_ret ev_bool ?_)) (fun h => ex_nil ?_))
  · omega
  · omega
  · refine .inr ⟨?_, rfl⟩
    rw [Bool.and_true] at h
    unfold okAt; rw [h, Bool.not_true, Bool.and_false, Bool.false_and, Bool.false_and]
  have k2 := h
  rw [Bool.and_true] at k2
  obtain ⟨hh0, hh1, hh2⟩ := halves_len t
  refine ex_seq (ex_assign 4 (ev_meth (ev_item (ev_name 0 rfl rfl rfl (by decide +kernel)) (ev_name 2 rfl rfl rfl (by decide +kernel)) .list (item_ls ?_ ?_) fun _ _ => ⟨_, rfl⟩) (evs_cons ev_str (evs_cons ev_int evs_nil fun _ => rfl) fun _ => rfl) .str PySem.F.plainAttrs_str PySem.F.slot_str_split PySem.F.type_str_split (cal_split2 (by decide +kernel) (by decide) ?_) (fun _ => rfl) (fun _ => rfl) rfl (by decide)) rfl (.inl rfl) (by rfl)) ?_
  · omega
  · omega
  · rw [hat]; omega
  refine ex_norm (ρ' := [_, _, _, _, _]) rfl ?_
  rw [hat]
  change Ex F [_, _, _, _, Sl.val (.list ((halvesW t).map .str))] _ _
  refine ex_cons (ex_if (te_cmp (CompRun.ev (comp1 iv_str (S' := S_ftB) (as := halvesW t) halfC (fun p => .str p) ([D.list (blankL.map .str)].map Sl.val ++ List.replicate 1 Sl.no) 1 cs_ftB
    (ev_name 4 rfl rfl rfl (by decide +kernel)) itr_list ?_ (taken_cells _ ?_) rfl rfl rfl (fun F' _ p hp => .one ?_) (fun F' _ p _ _ => ?_) (fun _ _ => rfl))) (ev_list evs_nilS (Nat.le_of_ble_eq_true rfl)) ne_ll rfl) (fun h => ex_cons (ex_ret ev_bool ?_)) (fun h => ex_nil ?_))
  · omega
  · intro j d hd
    match j, hd with
    | 0, hd => cases hd; exact ⟨rfl, 1, _, rfl, rfl, rfl, rfl⟩
    | j + 1, hd => simp at hd
  ·
    have hpl := hh2 p hp
    have s1 := strSl_len p none (some 1)
    have s2 := strSl_len p (some (-1)) none
    have e : halfC p = ((blankL.any (· == strSl p none (some 1) none)) || ((blankL.any (· == strSl p (some (-1)) none none)) || false)) := by unfold halfC; rw [Bool.or_false]
    rw [e]
    refine (te_bool (all_or (te_cmp (ev_slice (ev_name 1 rfl rfl rfl (by decide +kernel)) .none (.some ev_int) .none .str (slc_str rfl ?_ ?_)) (ev_cell 0 rfl rfl rfl (by decide +kernel)) in_sl rfl) fun _ => (all_or (te_cmp (ev_slice (ev_name 1 rfl rfl rfl (by decide +kernel)) (.some (ev_unop ev_int neg_i)) .none .none .str (slc_str rfl ?_ ?_)) (ev_cell 0 rfl rfl rfl (by decide +kernel)) in_sl rfl) fun _ => all_or_nil)))
    · omega
    · omega
    · omega
    · omega
  · exact (ev_name 1 rfl rfl rfl (by decide +kernel))
  · have h' : ¬ c3W t = [] := by
      have : (!decide (c3W t = [])) = true := h
      simpa using this
    refine .inr ⟨?_, rfl⟩
    unfold okAt; rw [decide_eq_false h', Bool.and_false, Bool.false_and]
  have k3 : c3W t = [] := by
    have : (!decide (c3W t = [])) = false := h
    simpa using this
  have hh3 := itemS_len hh2 0
  refine ex_cons (ex_if (te_bool (all_and (te_cmp (ev_bcall (evs_cons (ev_name 4 rfl rfl rfl (by decide +kernel)) evs_nil fun _ => rfl) boot_len' (hB _ (by decide +kernel)) keeps_builtin (cal_len_strs ?_) (by decide +kernel) (by decide +kernel) (by decide +kernel) fun _ => rfl) ev_int eq_ii rfl) fun _ => (all_and (te_cmp (CompRun.ev (comp1 iv_ch (S' := S_ftC) (as := cl (itemS (halvesW t) 0)) greatC (fun c => .str ⟨#[c]⟩) [.no] 0 cs_ftC
    (ev_item (ev_name 4 rfl rfl rfl (by decide +kernel)) ev_int .list (item_ls ?_ ?_) fun _ _ => ⟨_, rfl⟩) itr_str ?_ (taken_no rfl) rfl rfl rfl (fun F' _ p hp => .one ?_) (fun F' _ p _ _ => ?_) (fun _ _ => rfl))) (ev_list evs_nilS (Nat.le_of_ble_eq_true rfl)) ne_nil rfl) fun _ => all_and_nil))) (fun h => ex_cons (ex_ret ev_bool ?_)) (fun h => ex_nil ?_))
  · omega
  · omega
  · omega
  · rw [← cl_len]; omega
  ·
    exact te_cmp (ev_name 0 rfl rfl rfl (by decide +kernel)) ev_str in_ss rfl
  · exact (ev_name 0 rfl rfl rfl (by decide +kernel))
  · refine .inr ⟨?_, rfl⟩
    rw [Bool.and_true] at h
    unfold okAt
    have h' : ((((halvesW t).length : Int) == 2) && !((c4W t).map fun c => D.str ⟨#[c]⟩).isEmpty) = true := h
    rw [h', Bool.not_true, Bool.and_false]
  refine ex_nil (.inl ⟨?_, _, _, _, rfl⟩)
  rw [Bool.and_true] at h
  have h' : ((((halvesW t).length : Int) == 2) && !((c4W t).map fun c => D.str ⟨#[c]⟩).isEmpty) = false := h
  unfold okAt
  rw [h', k2, decide_eq_true k1, decide_eq_true k3]
  rfl
theorem ft_body {F : FI W S_ft} (hown : F.own = true) (ts : List PySem.Str) (hl : ts.length ≤ 300) (ht : ∀ t ∈ ts, t.length ≤ 2000) :
    Ex F ([D.list (ts.map .str), .list (blankL.map .str)].map Sl.val ++ List.replicate 3 Sl.no) (fnRec pw 5).body (fun o => o = .ret (.bool (fitW ts))) := by
  refine ex_norm (ρ' := [_, _, _, _, _]) rfl ?_
  refine ex_cons (ex_for hown (ev_bcall (evs_cons (ev_bcall (evs_cons (ev_name 0 rfl rfl rfl (by decide +kernel)) evs_nil fun _ => rfl) boot_len' (hB _ (by decide +kernel)) keeps_builtin (cal_len_strs ?_) (by decide +kernel) (by decide +kernel) (by decide +kernel) fun _ => rfl) evs_nil fun _ => rfl) boot_range' (hB _ (by decide +kernel)) keeps_type cal_range1 (by decide +kernel) (by decide +kernel) (by decide +kernel) fun _ => rfl) (itr_rngI (small_one (by decide) (by decide) (by omega) (by omega)))
    (fun i ρ => (∀ k, k < i → okAt ts.length k (tAt ts k) = true) ∧ ∃ s2 s3 s4, ρ = [.val (.list (ts.map .str)), .val (.list (blankL.map .str)), s2, s3, s4]) ⟨fun k hk => absurd hk (Nat.not_lt_zero _), _, _, _, rfl⟩ ?_ ?_ (fun _ _ => rfl))
  · omega
  · rintro F₂ hl₂ ho₂ i ρ d hd ⟨hok, s2, s3, s4, rfl⟩
    rw [List.getElem?_map] at hd
    cases e : (rngI 0 (ts.length : Int))[i]? with
    | none => rw [e] at hd; cases hd
    | some k =>
      rw [e] at hd
      cases hd
      have hi : i < (rngI 0 (ts.length : Int)).length := (List.getElem?_eq_some_iff.mp e).1
      rw [rngI_len] at hi
      have hk : k = (i : Int) := by
        unfold rngI at e
        rw [List.getElem?_map, List.getElem?_range (by omega)] at e
        simp at e
        omega
      subst hk
      refine ⟨_, asg_name 2 rfl (.inl rfl), ?_⟩
      refine Ex.mono (ft_turn hB ho₂ ts hl ht i (by omega) s3 s4) fun o ho => ?_
      rcases ho with ⟨hk, s2', s3', s4', rfl⟩ | ⟨hk, rfl⟩
      · refine ⟨fun j hj => ?_, s2', s3', s4', rfl⟩
        by_cases q : j = i
        · subst q; exact hk
        · exact hok j (by omega)
      · show Out.ret _ = Out.ret _
        rw [fit_no (by omega) hk]
  · rintro ρ ⟨hok, s2, s3, s4, rfl⟩
    rw [List.length_map, rngI_len] at hok
    refine ex_cons (ex_ret (ev_cmp (ev_name 0 rfl rfl rfl (by decide +kernel)) (ev_list evs_nilS (Nat.le_of_ble_eq_true rfl)) ne_ll rfl) ?_)
    rw [fit_yes fun n hn => hok n (by omega)]
end
def smallD : List (PySem.Str × PySem.Str) := [("B", "b"), ("\u00c9", "\u00e9"), ("\u0130", "i\u0307")]
def smW (c : Nat) : PySem.Str := (smallD.lookup ⟨#[c]⟩).getD ⟨#[c]⟩
def nbC (c : Nat) : Bool := !(blankL.any (· == (⟨#[c]⟩ : PySem.Str)))
def signsW (ts : List PySem.Str) : PySem.Str := Txt.join (PySem.Str.ofString "") (((cl (Txt.join (PySem.Str.ofString ";") ts)).filter nbC).map smW)
theorem smW_len (c : Nat) : (smW c).length ≤ 2 := by
  unfold smW smallD
  have key : ∀ (l : List (PySem.Str × PySem.Str)) (k : PySem.Str), (∀ p ∈ l, p.2.length ≤ 2) → k.length ≤ 2 → ((l.lookup k).getD k).length ≤ 2 := by
    intro l k
    induction l with
    | nil => intro _ h; exact h
    | cons p l ih =>
      intro h1 h2
      rw [List.lookup_cons]
      split
      · exact h1 p List.mem_cons_self
      · exact ih (fun q hq => h1 q (List.mem_cons_of_mem _ hq)) h2
  exact key _ _ (by decide +kernel) (Nat.le_succ 1)
def S_sg : Sig := Sig.of [("texts" : PySem.Str), "blanks", "small"] [.local, .cell, .cell] (fnRec pw 6).scope (by decide +kernel)
def S_sgc : Sig := Sig.of [("blanks" : PySem.Str), "small", "c"] [.cell, .cell, .local] (relab (scOf (arg0 (exOf (stAt pw 6 1)))) S_sg.sc) (by decide +kernel)
theorem cs_sg : CompSig S_sg S_sgc (scOf (arg0 (exOf (stAt pw 6 1)))) := compSig_of rfl (by decide +kernel)
section
variable {W : Wd}
theorem sg_body {F : FI W S_sg} (hown : F.own = true) (ts : List PySem.Str) (hl : ts.length ≤ 300) (ht : ∀ t ∈ ts, t.length ≤ 2000) :
    Ex F ([D.list (ts.map .str), .list (blankL.map .str)].map Sl.val ++ List.replicate 1 Sl.no) (fnRec pw 6).body (fun o => o = .ret (.str (signsW ts))) := by
  refine ex_norm (ρ' := [_, _, _]) rfl ?_
  refine ex_seq (ex_assign 2 (ev_cdict smallD (.cons (.cons (.cons .nil))) rfl rfl (by simp) (by decide) (by decide +kernel)) rfl (.inr ⟨rfl, hown⟩) (by rfl)) ?_
  refine ex_norm (ρ' := [_, _, _]) rfl ?_
  have e1 : (PySem.Str.ofString ";").length = 1 := by decide +kernel
  have e0 : (PySem.Str.ofString "").length = 0 := by decide +kernel
  have hj : ∀ y ∈ ts, y.length + (PySem.Str.ofString ";").length ≤ 2001 := fun y hy => by have := ht y hy; omega
  have hz : ts.length * 2001 ≤ 600300 := Nat.mul_le_mul_right 2001 hl
  have hjl := join_le hj
  have hfl := List.length_filter_le nbC (cl (Txt.join (PySem.Str.ofString ";") ts))
  rw [← cl_len] at hfl
  refine ex_cons (ex_ret (ev_meth ev_str (evs_cons (Ev.as (CompRun.ev (comp1 iv_ch (S' := S_sgc) (as := cl (Txt.join (PySem.Str.ofString ";") ts)) nbC (fun c => .str (smW c)) ([D.list (blankL.map .str), .dict smallD].map Sl.val ++ List.replicate 1 Sl.no) 2 cs_sg
    (ev_meth ev_str (evs_cons (ev_name 0 rfl rfl rfl (by decide +kernel)) evs_nil fun _ => rfl) .str PySem.F.plainAttrs_str PySem.F.slot_str_join PySem.F.type_str_join (cal_join ?_) (fun _ => rfl) (fun _ => rfl) rfl (by decide)) itr_str ?_ (taken_cells _ ?_) rfl rfl rfl (fun F' _ c hc => .one ?_) (fun F' _ c hc _ => ?_) (fun _ _ => rfl))) (show _ = D.list ((((cl (Txt.join (PySem.Str.ofString ";") ts)).filter nbC).map smW).map D.str) from ?_)) evs_nil fun _ => rfl)
      .str PySem.F.plainAttrs_str PySem.F.slot_str_join PySem.F.type_str_join (cal_join ?_) (fun _ => rfl) (fun _ => rfl) rfl (by decide)) ?_)
  · exact joinOk_le hj (by omega)
  · rw [← cl_len]; omega
  · intro j d hd
    match j, hd with
    | 0, hd => cases hd; exact ⟨rfl, 1, _, rfl, rfl, rfl, rfl⟩
    | 1, hd => cases hd; exact ⟨rfl, 2, _, rfl, rfl, rfl, rfl⟩
    | j + 2, hd => simp at hd
  ·
    exact (te_cmp (ev_name 2 rfl rfl rfl (by decide +kernel)) (ev_cell 0 rfl rfl rfl (by decide +kernel)) nin_sl rfl)
  · exact (ev_meth (ev_cell 1 rfl rfl rfl (by decide +kernel)) (evs_cons (ev_name 2 rfl rfl rfl (by decide +kernel)) (evs_cons (ev_name 2 rfl rfl rfl (by decide +kernel)) evs_nil fun _ => rfl) fun _ => rfl) .dict PySem.F.plainAttrs_dict PySem.F.slot_dict_get PySem.F.type_dict_get cal_get (fun _ => rfl) (fun _ => rfl) rfl (by decide))
  · rw [List.map_map]; rfl
  · refine joinOk_le (n := 2) (fun y hy => ?_) ?_
    · obtain ⟨c, _, rfl⟩ := List.mem_map.mp hy
      have := smW_len c
      omega
    · rw [List.length_map]; omega
  · rfl
end
end Mine

end

section
namespace Mine
open PySem PySem.Calls PyProof.Rows PySem.W Builtin Builtin.Str

theorem sp_iff (c : Nat) : sp c = true ↔ (9 ≤ c ∧ c ≤ 13) ∨ (28 ≤ c ∧ c ≤ 32) ∨ c = 133 ∨ c = 160 ∨ c = 5760 ∨ (8192 ≤ c ∧ c ≤ 8202) ∨ c = 8232 ∨ c = 8233 ∨ c = 8239 ∨ c = 8287 ∨ c = 12288 := by
  show Unicode.within UnicodeData.space c = true ↔ _
  simp only [UnicodeData.space, UnicodeData.space0, Unicode.within]
  repeat' split
  all_goals simp only [Bool.or_eq_true, decide_eq_true_eq, Bool.false_eq_true, Bool.or_false]
  all_goals first | omega | exact iff_of_false id (by omega)
def blC : List Nat := List.range' 9 5 ++ List.range' 28 5 ++ [133, 160, 5760, 8232, 8233, 8239, 8287, 12288] ++ List.range' 8192 11
theorem blC_mem (c : Nat) : c ∈ blC ↔ sp c = true := by
  rw [sp_iff]
  unfold blC
  simp only [List.mem_append, List.mem_range'_1, List.mem_cons, List.not_mem_nil, or_false]
  omega
theorem blankL_cl : blankL.map cl = blC.map fun c => [c] := by decide +kernel
theorem str_beq (a b : PySem.Str) : (a == b) = (cl a == cl b) := by
  by_cases e : a = b
  · subst e; rw [beq_self_eq_true, beq_self_eq_true]
  · have : cl a ≠ cl b := fun q => e (str_ext q)
    rw [beq_eq_false_iff_ne.mpr e, beq_eq_false_iff_ne.mpr this]
/-- a text among the blanks -/
theorem any_blank (x : PySem.Str) : (blankL.any (· == x)) = true ↔ ∃ c, cl x = [c] ∧ sp c = true := by
  rw [List.any_eq_true]
  constructor
  · rintro ⟨y, hy, e⟩
    have e : y = x := by simpa using e
    subst e
    have : cl y ∈ blankL.map cl := List.mem_map.mpr ⟨y, hy, rfl⟩
    rw [blankL_cl] at this
    obtain ⟨c, hc, e⟩ := List.mem_map.mp this
    exact ⟨c, e.symm, (blC_mem c).mp hc⟩
  · rintro ⟨c, e, hc⟩
    have : [c] ∈ blankL.map cl := by rw [blankL_cl]; exact List.mem_map.mpr ⟨c, (blC_mem c).mpr hc, rfl⟩
    obtain ⟨y, hy, e'⟩ := List.mem_map.mp this
    exact ⟨y, hy, by rw [str_ext (e'.trans e.symm)]; simp⟩
theorem nbC_eq (c : Nat) : nbC c = !sp c := by
  unfold nbC
  congr 1
  have h := any_blank ⟨#[c]⟩
  cases hs : sp c with
  | true => exact h.mpr ⟨c, rfl, hs⟩
  | false =>
    rw [← Bool.not_eq_true]
    intro q
    obtain ⟨d, e, hd⟩ := h.mp q
    have : c = d := (List.cons.inj (show [c] = [d] from e)).1
    rw [this, hd] at hs; cases hs
theorem cl_first (h : PySem.Str) : cl (strSl h none (some 1) none) = (cl h).take 1 := by
  rw [cl_strSl1]
  have e2 : clipN none 0 h.length = 0 := rfl
  rw [e2, List.drop_zero, Nat.sub_zero]
  have e1 : clipN (some 1) h.length h.length = min 1 h.length := by unfold clipN; dsimp only; rw [if_neg (by decide)]; omega
  rw [e1, cl_len]
  by_cases q : 1 ≤ (cl h).length
  · rw [Nat.min_eq_left q]
  · have : cl h = [] := List.eq_nil_of_length_eq_zero (by omega)
    rw [this]; rfl
theorem cl_last (y : PySem.Str) : cl (strSl y (some (-1)) none none) = (cl y).drop ((cl y).length - 1) := by
  rw [cl_strSl1, ← cl_len]
  have e1 : clipN (some (-1)) 0 y.length = y.length - 1 := by unfold clipN; dsimp only; rw [if_pos (by decide)]; omega
  have e2 : clipN none y.length y.length = y.length := rfl
  rw [e1, e2, List.take_of_length_le]
  rw [List.length_drop, ← cl_len]; exact Nat.le_refl _
/-- no blank at either end of a half -/
theorem half_tight (h : PySem.Str) : halfC h = !tight (cl h) := by
  have h1 := any_blank (strSl h none (some 1) none)
  have h2 := any_blank (strSl h (some (-1)) none none)
  rw [cl_first] at h1
  rw [cl_last] at h2
  unfold halfC
  have e1 : blankL.any (· == strSl h none (some 1) none) = !((cl h).head?.all (!sp ·)) := by
    cases e : cl h with
    | nil =>
      rw [e] at h1
      show _ = false
      rw [← Bool.not_eq_true, h1]
      rintro ⟨c, q, _⟩; cases q
    | cons c l =>
      rw [e] at h1
      show _ = !(!sp c)
      rw [Bool.not_not]
      cases hs : sp c with
      | true => exact h1.mpr ⟨c, rfl, hs⟩
      | false =>
        rw [← Bool.not_eq_true, h1]
        rintro ⟨d, q, hd⟩
        have : c = d := (List.cons.inj (show [c] = [d] from q)).1
        rw [this, hd] at hs; cases hs
  have e2 : blankL.any (· == strSl h (some (-1)) none none) = !((cl h).getLast?.all (!sp ·)) := by
    by_cases e : cl h = []
    · rw [e] at h2 ⊢
      show _ = false
      rw [← Bool.not_eq_true, h2]
      rintro ⟨c, q, _⟩; cases q
    · obtain ⟨l, c, hl⟩ : ∃ l c, cl h = l ++ [c] := ⟨_, _, (List.dropLast_concat_getLast e).symm⟩
      rw [hl] at h2 ⊢
      have hd : (l ++ [c]).drop ((l ++ [c]).length - 1) = [c] := by rw [List.drop_left' (by simp)]
      rw [hd] at h2
      rw [List.getLast?_append, List.getLast?_singleton, Option.some_or, Option.all_some, Bool.not_not]
      cases hs : sp c with
      | true => exact h2.mpr ⟨c, rfl, hs⟩
      | false =>
        rw [← Bool.not_eq_true, h2]
        rintro ⟨d, q, hd⟩
        have : c = d := (List.cons.inj (show [c] = [d] from q)).1
        rw [this, hd] at hs; cases hs
  rw [e1, e2]
  unfold tight
  rw [Bool.not_and]
theorem scan_mem {c : Nat} {B : List Nat} : (scanS [c] B 0 0).isEmpty = true ↔ c ∉ B := by
  constructor
  · intro h q
    obtain ⟨a, b, hab, ha⟩ := mem_split q
    rw [hab, scan_first ha] at h
    cases h
  · intro h; rw [scan_not h]; rfl
theorem occ1 (x : PySem.Str) (c : Nat) : (Builtin.Str.occurrences x ⟨#[c]⟩ 0 x.length 1).isEmpty = true ↔ c ∉ cl x := by
  rw [occ_all x ⟨#[c]⟩ 1 (by show 1 ≤ (#[c] : Array Nat).size; exact Nat.le_refl _), ← scan_mem]
  show ((scanS [c] (cl x) 0 0).take 1).isEmpty = true ↔ _
  cases scanS [c] (cl x) 0 0 <;> simp
theorem semi_eq (p : PySem.Str) : semiIn p = true ↔ 59 ∈ cl p := by
  unfold semiIn
  rw [show PySem.Str.ofString ";" = ⟨#[59]⟩ by decide +kernel]
  have := occ1 p 59
  cases h : (Builtin.Str.occurrences p ⟨#[59]⟩ 0 p.length 1).isEmpty with
  | true => rw [h] at this; simpa using this.mp rfl
  | false =>
    rw [h] at this
    have q : ¬ 59 ∉ cl p := fun q => by have := this.mpr q; cases this
    simpa using q
def greats : List Nat := [66, 68, 201, 304]
theorem great_eq (c : Nat) : greatC c = decide (c ∈ greats) := by
  unfold greatC
  have := occ1 (PySem.Str.ofString "BD\u00c9\u0130") c
  rw [show cl (PySem.Str.ofString "BD\u00c9\u0130") = greats by decide +kernel] at this
  cases h : (Builtin.Str.occurrences (PySem.Str.ofString "BD\u00c9\u0130") ⟨#[c]⟩ 0 (PySem.Str.ofString "BD\u00c9\u0130").length 1).isEmpty with
  | true => rw [h] at this; rw [decide_eq_false (this.mp rfl)]; rfl
  | false =>
    rw [h] at this
    rw [decide_eq_true (Classical.byContradiction fun q => by have := this.mpr q; cases this)]; rfl

/-- every other item -/
def alt {α : Type} : Bool → List α → List α
  | _, [] => []
  | true, x :: ys => x :: alt false ys
  | false, _ :: ys => alt true ys
theorem pick_two {α : Type} (ys : List α) : pick ys (some 0) none (some 2) = alt true ys := by
  have e : pick ys (some 0) none (some 2) = (List.range ((ys.length + 1) / 2)).filterMap fun k => ys[2 * k]? := by
    unfold pick
    have b : sliceBounds (some 0) none (some 2) ys.length = (0, (ys.length : Int), 2) := by
      unfold sliceBounds
      simp only [Option.getD_some]
      refine Prod.ext ?_ rfl
      show (max 0 (min (if (0 : Int) < 0 then (0 : Int) + ys.length else 0) (if (2 : Int) > 0 then (ys.length : Int) else ys.length - 1)) : Int) = 0
      rw [if_neg (by decide), if_pos (by decide)]
      omega
    rw [b]
    unfold sliceRange
    simp only
    rw [if_pos (by decide), List.filterMap_map]
    have h : (if (0 : Int) < (ys.length : Int) then ((ys.length : Int) - 0 + 2 - 1) / 2 else 0).toNat = (ys.length + 1) / 2 := by split <;> omega
    rw [h]
    congr 1
    funext k
    show ys[((0 : Int) + 2 * (k : Int)).toNat]? = _
    congr 1
    omega
  rw [e]
  have key : ∀ (n : Nat) (ys : List α), ys.length ≤ n → (List.range ((ys.length + 1) / 2)).filterMap (fun k => ys[2 * k]?) = alt true ys := by
    intro n
    induction n using Nat.strongRecOn with
    | _ n ih =>
      intro ys hn
      match ys, hn with
      | [], _ => simp [alt]
      | [x], _ =>
        have e1 : ([x].length + 1) / 2 = 1 := by simp
        rw [e1, show List.range 1 = [0] from rfl]
        simp [alt]
      | x :: y :: r, hn =>
        have hr := ih (r.length) (by simp at hn; omega) r (Nat.le_refl _)
        rw [show (x :: y :: r).length = r.length + 2 from rfl, show (r.length + 2 + 1) / 2 = (r.length + 1) / 2 + 1 by omega, List.range_succ_eq_map, List.filterMap_cons, List.filterMap_map]
        show x :: _ = x :: alt true r
        rw [← hr]
        rfl
  exact key ys.length ys (Nat.le_refl _)
/-- the text with its backslashed quotation marks laid aside -/
def rp : List Nat → List Nat
  | [] => []
  | [c] => [c]
  | c :: d :: l => if c = 92 ∧ d = 34 then 46 :: 46 :: rp l else c :: rp (d :: l)
theorem rep_rp : ∀ (n : Nat) (l : List Nat), l.length ≤ n → joinW [46, 46] (splitU [92, 34] l) = rp l := by
  intro n
  induction n using Nat.strongRecOn with
  | _ n ih =>
    intro l hn
    match l, hn with
    | [], _ => rfl
    | [c], _ =>
      unfold splitU
      rw [cutU, if_neg (by simp)]
      rfl
    | c :: d :: l, hn =>
      unfold splitU
      rw [cutU, rp]
      by_cases h : c = 92 ∧ d = 34
      · obtain ⟨rfl, rfl⟩ := h
        rw [if_pos (by simp), if_pos ⟨rfl, rfl⟩]
        have := ih l.length (by simp at hn; omega) l (Nat.le_refl _)
        unfold splitU at this
        rw [joinW_cons _ _ _ (by simp)]
        show [] ++ [46, 46] ++ joinW [46, 46] ((cutU [92, 34] (34 :: l) 1).1 :: (cutU [92, 34] (34 :: l) 1).2) = _
        rw [cutU, this]
        rfl
      · rw [if_neg (by simp; intro a b; exact h ⟨a.symm, b.symm⟩), if_neg h]
        have := ih (d :: l).length (by simp at hn ⊢; omega) (d :: l) (Nat.le_refl _)
        unfold splitU at this
        simp only
        rw [joinW_head, this]
def runQ (q : Bool) : List Nat → Option Bool
  | [] => some q
  | c :: l => if c = 59 ∧ q = false then none else runQ (if c = 34 then !q else q) l
theorem run_bs {q : Bool} {c : Nat} {l : List Nat} (h : c ≠ 34) : run q true (c :: l) = run q false (c :: l) := by
  rw [run, run, if_neg (fun e => h e.1 : ¬ (c = 34 ∧ true = false)), if_neg (fun e => h e.1 : ¬ (c = 34 ∧ false = false))]
theorem runQ_rp : ∀ (n : Nat) (l : List Nat) (q : Bool), l.length ≤ n → runQ q (rp l) = (run q false l).map (·.1) := by
  intro n
  induction n using Nat.strongRecOn with
  | _ n ih =>
    intro l q hn
    match l, hn with
    | [], _ => rfl
    | [c], _ =>
      rw [rp, runQ, run]
      by_cases h1 : c = 59 ∧ q = false
      · rw [if_pos h1, if_pos h1]; rfl
      · rw [if_neg h1, if_neg h1]
        by_cases h2 : c = 34 <;> simp [h2, runQ, run]
    | c :: d :: l, hn =>
      rw [rp]
      by_cases h : c = 92 ∧ d = 34
      · obtain ⟨rfl, rfl⟩ := h
        rw [if_pos ⟨rfl, rfl⟩]
        have := ih l.length (by simp at hn; omega) l q (Nat.le_refl _)
        rw [run, if_neg (by simp), if_neg (by simp), show ((92 : Nat) == 92) = true from rfl, run, if_neg (by simp), if_neg (by simp), show ((34 : Nat) == 92) = false from rfl, ← this]
        rw [runQ, if_neg (by simp), if_neg (by simp), runQ, if_neg (by simp), if_neg (by simp)]
      · rw [if_neg h, runQ, run]
        by_cases h1 : c = 59 ∧ q = false
        · rw [if_pos h1, if_pos h1]; rfl
        · rw [if_neg h1, if_neg h1]
          have i := fun q => ih (d :: l).length (by simp at hn ⊢; omega) (d :: l) q (Nat.le_refl _)
          rw [i]
          have e : (if c = 34 ∧ false = false then !q else q) = (if c = 34 then !q else q) := by by_cases h2 : c = 34 <;> simp [h2]
          rw [e]
          by_cases h3 : c = 92
          · have hd : d ≠ 34 := fun e => h ⟨h3, e⟩
            rw [h3, show ((92 : Nat) == 92) = true from rfl, run_bs hd]
          · rw [show (c == 92) = false from beq_eq_false_iff_ne.mpr h3]
theorem count_rp : ∀ (n : Nat) (l : List Nat), l.length ≤ n → (rp l).count 34 = nq false l := by
  intro n
  induction n using Nat.strongRecOn with
  | _ n ih =>
    intro l hn
    match l, hn with
    | [], _ => rfl
    | [c], _ => rw [rp, nq_one]; by_cases h : c = 34 <;> simp [h]
    | c :: d :: l, hn =>
      rw [rp]
      by_cases h : c = 92 ∧ d = 34
      · obtain ⟨rfl, rfl⟩ := h
        rw [if_pos ⟨rfl, rfl⟩]
        have := ih l.length (by simp at hn; omega) l (Nat.le_refl _)
        simp [nq, this]
      · rw [if_neg h, nq, List.count_cons]
        have i := ih (d :: l).length (by simp at hn ⊢; omega) (d :: l) (Nat.le_refl _)
        rw [i]
        have e : nq (c == 92) (d :: l) = nq false (d :: l) := by
          by_cases h3 : c = 92
          · have hd : d ≠ 34 := fun e => h ⟨h3, e⟩
            rw [nq, nq, if_neg (fun e => hd e.1), if_neg (fun e => hd e.1)]
          · rw [show (c == 92) = false from beq_eq_false_iff_ne.mpr h3]
        rw [e]
        by_cases h2 : c = 34 <;> simp [h2] <;> omega
theorem splitU_count (c : Nat) : ∀ l : List Nat, (splitU [c] l).length = l.count c + 1
  | [] => rfl
  | d :: l => by
    have ih := splitU_count c l
    unfold splitU at ih ⊢
    rw [cutU, List.count_cons]
    by_cases h : d = c
    · subst h
      rw [if_pos (by simp)]
      simp only [show ([d] : List Nat).length - 1 = 0 from rfl]
      rw [beq_self_eq_true, if_pos rfl, List.length_cons, ih]
    · rw [if_neg (by simp [Ne.symm h])]
      simp only [List.length_cons] at ih ⊢
      simp [h]
      omega
theorem runQ_alt : ∀ (m : List Nat) (q : Bool), runQ q m = none ↔ ∃ p ∈ alt (!q) (splitU [34] m), 59 ∈ p
  | [], q => by cases q <;> simp [runQ, splitU, cutU, alt]
  | c :: m, q => by
    have ih := runQ_alt m
    rw [runQ]
    by_cases h : c = 34
    · subst h
      have e : splitU [34] (34 :: m) = [] :: splitU [34] m := by unfold splitU; rw [cutU, if_pos (by simp)]; rfl
      rw [if_neg (fun z => absurd z.1 (by decide)), if_pos rfl, e, ih]
      cases q with
      | true => simp [alt]
      | false => simp [alt]
    · have e : splitU [34] (c :: m) = (c :: (cutU [34] m 0).1) :: (cutU [34] m 0).2 := by unfold splitU; rw [cutU, if_neg (by simp [Ne.symm h])]
      have e' : splitU [34] m = (cutU [34] m 0).1 :: (cutU [34] m 0).2 := rfl
      rw [e]
      by_cases h1 : c = 59 ∧ q = false
      · rw [if_pos h1]
        obtain ⟨rfl, rfl⟩ := h1
        simp [alt]
      · rw [if_neg h1, if_neg h, ih, e']
        cases q with
        | true => simp [alt]
        | false =>
          have : c ≠ 59 := fun e => h1 ⟨e, rfl⟩
          simp [alt, Ne.symm this]
theorem parts_cl (t : PySem.Str) : (partsW t).map cl = splitU [34] (rp (cl t)) := by
  unfold partsW
  rw [split_cl (by decide +kernel) (by decide +kernel), replace_cl (by decide +kernel), show cl (PySem.Str.ofString "..") = [46, 46] by decide +kernel, show cl (PySem.Str.ofString "\\\"") = [92, 34] by decide +kernel, show cl (PySem.Str.ofString "\"") = [34] by decide +kernel, rep_rp _ _ (Nat.le_refl _)]
theorem alt_map {α β : Type} (f : α → β) : ∀ (b : Bool) (ys : List α), (alt b ys).map f = alt b (ys.map f)
  | _, [] => by simp [alt]
  | true, x :: ys => by simp [alt, alt_map f false ys]
  | false, x :: ys => by simp [alt, alt_map f true ys]
/-- no semicolon outside of quotations -/
theorem c1_run (t : PySem.Str) : c1W t = [] ↔ ∃ s, run false false (cl t) = some s := by
  have h := runQ_alt (rp (cl t)) false
  rw [runQ_rp _ _ _ (Nat.le_refl _), ← parts_cl, Bool.not_false, ← alt_map, ← pick_two] at h
  unfold c1W
  constructor
  · intro e
    cases hr : run false false (cl t) with
    | some s => exact ⟨s, rfl⟩
    | none =>
      rw [hr] at h
      obtain ⟨p, hp, h59⟩ := h.mp rfl
      obtain ⟨y, hy, rfl⟩ := List.mem_map.mp hp
      have := List.filter_eq_nil_iff.mp e y hy
      exact absurd ((semi_eq y).mpr h59) this
  · rintro ⟨s, hs⟩
    rw [hs] at h
    refine List.filter_eq_nil_iff.mpr fun y hy q => ?_
    have := h.mpr ⟨cl y, List.mem_map.mpr ⟨y, hy, rfl⟩, (semi_eq y).mp q⟩
    cases this
theorem parts_len (t : PySem.Str) : (partsW t).length = nq false (cl t) + 1 := by
  have := congrArg List.length (parts_cl t)
  rw [List.length_map, splitU_count, count_rp _ _ (Nat.le_refl _)] at this
  exact this
/-- the halves around the first = -/
theorem halves_no {t : PySem.Str} (h : 61 ∉ cl t) : (halvesW t).map cl = [cl t] := by
  unfold halvesW
  rw [splitMax_cl (by decide +kernel) (by decide +kernel), show cl (PySem.Str.ofString "=") = [61] by decide +kernel]
  have key : ∀ (l : List Nat) (lim : Nat), 61 ∉ l → cut [61] lim l 0 = (l, []) := by
    intro l
    induction l with
    | nil => intro lim _; cases lim <;> simp [cut]
    | cons c l ih =>
      intro lim hc
      cases lim with
      | zero => rw [cut]
      | succ lim =>
        have hne : c ≠ 61 := fun e => hc (e ▸ List.mem_cons_self)
        rw [cut, if_neg (by simp [Ne.symm hne]), ih _ fun q => hc (List.mem_cons_of_mem _ q)]
  unfold splitN
  rw [key _ _ h]
theorem halves_yes {t : PySem.Str} {h r : List Nat} (hx : cl t = h ++ 61 :: r) (h61 : 61 ∉ h) : (halvesW t).map cl = [h, r] := by
  unfold halvesW
  rw [splitMax_cl (by decide +kernel) (by decide +kernel), show cl (PySem.Str.ofString "=") = [61] by decide +kernel, hx]
  have key : ∀ (h : List Nat), 61 ∉ h → cut [61] 1 (h ++ 61 :: r) 0 = (h, [r]) := by
    intro h
    induction h with
    | nil => intro _; rw [List.nil_append, cut, if_pos (by simp)]; simp [cut_zero]
    | cons c h ih =>
      intro hc
      have hne : c ≠ 61 := fun e => hc (e ▸ List.mem_cons_self)
      rw [List.cons_append, cut, if_neg (by simp [Ne.symm hne]), ih fun q => hc (List.mem_cons_of_mem _ q)]
  unfold splitN
  have e : limitOf t 1 = 1 := by unfold limitOf; rfl
  rw [e, key h h61]
end Mine

end

section
namespace Mine
open PySem PySem.Calls PyProof.Rows PySem.W Builtin Builtin.Str

/-- the signs of the law's texts -/
def alph0 : List Nat := [0, 59, 34, 92, 61, 97, 66, 99, 201, 233, 304, 46, 894, 98, 105, 775, 100] ++ blC
def alph : List Nat := 68 :: alph0
theorem alph_low : ∀ c ∈ alph, (Unicode.lowerOf c).all (fun d => decide (d ∈ alph)) = true := by decide +kernel
theorem alph_same : ∀ c ∈ alph, Unicode.lowerOf c = [c] ∨ c ∈ greats := by decide +kernel
theorem alph_nogreat : ∀ c ∈ alph, (Unicode.lowerOf c).all (fun d => !decide (d ∈ greats)) = true := by decide +kernel
theorem alph_run : ∀ c ∈ alph, Unicode.lowerOf c = [c] ∨ ((c ≠ 59 ∧ c ≠ 34 ∧ c ≠ 92) ∧ (Unicode.lowerOf c).isEmpty = false ∧ (Unicode.lowerOf c).all (fun d => decide (d ≠ 59) && decide (d ≠ 34) && decide (d ≠ 92)) = true) := by decide +kernel
theorem alph_61 : ∀ c ∈ alph, c ≠ 61 → 61 ∉ Unicode.lowerOf c := by decide +kernel
def endsOk (l : List Nat) : Bool := !l.isEmpty && l.head?.all (!sp ·) && l.getLast?.all (!sp ·)
theorem alph_ends : ∀ c ∈ alph, sp c = true ∨ endsOk (Unicode.lowerOf c) = true := by decide +kernel
theorem alph_sp : ∀ c ∈ alph, sp c = true → Unicode.lowerOf c = [c] := by decide +kernel
theorem alph_931 : 931 ∉ alph := by decide +kernel

/-- a text and its blanks at both ends -/
theorem trim_split (l : List Nat) : ∃ a N b, l = a ++ N ++ b ∧ (∀ c ∈ a, sp c = true) ∧ (∀ c ∈ b, sp c = true) ∧ tight N = true ∧ rst (lst l) = N := by
  have tw : ∀ l : List Nat, ∀ c ∈ l.takeWhile sp, sp c = true := fun l c hc => by
    have := List.all_takeWhile (p := sp) (l := l)
    exact List.all_eq_true.mp this c hc
  have hd : ∀ l : List Nat, (l.dropWhile sp).head?.all (!sp ·) = true := fun l => by
    induction l with
    | nil => rfl
    | cons c l ih =>
      rw [List.dropWhile_cons]
      split
      · exact ih
      · rename_i h; simp [h]
  refine ⟨l.takeWhile sp, rst (lst l), ((lst l).reverse.takeWhile sp).reverse, ?_, tw l, fun c hc => tw _ c (List.mem_reverse.mp hc), ?_, rfl⟩
  · unfold rst
    rw [List.append_assoc, ← List.reverse_append, List.takeWhile_append_dropWhile, List.reverse_reverse]
    exact (List.takeWhile_append_dropWhile).symm
  · unfold tight
    rw [Bool.and_eq_true]
    constructor
    · have e : lst l = rst (lst l) ++ ((lst l).reverse.takeWhile sp).reverse := by
        unfold rst
        rw [← List.reverse_append, List.takeWhile_append_dropWhile, List.reverse_reverse]
      cases h : rst (lst l) with
      | nil => rfl
      | cons c N =>
        have h2 := hd l
        have h3 : l.dropWhile sp = lst l := rfl
        rw [h3, e, h] at h2
        exact h2
    · unfold rst
      rw [List.getLast?_reverse]
      exact hd _
theorem okc_head {c : Nat} {l : List Nat} (h : endsOk (Unicode.lowerOf c) = true) : (low (c :: l)).head?.all (!sp ·) = true := by
  show (Unicode.lowerOf c ++ low l).head?.all _ = true
  unfold endsOk at h
  cases e : Unicode.lowerOf c with
  | nil => rw [e] at h; cases h
  | cons d r => rw [e] at h; simp at h ⊢; exact h.1
theorem okc_last {c : Nat} {l : List Nat} (h : endsOk (Unicode.lowerOf c) = true) : (low (l ++ [c])).getLast?.all (!sp ·) = true := by
  rw [low_app]
  have e1 : low [c] = Unicode.lowerOf c := by show Unicode.lowerOf c ++ [] = _; simp
  rw [e1]
  unfold endsOk at h
  simp only [Bool.and_eq_true] at h
  rw [List.getLast?_append]
  cases e : (Unicode.lowerOf c).getLast? with
  | none => rw [List.getLast?_eq_none_iff] at e; rw [e] at h; simp at h
  | some d => rw [e] at h; simpa using h.2
theorem ends_of {c : Nat} (h : c ∈ alph) (hs : sp c = false) : endsOk (Unicode.lowerOf c) = true := by
  rcases alph_ends c h with q | q
  · rw [hs] at q; cases q
  · exact q
theorem low_tight {N : List Nat} (h : tight N = true) (hk : ∀ c ∈ N, c ∈ alph) : tight (low N) = true := by
  by_cases e : N = []
  · subst e; rfl
  · unfold tight at h ⊢
    rw [Bool.and_eq_true] at h ⊢
    constructor
    · cases N with
      | nil => exact absurd rfl e
      | cons c N => exact okc_head (ends_of (hk c List.mem_cons_self) (by simpa using h.1))
    · obtain ⟨l, c, rfl⟩ : ∃ l c, N = l ++ [c] := ⟨N.dropLast, N.getLast e, (List.dropLast_concat_getLast e).symm⟩
      exact okc_last (ends_of (hk c (by simp)) (by simpa using h.2))
theorem low_mem {N : List Nat} {d : Nat} (h : d ∈ low N) : ∃ c ∈ N, d ∈ Unicode.lowerOf c := List.mem_flatMap.mp h
theorem low_61 {N : List Nat} (hk : ∀ c ∈ N, c ∈ alph) (h : 61 ∉ N) : 61 ∉ low N := fun q => by
  obtain ⟨c, hc, hd⟩ := low_mem q
  exact alph_61 c (hk c hc) (fun e => h (e ▸ hc)) hd
theorem low_nogreat {N : List Nat} (hk : ∀ c ∈ N, c ∈ alph) : ∀ d ∈ low N, d ∉ greats := fun d q => by
  obtain ⟨c, hc, hd⟩ := low_mem q
  have := List.all_eq_true.mp (alph_nogreat c (hk c hc)) d hd
  simpa using this
theorem low_alph {N : List Nat} (hk : ∀ c ∈ N, c ∈ alph) : ∀ d ∈ low N, d ∈ alph := fun d q => by
  obtain ⟨c, hc, hd⟩ := low_mem q
  have := List.all_eq_true.mp (alph_low c (hk c hc)) d hd
  simpa using this
theorem low_same {N : List Nat} (hk : ∀ c ∈ N, c ∈ alph) (hg : ∀ c ∈ N, c ∉ greats) : low N = N := low_id fun c hc => (alph_same c (hk c hc)).resolve_right (hg c hc)
theorem low_blank {l : List Nat} (hk : ∀ c ∈ l, c ∈ alph) (hs : ∀ c ∈ l, sp c = true) : low l = l := low_id fun c hc => alph_sp c (hk c hc) (hs c hc)

/-- how a piece is made up, and what it comes out as -/
inductive Made (p : List Nat) : List Nat → Prop
  | no {a N b : List Nat} : p = a ++ N ++ b → (∀ c ∈ a, sp c = true) → (∀ c ∈ b, sp c = true) → tight N = true → 61 ∉ p → Made p N
  | eq {a N b c T d : List Nat} : p = a ++ N ++ b ++ 61 :: (c ++ T ++ d) → (∀ c ∈ a, sp c = true) → (∀ c ∈ b, sp c = true) → (∀ x ∈ c, sp x = true) → (∀ c ∈ d, sp c = true) → tight N = true → tight T = true → 61 ∉ a ++ N ++ b → Made p (low N ++ 61 :: T)
theorem made {p : List Nat} (hk : ∀ c ∈ p, c ∈ alph) : Made p (cleanL p) := by
  by_cases h61 : 61 ∈ p
  · obtain ⟨h, t, hx, hh⟩ := mem_split h61
    obtain ⟨a, N, b, h1, h2, h3, h4, _⟩ := trim_split h
    obtain ⟨c, T, d, t1, t2, t3, t4, _⟩ := trim_split t
    have hkh : ∀ c ∈ h, c ∈ alph := fun c hc => hk c (by rw [hx]; simp [hc])
    have e : cleanL p = low N ++ 61 :: T := by
      rw [hx, h1, t1]
      exact clean_eq h2 (by rw [low_blank (fun c hc => hkh c (by rw [h1]; simp [hc])) h2]; exact h2) h3 t2 t3 h4 (low_tight h4 fun c hc => hkh c (by rw [h1]; simp [hc])) t4 (fun q => hh (by rw [h1]; simp [q]))
    rw [e]
    exact .eq (a := a) (b := b) (c := c) (d := d) (by rw [hx, h1, t1]) h2 h3 t2 t3 h4 t4 (by rw [← h1]; exact hh)
  · obtain ⟨a, N, b, h1, h2, h3, h4, h5⟩ := trim_split p
    have e : cleanL p = N := by unfold cleanL; rw [if_neg h61, h5]
    rw [e]
    exact .no h1 h2 h3 h4 h61
/-- a text that is left as it is -/
def Tidy (l : List Nat) : Prop := (61 ∉ l ∧ tight l = true) ∨ ∃ h r, l = h ++ 61 :: r ∧ 61 ∉ h ∧ tight h = true ∧ tight r = true ∧ ∀ c ∈ h, c ∉ greats
theorem tidy_clean {p : List Nat} (hk : ∀ c ∈ p, c ∈ alph) : Tidy (cleanL p) := by
  have m := made hk
  revert m
  generalize cleanL p = q
  intro m
  cases m with
  | no h1 h2 h3 h4 h5 => exact .inl ⟨fun z => h5 (by rw [h1]; simp [z]), h4⟩
  | @eq a N b c T d h1 h2 h3 h4 h5 h6 h7 h8 =>
    have hN : ∀ c ∈ N, c ∈ alph := fun c hc => hk c (by rw [h1]; simp [hc])
    exact .inr ⟨low N, T, rfl, low_61 hN fun z => h8 (by simp [z]), low_tight h6 hN, h7, low_nogreat hN⟩
theorem clean_tidy {p : List Nat} (hk : ∀ c ∈ p, c ∈ alph) (h : Tidy p) : cleanL p = p := by
  rcases h with ⟨h1, h2⟩ | ⟨h, r, rfl, h1, h2, h3, h4⟩
  · have := clean_no (a := []) (b := []) (N := p) (by simp) (by simp) h2 h1
    simpa using this
  · have hkh : ∀ c ∈ h, c ∈ alph := fun c hc => hk c (by simp [hc])
    have e := low_same hkh h4
    have := clean_eq (a := []) (N := h) (b := []) (c := []) (t := r) (d := []) (by simp) (by simp [low]) (by simp) (by simp) (by simp) h2 (by rw [e]; exact h2) h3 h1
    rw [e] at this
    simpa using this
theorem first61 {h r h' r' : List Nat} (e : h ++ 61 :: r = h' ++ 61 :: r') (h1 : 61 ∉ h) (h2 : 61 ∉ h') : h = h' ∧ r = r' := by
  have a := takeW (b := r) h1
  have b := takeW (b := r') h2
  rw [e, b] at a
  subst a
  exact ⟨rfl, (List.cons.inj (List.append_cancel_left e)).2⟩

theorem clean_alph {p : List Nat} (hk : ∀ c ∈ p, c ∈ alph) : ∀ c ∈ cleanL p, c ∈ alph := by
  have m := made hk
  revert m
  generalize cleanL p = q
  intro m
  cases m with
  | no h1 h2 h3 h4 h5 => exact fun c hc => hk c (by rw [h1]; simp [hc])
  | @eq a N b c T d h1 h2 h3 h4 h5 h6 h7 h8 =>
    intro x hx
    rcases List.mem_append.mp hx with hx | hx
    · exact low_alph (fun c hc => hk c (by rw [h1]; simp [hc])) x hx
    · rcases List.mem_cons.mp hx with rfl | hx
      · decide +kernel
      · exact hk x (by rw [h1]; simp [hx])
/-- the semicolons of a piece are left -/
theorem count_low {N : List Nat} (hk : ∀ c ∈ N, c ∈ alph) : (low N).count 59 = N.count 59 := by
  have key : ∀ c ∈ alph, (Unicode.lowerOf c).count 59 = [c].count 59 := by decide +kernel
  induction N with
  | nil => rfl
  | cons c N ih =>
    show (Unicode.lowerOf c ++ low N).count 59 = _
    rw [List.count_append, key c (hk c List.mem_cons_self), ih fun d hd => hk d (List.mem_cons_of_mem _ hd), ← List.count_append]
    rfl
theorem count_sp {l : List Nat} (h : ∀ c ∈ l, sp c = true) : l.count 59 = 0 := List.count_eq_zero.mpr fun q => by have := h _ q; rw [sp59] at this; cases this
theorem count_clean {p : List Nat} (hk : ∀ c ∈ p, c ∈ alph) : (cleanL p).count 59 = p.count 59 := by
  have m := made hk
  revert m
  generalize cleanL p = q
  intro m
  cases m with
  | no h1 h2 h3 h4 h5 => rw [h1]; simp only [List.count_append, count_sp h2, count_sp h3]; omega
  | @eq a N b c T d h1 h2 h3 h4 h5 h6 h7 h8 =>
    have hl : (low N).count 59 = N.count 59 := count_low fun c hc => hk c (by rw [h1]; simp [hc])
    rw [h1]
    simp only [List.count_append, List.count_cons, count_sp h2, count_sp h3, count_sp h4, count_sp h5, hl]
    omega
theorem semi_split {q p A B : List Nat} (e : q ++ 59 :: A = p ++ 59 :: B) (h : q.count 59 = p.count 59) : q = p ∧ A = B := by
  rcases List.append_eq_append_iff.mp e with ⟨r, h1, h2⟩ | ⟨r, h1, h2⟩
  · cases r with
    | nil => rw [List.append_nil] at h1; exact ⟨h1.symm, (List.cons.inj h2).2⟩
    | cons x r =>
      exfalso
      have : x = 59 := (List.cons.inj h2).1.symm
      subst this
      rw [h1, List.count_append, List.count_cons_self] at h
      omega
  · cases r with
    | nil => rw [List.append_nil] at h1; exact ⟨h1, (List.cons.inj h2).2.symm⟩
    | cons x r =>
      exfalso
      have : x = 59 := (List.cons.inj h2).1.symm
      subst this
      rw [h1, List.count_append, List.count_cons_self] at h
      omega
theorem joinL_inj : ∀ {qs ps : List (List Nat)}, qs.map (List.count 59) = ps.map (List.count 59) → joinL qs = joinL ps → qs = ps
  | [], [], _, _ => rfl
  | [], _ :: _, h, _ => by cases h
  | _ :: _, [], h, _ => by cases h
  | [q], [p], _, e => by rw [show q = p from e]
  | [q], _ :: _ :: _, h, _ => by have := congrArg List.length h; simp at this
  | _ :: _ :: _, [p], h, _ => by have := congrArg List.length h; simp at this
  | q :: q' :: qs, p :: p' :: ps, h, e => by
    have h' := List.cons.inj h
    obtain ⟨e1, e2⟩ := semi_split (show q ++ 59 :: joinL (q' :: qs) = p ++ 59 :: joinL (p' :: ps) from e) h'.1
    rw [e1, joinL_inj h'.2 e2]
/-- what the pieces of a text are -/
theorem gat_ok : ∀ (w cur : List Nat), (∃ s, run false false cur = some s) → ∃ init last, gat cur w = init ++ [last] ∧ (∀ p ∈ init, (∃ s, run false false p = some s) ∧ ¬ nq false p % 2 = 1) ∧ ∃ s, run false false last = some s
  | [], cur, h => ⟨[], cur, by rw [gat_nil]; rfl, by simp, h⟩
  | c :: w, cur, ⟨(q, b), h⟩ => by
    have hq := (run_gat (cur := []) h).2.2.1
    rw [List.nil_append] at hq
    by_cases h1 : c = 59
    · subst h1
      by_cases ho : nq false cur % 2 = 1
      · rw [gat_on ho]
        refine gat_ok w _ ?_
        rw [run_app h, hq, decide_eq_true ho]
        exact ⟨_, rfl⟩
      · rw [gat_cut ho, pieces_gat]
        obtain ⟨init, last, e, hi, hl⟩ := gat_ok w [] ⟨_, rfl⟩
        refine ⟨cur :: init, last, by rw [e]; rfl, fun p hp => ?_, hl⟩
        rcases List.mem_cons.mp hp with rfl | hp
        · exact ⟨⟨_, h⟩, ho⟩
        · exact hi p hp
    · rw [gat_ne h1]
      refine gat_ok w _ ?_
      rw [run_app h, run, if_neg (fun z => h1 z.1)]
      exact ⟨_, rfl⟩
theorem pieces_ok (w : List Nat) : ∃ init last, pieces w = init ++ [last] ∧ (∀ p ∈ init, (∃ s, run false false p = some s) ∧ ¬ nq false p % 2 = 1) ∧ ∃ s, run false false last = some s := by
  rw [pieces_gat]; exact gat_ok w [] ⟨_, rfl⟩
/-- a list of texts that comes back -/
def Fit (ps : List (List Nat)) : Prop := ∃ init last, ps = init ++ [last] ∧ (∀ p ∈ init, (∃ s, run false false p = some s) ∧ ¬ nq false p % 2 = 1) ∧ (∃ s, run false false last = some s) ∧ ∀ p ∈ ps, Tidy p
theorem mem_joinL {p : List Nat} {c : Nat} (hc : c ∈ p) : ∀ {ps : List (List Nat)}, p ∈ ps → c ∈ joinL ps
  | [], h => by cases h
  | x :: ps, h => by
    rcases List.mem_cons.mp h with rfl | h
    · cases ps with
      | nil => exact hc
      | cons y r => rw [joinL_cons _ (by simp)]; exact List.mem_append_left _ hc
    · rw [joinL_cons _ (List.ne_nil_of_mem h)]
      exact List.mem_append_right _ (List.mem_cons_of_mem _ (mem_joinL hc h))
theorem joinL_mem {c : Nat} : ∀ {ps : List (List Nat)}, c ∈ joinL ps → c = 59 ∨ ∃ p ∈ ps, c ∈ p
  | [], h => by cases h
  | [x], h => .inr ⟨x, by simp, h⟩
  | x :: y :: r, h => by
    rw [joinL_cons _ (by simp)] at h
    rcases List.mem_append.mp h with h | h
    · exact .inr ⟨x, by simp, h⟩
    · rcases List.mem_cons.mp h with h | h
      · exact .inl h
      · rcases joinL_mem h with h | ⟨p, hp, h⟩
        · exact .inl h
        · exact .inr ⟨p, List.mem_cons_of_mem _ hp, h⟩
theorem join_alph {ps : List (List Nat)} (hk : ∀ p ∈ ps, ∀ c ∈ p, c ∈ alph) : ∀ c ∈ joinL ps, c ∈ alph := fun c hc => by
  rcases joinL_mem hc with rfl | ⟨p, hp, h⟩
  · decide +kernel
  · exact hk p hp c h
theorem pieces_alph {X : List Nat} (hk : ∀ c ∈ X, c ∈ alph) : ∀ p ∈ pieces X, ∀ c ∈ p, c ∈ alph := fun p hp c hc => hk c (by
  have := mem_joinL hc hp
  rwa [pieces_joinL] at this)
theorem back_iff {ps : List (List Nat)} (hk : ∀ p ∈ ps, ∀ c ∈ p, c ∈ alph) : (pieces (joinL ps)).map cleanL = ps ↔ Fit ps := by
  constructor
  · intro h
    have hX := join_alph hk
    have hq := pieces_alph hX
    have e : pieces (joinL ps) = ps := by
      refine joinL_inj ?_ (pieces_joinL _)
      have e : ps.map (List.count 59) = ((pieces (joinL ps)).map cleanL).map (List.count 59) := by rw [h]
      rw [e, List.map_map]
      exact List.map_congr_left fun p hp => (count_clean (hq p hp)).symm
    obtain ⟨init, last, e1, e2, e3⟩ := pieces_ok (joinL ps)
    rw [e] at e1
    refine ⟨init, last, e1, e2, e3, fun p hp => ?_⟩
    rw [← h] at hp
    obtain ⟨q, hq', rfl⟩ := List.mem_map.mp hp
    exact tidy_clean (hq q hq')
  · rintro ⟨init, last, rfl, h1, h2, h3⟩
    have e : pieces (joinL (init ++ [last])) = init ++ [last] := by
      refine pieces_join (fun p hp => ?_) h2
      obtain ⟨⟨⟨q, b⟩, hs⟩, hn⟩ := h1 p hp
      have hq := (run_gat (cur := []) hs).2.2.1
      rw [List.nil_append, decide_eq_false hn] at hq
      exact ⟨b, by rw [hs, hq]⟩
    rw [e]
    have : (init ++ [last]).map cleanL = (init ++ [last]).map _root_.id := List.map_congr_left fun p hp => clean_tidy (hk p hp) (h3 p hp)
    rw [this, List.map_id]
end Mine

end

section
namespace Mine
open PySem PySem.Calls PyProof.Rows PySem.W Builtin Builtin.Str

theorem tidy_iff (t : PySem.Str) : Tidy (cl t) ↔ c3W t = [] ∧ ((((halvesW t).length : Int) == 2) && !((c4W t).map fun c => D.str ⟨#[c]⟩).isEmpty) = false := by
  have hc3 : c3W t = [] ↔ ∀ l ∈ (halvesW t).map cl, tight l = true := by
    unfold c3W
    rw [List.filter_eq_nil_iff]
    constructor
    · intro h l hl
      obtain ⟨y, hy, rfl⟩ := List.mem_map.mp hl
      have := h y hy
      rw [half_tight] at this
      simpa using this
    · intro h y hy
      rw [half_tight, h (cl y) (List.mem_map.mpr ⟨y, hy, rfl⟩)]
      simp
  have hlen : (halvesW t).length = ((halvesW t).map cl).length := by simp
  by_cases h61 : 61 ∈ cl t
  · obtain ⟨h, r, hx, hh⟩ := mem_split h61
    have hv := halves_yes hx hh
    rw [hv] at hc3 hlen
    have h0 : cl (itemS (halvesW t) 0) = h := by
      cases e : halvesW t with
      | nil => rw [e] at hv; cases hv
      | cons y ys => rw [e] at hv; exact (List.cons.inj hv).1
    have hc4 : c4W t = [] ↔ ∀ c ∈ h, c ∉ greats := by
      unfold c4W
      rw [h0, List.filter_eq_nil_iff]
      constructor
      · intro q c hc
        have := q c hc
        rw [great_eq] at this
        simpa using this
      · intro q c hc
        rw [great_eq, decide_eq_false (q c hc)]
        simp
    have e2 : (((halvesW t).length : Int) == 2) = true := by rw [hlen]; rfl
    rw [e2, Bool.true_and, hc3]
    have e3 : (!((c4W t).map fun c => D.str ⟨#[c]⟩).isEmpty) = false ↔ c4W t = [] := by cases c4W t <;> simp
    rw [e3, hc4]
    constructor
    · rintro (⟨q, _⟩ | ⟨h', r', e, q1, q2, q3, q4⟩)
      · exact absurd h61 q
      · obtain ⟨rfl, rfl⟩ := first61 (hx.symm.trans e) hh q1
        refine ⟨fun l hl => ?_, q4⟩
        simp at hl
        rcases hl with rfl | rfl
        · exact q2
        · exact q3
    · rintro ⟨q1, q2⟩
      exact .inr ⟨h, r, hx, hh, q1 h (by simp), q1 r (by simp), q2⟩
  · have hv := halves_no h61
    rw [hv] at hc3 hlen
    have e2 : (((halvesW t).length : Int) == 2) = false := by rw [hlen]; rfl
    rw [e2, Bool.false_and, hc3]
    constructor
    · rintro (⟨_, q⟩ | ⟨h', r', e, _⟩)
      · exact ⟨fun l hl => by simp at hl; rw [hl]; exact q, rfl⟩
      · exact absurd (by rw [e]; simp) h61
    · rintro ⟨q, _⟩
      exact .inl ⟨h61, q _ (by simp)⟩
theorem okAt_iff (len n : Nat) (t : PySem.Str) : okAt len n t = true ↔ (∃ s, run false false (cl t) = some s) ∧ ¬ (nq false (cl t) % 2 = 1 ∧ n + 1 < len) ∧ Tidy (cl t) := by
  unfold okAt
  rw [Bool.and_eq_true, Bool.and_eq_true, Bool.and_eq_true, decide_eq_true_eq, decide_eq_true_eq, c1_run, tidy_iff, parts_len, Bool.not_eq_true', Bool.not_eq_true']
  have e : ((((nq false (cl t) + 1 : Nat) : Int) % 2 == 0) && decide ((n : Int) + 1 < (len : Int))) = false ↔ ¬ (nq false (cl t) % 2 = 1 ∧ n + 1 < len) := by
    rw [← Bool.not_eq_true, Bool.and_eq_true, beq_iff_eq, decide_eq_true_eq]
    constructor
    · rintro h ⟨h1, h2⟩; exact h ⟨by omega, by omega⟩
    · rintro h ⟨h1, h2⟩; exact h ⟨by omega, by omega⟩
  rw [e]
  constructor
  · rintro ⟨⟨⟨a, b⟩, c⟩, d⟩; exact ⟨a, b, c, d⟩
  · rintro ⟨a, b, c, d⟩; exact ⟨⟨⟨a, b⟩, c⟩, d⟩
theorem fit_iff (ts : List PySem.Str) : fitW ts = true ↔ Fit (ts.map cl) := by
  unfold fitW
  rw [Bool.and_eq_true, List.all_eq_true, Bool.not_eq_true', decide_eq_false_iff_not]
  constructor
  · rintro ⟨h, hne⟩
    have h' : ∀ n, n < ts.length → (∃ s, run false false (cl (tAt ts n)) = some s) ∧ ¬ (nq false (cl (tAt ts n)) % 2 = 1 ∧ n + 1 < ts.length) ∧ Tidy (cl (tAt ts n)) := fun n hn => (okAt_iff _ _ _).mp (h n (List.mem_range.mpr hn))
    obtain ⟨init, last, rfl⟩ : ∃ init last, ts = init ++ [last] := ⟨ts.dropLast, ts.getLast hne, (List.dropLast_concat_getLast hne).symm⟩
    have at1 : ∀ p ∈ init, ∃ n, n + 1 < (init ++ [last]).length ∧ tAt (init ++ [last]) n = p := fun p hp => by
      obtain ⟨n, hn⟩ := List.getElem?_of_mem hp
      have hlt := (List.getElem?_eq_some_iff.mp hn).1
      refine ⟨n, by simp; omega, ?_⟩
      unfold tAt
      rw [List.getElem?_append_left hlt, hn]; rfl
    have at2 : tAt (init ++ [last]) init.length = last := by
      unfold tAt
      rw [List.getElem?_append_right (Nat.le_refl _), Nat.sub_self]; rfl
    refine ⟨init.map cl, cl last, by simp, fun p hp => ?_, ?_, fun p hp => ?_⟩
    · obtain ⟨y, hy, rfl⟩ := List.mem_map.mp hp
      obtain ⟨n, hn, e⟩ := at1 y hy
      have := h' n (by omega)
      rw [e] at this
      exact ⟨this.1, fun q => this.2.1 ⟨q, hn⟩⟩
    · have := h' init.length (by simp)
      rw [at2] at this
      exact this.1
    · obtain ⟨y, hy, rfl⟩ := List.mem_map.mp hp
      rcases List.mem_append.mp hy with hy | hy
      · obtain ⟨n, hn, e⟩ := at1 y hy
        have := h' n (by omega)
        rw [e] at this
        exact this.2.2
      · rw [List.mem_singleton.mp hy]
        have := h' init.length (by simp)
        rw [at2] at this
        exact this.2.2
  · rintro ⟨init, last, e, h1, h2, h3⟩
    have hne : ts ≠ [] := fun q => by rw [q] at e; have := congrArg List.length e; simp at this
    refine ⟨fun n hn => (okAt_iff _ _ _).mpr ?_, hne⟩
    have hn := List.mem_range.mp hn
    have hlen : ts.length = init.length + 1 := by have := congrArg List.length e; simpa using this
    have hget : (init ++ [last])[n]? = some (cl (tAt ts n)) := by
      rw [← e, List.getElem?_map]
      unfold tAt
      rw [List.getElem?_eq_getElem hn]; rfl
    have hmem : cl (tAt ts n) ∈ ts.map cl := by rw [e]; exact List.mem_of_getElem? hget
    by_cases q : n < init.length
    · rw [List.getElem?_append_left q] at hget
      have := h1 _ (List.mem_of_getElem? hget)
      exact ⟨this.1, fun z => this.2 z.1, h3 _ hmem⟩
    · have : n = init.length := by omega
      subst this
      rw [List.getElem?_append_right (Nat.le_refl _), Nat.sub_self] at hget
      have : last = cl (tAt ts init.length) := Option.some.inj hget
      rw [this] at h2
      exact ⟨h2, fun z => by omega, h3 _ hmem⟩
theorem map_cl : ∀ {xs ys : List PySem.Str}, xs.map cl = ys.map cl → xs = ys
  | [], [], _ => rfl
  | [], _ :: _, h => by cases h
  | _ :: _, [], h => by cases h
  | x :: xs, y :: ys, h => by rw [str_ext (List.cons.inj h).1, map_cl (List.cons.inj h).2]
/-- the law's question for one list -/
theorem law4_one {ts : List PySem.Str} (hk : ∀ t ∈ ts, ∀ c ∈ cl t, c ∈ alph) : decide (ppS (cl (Txt.join (PySem.Str.ofString ";") ts)) = ts) = fitW ts := by
  have hk' : ∀ p ∈ ts.map cl, ∀ c ∈ p, c ∈ alph := fun p hp => by
    obtain ⟨y, hy, rfl⟩ := List.mem_map.mp hp
    exact hk y hy
  have hb := back_iff hk'
  have hf := fit_iff ts
  rw [cl_join]
  have e : ppS (joinL (ts.map cl)) = ts ↔ (pieces (joinL (ts.map cl))).map cleanL = ts.map cl := by
    have hp := pieces_alph (join_alph hk')
    have e1 : (ppS (joinL (ts.map cl))).map cl = (pieces (joinL (ts.map cl))).map cleanL := by
      unfold ppS
      rw [List.map_map]
      exact List.map_congr_left fun p hp' => cl_clean fun q => alph_931 (hp p hp' _ q)
    constructor
    · intro h; rw [← e1, h]
    · intro h
      rw [← e1] at h
      exact map_cl h
  cases hw : fitW ts with
  | true => exact decide_eq_true (e.mpr (hb.mpr (hf.mp hw)))
  | false => exact decide_eq_false fun q => by rw [hf.mpr (hb.mp (e.mp q))] at hw; cases hw

/-- reading small letters as great ones -/
theorem run_low : ∀ {N : List Nat} {q b : Bool}, (∀ c ∈ N, c ∈ alph) → run q b (low N) = run q b N
  | [], q, b, _ => rfl
  | c :: N, q, b, hk => by
    have ih := fun q b => run_low (N := N) (q := q) (b := b) fun d hd => hk d (List.mem_cons_of_mem _ hd)
    show run q b (Unicode.lowerOf c ++ low N) = _
    rcases alph_run c (hk c List.mem_cons_self) with h | ⟨⟨h1, h2, h3⟩, h4, h5⟩
    · rw [h]
      show run q b (c :: low N) = _
      rw [run, run]
      split
      · rfl
      · exact ih _ _
    · have key : ∀ (l : List Nat) (q b : Bool), l.isEmpty = false → (l.all fun d => decide (d ≠ 59) && decide (d ≠ 34) && decide (d ≠ 92)) = true → run q b l = some (q, false) := by
        intro l
        induction l with
        | nil => intro q b h; cases h
        | cons d l ih =>
          intro q b _ h
          rw [List.all_cons, Bool.and_eq_true] at h
          simp only [Bool.and_eq_true, decide_eq_true_eq] at h
          rw [run, if_neg (fun z => h.1.1.1 z.1), if_neg (fun z => h.1.1.2 z.1), show (d == 92) = false from beq_eq_false_iff_ne.mpr h.1.2]
          cases l with
          | nil => rfl
          | cons e l => exact ih q false rfl h.2
      rw [run_app (key _ q b h4 h5), ih, run, if_neg (fun z => h1 z.1), if_neg (fun z => h2 z.1), show (c == 92) = false from beq_eq_false_iff_ne.mpr h3]
theorem run_pre : ∀ {u v : List Nat} {q b : Bool} {s : Bool × Bool}, run q b (u ++ v) = some s → ∃ q' b', run q b u = some (q', b') ∧ run q' b' v = some s
  | [], v, q, b, s, h => ⟨q, b, rfl, h⟩
  | c :: u, v, q, b, s, h => by
    rw [List.cons_append, run] at h
    split at h
    · cases h
    · rename_i hc
      obtain ⟨q', b', h1, h2⟩ := run_pre h
      exact ⟨q', b', by rw [run, if_neg hc]; exact h1, h2⟩
theorem run_spb : ∀ {a : List Nat} {q b : Bool} {s : Bool × Bool}, (∀ c ∈ a, sp c = true) → run q b a = some s → s.1 = q
  | [], q, b, s, _, h => by cases h; rfl
  | c :: a, q, b, s, hs, h => by
    have hc := hs c List.mem_cons_self
    rw [run, if_neg (fun e => sp_ne hc sp59 e.1), if_neg (fun e => sp_ne hc sp34 e.1)] at h
    exact run_spb (fun d hd => hs d (List.mem_cons_of_mem _ hd)) h
theorem run_clean {p : List Nat} (hk : ∀ c ∈ p, c ∈ alph) {q b : Bool} (h : run false false p = some (q, b)) : ∃ b', run false false (cleanL p) = some (q, b') := by
  have m := made hk
  revert m
  generalize cleanL p = w
  intro m
  cases m with
  | @no a N d h1 h2 h3 h4 h5 =>
    rw [h1, List.append_assoc] at h
    obtain ⟨q1, b1, e1, e2⟩ := run_pre h
    rw [run_sp h2] at e1
    cases e1
    obtain ⟨q2, b2, e3, e4⟩ := run_pre e2
    have : q = q2 := run_spb h3 e4
    subst this
    exact ⟨b2, e3⟩
  | @eq a N b' c T d h1 h2 h3 h4 h5 h6 h7 h8 =>
    have hN : ∀ c ∈ N, c ∈ alph := fun c hc => hk c (by rw [h1]; simp [hc])
    rw [h1, List.append_assoc, List.append_assoc, List.append_assoc] at h
    obtain ⟨q1, b1, e1, e2⟩ := run_pre h
    rw [run_sp h2] at e1
    cases e1
    obtain ⟨q2, b2, e3, e4⟩ := run_pre e2
    obtain ⟨q3, b3, e5, e6⟩ := run_pre e4
    have hq : q3 = q2 := run_spb h3 e5
    subst hq
    rw [run, if_neg (fun z => absurd z.1 (by decide)), if_neg (fun z => absurd z.1 (by decide)), show ((61 : Nat) == 92) = false from rfl] at e6
    obtain ⟨q4, b4, e7, e8⟩ := run_pre e6
    rw [run_sp h4] at e7
    cases e7
    obtain ⟨q5, b5, e9, e10⟩ := run_pre e8
    have hq : q = q5 := run_spb h5 e10
    subst hq
    refine ⟨b5, ?_⟩
    rw [run_app ((run_low hN).trans e3), run, if_neg (fun z => absurd z.1 (by decide)), if_neg (fun z => absurd z.1 (by decide)), show ((61 : Nat) == 92) = false from rfl]
    exact e9
theorem told_fit {X : List Nat} (hk : ∀ c ∈ X, c ∈ alph) : Fit ((pieces X).map cleanL) := by
  obtain ⟨init, last, e, h1, h2⟩ := pieces_ok X
  have hp := pieces_alph hk
  refine ⟨init.map cleanL, cleanL last, by rw [e]; simp, fun p hp' => ?_, ?_, fun p hp' => ?_⟩
  · obtain ⟨y, hy, rfl⟩ := List.mem_map.mp hp'
    have hy' : y ∈ pieces X := by rw [e]; simp [hy]
    obtain ⟨⟨⟨q, b⟩, hs⟩, hn⟩ := h1 y hy
    obtain ⟨b', hc⟩ := run_clean (hp y hy') hs
    refine ⟨⟨_, hc⟩, ?_⟩
    have a1 := (run_gat (cur := []) hs).2.2.1
    have a2 := (run_gat (cur := []) hc).2.2.1
    rw [List.nil_append] at a1 a2
    rw [decide_eq_false hn] at a1
    rw [a1] at a2
    simpa using a2.symm
  · obtain ⟨⟨q, b⟩, hs⟩ := h2
    obtain ⟨b', hc⟩ := run_clean (hp last (by rw [e]; simp)) hs
    exact ⟨_, hc⟩
  · obtain ⟨y, hy, rfl⟩ := List.mem_map.mp hp'
    exact tidy_clean (hp y hy)

/-- the signs of a text, without blanks and greatness -/
def sg (l : List Nat) : List Nat := (l.filter fun c => !sp c).flatMap fun c => cl (smW c)
theorem sg_app (a b : List Nat) : sg (a ++ b) = sg a ++ sg b := by unfold sg; rw [List.filter_append, List.flatMap_append]
theorem sg_sp {a : List Nat} (h : ∀ c ∈ a, sp c = true) : sg a = [] := by
  unfold sg
  rw [List.filter_eq_nil_iff.mpr fun c hc => by rw [h c hc]; simp]; rfl
theorem sg_low : ∀ {N : List Nat}, (∀ c ∈ N, c ∈ alph0) → sg (low N) = sg N
  | [], _ => rfl
  | c :: N, hk => by
    have ih := sg_low fun d hd => hk d (List.mem_cons_of_mem _ hd)
    have key : ∀ c ∈ alph0, sg (Unicode.lowerOf c) = sg [c] := by decide +kernel
    show sg (Unicode.lowerOf c ++ low N) = sg ([c] ++ N)
    rw [sg_app, sg_app, ih, key c (hk c List.mem_cons_self)]
theorem alph_of {c : Nat} (h : c ∈ alph0) : c ∈ alph := List.mem_cons_of_mem _ h
theorem sg_clean {p : List Nat} (hk : ∀ c ∈ p, c ∈ alph0) : sg (cleanL p) = sg p := by
  have m := made fun c hc => alph_of (hk c hc)
  revert m
  generalize cleanL p = w
  intro m
  cases m with
  | @no a N d h1 h2 h3 h4 h5 => rw [h1, sg_app, sg_app, sg_sp h2, sg_sp h3]; simp
  | @eq a N b' c T d h1 h2 h3 h4 h5 h6 h7 h8 =>
    have e : p = a ++ N ++ b' ++ ([61] ++ (c ++ T ++ d)) := h1
    have hl : sg (low N) = sg N := sg_low fun c hc => hk c (by rw [h1]; simp [hc])
    have e2 : low N ++ 61 :: T = low N ++ ([61] ++ T) := rfl
    rw [e, e2]
    simp only [sg_app, sg_sp h2, sg_sp h3, sg_sp h4, sg_sp h5, hl, List.nil_append, List.append_nil]
theorem sg_join : ∀ {qs ps : List (List Nat)}, qs.map sg = ps.map sg → sg (joinL qs) = sg (joinL ps)
  | [], [], _ => rfl
  | [], _ :: _, h => by have := congrArg List.length h; simp at this
  | _ :: _, [], h => by have := congrArg List.length h; simp at this
  | [q], [p], h => (List.cons.inj h).1
  | [q], _ :: _ :: _, h => by have := congrArg List.length h; simp at this
  | _ :: _ :: _, [p], h => by have := congrArg List.length h; simp at this
  | q :: q' :: qs, p :: p' :: ps, h => by
    have h' := List.cons.inj h
    have ih := sg_join (qs := q' :: qs) (ps := p' :: ps) h'.2
    show sg (q ++ ([59] ++ joinL (q' :: qs))) = sg (p ++ ([59] ++ joinL (p' :: ps)))
    rw [sg_app, sg_app, sg_app, sg_app, ih, h'.1]
theorem joinW_nil : ∀ ys : List (List Nat), joinW [] ys = ys.flatten
  | [] => rfl
  | [x] => by simp [joinW]
  | x :: y :: r => by
    have := joinW_nil (y :: r)
    rw [joinW, this]; simp
theorem signs_cl (ts : List PySem.Str) : cl (signsW ts) = sg (joinL (ts.map cl)) := by
  unfold signsW sg
  rw [join_cl, cl_join, show cl (PySem.Str.ofString "") = [] by decide +kernel, joinW_nil, List.map_map]
  have e : nbC = fun c => !sp c := by funext c; exact nbC_eq c
  rw [e]
  rfl
/-- what is read from any texts: fit, and of the same signs -/
theorem law4_told {ts : List PySem.Str} (hk : ∀ t ∈ ts, ∀ c ∈ cl t, c ∈ alph0) :
    fitW (ppS (cl (Txt.join (PySem.Str.ofString ";") ts))) = true ∧ signsW (ppS (cl (Txt.join (PySem.Str.ofString ";") ts))) = signsW ts ∧ ∀ t ∈ ppS (cl (Txt.join (PySem.Str.ofString ";") ts)), ∀ c ∈ cl t, c ∈ alph := by
  have hX0 : ∀ c ∈ cl (Txt.join (PySem.Str.ofString ";") ts), c ∈ alph0 := fun c hc => by
    rw [cl_join] at hc
    rcases joinL_mem hc with rfl | ⟨p, hp, h⟩
    · decide +kernel
    · obtain ⟨y, hy, rfl⟩ := List.mem_map.mp hp
      exact hk y hy c h
  have hX := fun c hc => alph_of (hX0 c hc)
  have hp := pieces_alph hX
  have e1 : (ppS (cl (Txt.join (PySem.Str.ofString ";") ts))).map cl = (pieces (cl (Txt.join (PySem.Str.ofString ";") ts))).map cleanL := by
    unfold ppS
    rw [List.map_map]
    exact List.map_congr_left fun p hp' => cl_clean fun q => alph_931 (hp p hp' _ q)
  refine ⟨?_, str_ext ?_, fun t ht c hc => ?_⟩
  · rw [fit_iff, e1]
    exact told_fit hX
  · rw [signs_cl, signs_cl, e1]
    have a : sg (joinL ((pieces (cl (Txt.join (PySem.Str.ofString ";") ts))).map cleanL)) = sg (joinL (pieces (cl (Txt.join (PySem.Str.ofString ";") ts)))) := by
      refine sg_join ?_
      rw [List.map_map]
      refine List.map_congr_left fun p hp' => sg_clean fun c hc => hX0 c ?_
      have := mem_joinL hc hp'
      rwa [pieces_joinL] at this
    rw [a, pieces_joinL, cl_join]
  · have : cl t ∈ (ppS (cl (Txt.join (PySem.Str.ofString ";") ts))).map cl := List.mem_map.mpr ⟨t, ht, rfl⟩
    rw [e1] at this
    obtain ⟨p, hp', e⟩ := List.mem_map.mp this
    rw [← e] at hc
    exact clean_alph (hp p hp') c hc
end Mine

end

section
namespace Mine
open PySem PySem.Calls PyProof.Rows PySem.W Builtin Builtin.Str

theorem chAt_mem (x : PySem.Str) (i : Int) : ∃ c, chAt x i = ⟨#[c]⟩ ∧ (c = 0 ∨ c ∈ cl x) := by
  refine ⟨_, rfl, ?_⟩
  have : ∀ o : Option Nat, (∀ c, o = some c → c ∈ cl x) → o.getD 0 = 0 ∨ o.getD 0 ∈ cl x := fun o ho => by
    cases o with
    | none => exact .inl rfl
    | some c => exact .inr (ho c rfl)
  refine this _ fun c hc => ?_
  split at hc
  · exact Array.mem_toList_iff.mpr (Array.mem_of_getElem? hc)
  · exact Array.mem_toList_iff.mpr (Array.mem_of_getElem? hc)
theorem itemS_mem (ys : List PySem.Str) (i : Int) : itemS ys i = ⟨#[]⟩ ∨ itemS ys i ∈ ys := by
  unfold itemS
  have : ∀ o : Option PySem.Str, (∀ y, o = some y → y ∈ ys) → o.getD ⟨#[]⟩ = ⟨#[]⟩ ∨ o.getD ⟨#[]⟩ ∈ ys := fun o ho => by
    cases o with
    | none => exact .inl rfl
    | some c => exact .inr (ho c rfl)
  split
  · exact this _ fun y e => List.mem_of_getElem? e
  · exact this _ fun y e => List.mem_of_getElem? e
theorem step_ok {p : List PySem.Str × PySem.Str} (x : Int) (h1 : ∀ t ∈ p.1, ∀ c ∈ cl t, c ∈ alph0) (h2 : ∀ c ∈ cl p.2, c ∈ alph0) : (∀ t ∈ (txStep p x).1, ∀ c ∈ cl t, c ∈ alph0) ∧ ∀ c ∈ cl (txStep p x).2, c ∈ alph0 := by
  unfold txStep
  split
  · refine ⟨fun t ht => ?_, fun c hc => ?_⟩
    · rcases List.mem_append.mp ht with ht | ht
      · exact h1 t ht
      · rw [List.mem_singleton.mp ht]; exact h2
    · have : cl (PySem.Str.ofString "") = [] := by decide +kernel
      rw [this] at hc; cases hc
  · split
    · refine ⟨h1, fun c hc => ?_⟩
      rw [cl_app] at hc
      rcases List.mem_append.mp hc with hc | hc
      · exact h2 c hc
      · rcases itemS_mem blankL (x / 16 % 29) with e | e
        · rw [e] at hc; cases hc
        · have : cl (itemS blankL (x / 16 % 29)) ∈ blankL.map cl := List.mem_map.mpr ⟨_, e, rfl⟩
          rw [blankL_cl] at this
          obtain ⟨d, hd, e'⟩ := List.mem_map.mp this
          rw [← e'] at hc
          rw [List.mem_singleton.mp hc]
          exact List.mem_append_right _ hd
    · refine ⟨h1, fun c hc => ?_⟩
      rw [cl_app] at hc
      rcases List.mem_append.mp hc with hc | hc
      · exact h2 c hc
      · obtain ⟨d, e, hd⟩ := chAt_mem signC (x % 16 - 1)
        rw [e] at hc
        have : c = d := List.mem_singleton.mp hc
        subst this
        rcases hd with rfl | hd
        · decide +kernel
        · have : ∀ c ∈ cl signC, c ∈ alph0 := by decide +kernel
          exact this c hd
theorem texts_ok (ns : List Int) : ∀ t ∈ textsW ns, ∀ c ∈ cl t, c ∈ alph0 := by
  have key : ∀ (ns : List Int) (p : List PySem.Str × PySem.Str), (∀ t ∈ p.1, ∀ c ∈ cl t, c ∈ alph0) → (∀ c ∈ cl p.2, c ∈ alph0) → (∀ t ∈ (ns.foldl txStep p).1, ∀ c ∈ cl t, c ∈ alph0) ∧ ∀ c ∈ cl (ns.foldl txStep p).2, c ∈ alph0 := by
    intro ns
    induction ns with
    | nil => intro p h1 h2; exact ⟨h1, h2⟩
    | cons x ns ih => intro p h1 h2; exact ih _ (step_ok x h1 h2).1 (step_ok x h1 h2).2
  have := key ns ([], PySem.Str.ofString "") (fun t ht => by cases ht) (fun c hc => by
    have : cl (PySem.Str.ofString "") = [] := by decide +kernel
    rw [this] at hc; cases hc)
  intro t ht
  unfold textsW at ht
  rcases List.mem_append.mp ht with ht | ht
  · exact this.1 t ht
  · rw [List.mem_singleton.mp ht]; exact this.2
theorem texts_size (ns : List Int) (hn : ns.length ≤ 63) : (textsW ns).length ≤ 64 ∧ (∀ t ∈ textsW ns, t.length ≤ 63) ∧ ((textsW ns).map (·.length)).sum + (textsW ns).length * 1 ≤ 64 := by
  have h := tx_size ns
  unfold textsW
  refine ⟨by rw [List.length_append, List.length_singleton]; omega, fun t ht => ?_, ?_⟩
  · rcases List.mem_append.mp ht with ht | ht
    · have := mem_sum ht; omega
    · rw [List.mem_singleton.mp ht]; omega
  · simp only [List.length_append, List.map_append, List.sum_append, List.map_cons, List.map_nil, List.sum_cons, List.sum_nil, List.length_singleton]; omega
def signL : List PySem.Str := ["\"", "\\", ";", "=", " ", "\u2003", "D", "d", "\u0130", "\\\"", "\" \""]
def insW (told : List PySem.Str) (n place : Int) (s : PySem.Str) : List PySem.Str :=
  pick told none (some n) none ++ [strSl (itemS told n) none (some place) none ++ s ++ strSl (itemS told n) (some place) none none] ++ pick told (some (n + 1)) none none
def othW (ns : List Int) (told : List PySem.Str) (n place : Int) (k : Nat) : List (List PySem.Str) := [textsW ns, told] ++ (signL.take k).map (insW told n place)
abbrev levD (l : List PySem.Str) : D := .list (l.map .str)
theorem sl_mem {x : PySem.Str} {lo hi : Option Int} {c : Nat} (h : c ∈ cl (strSl x lo hi none)) : c ∈ cl x := by
  rw [cl_strSl1] at h
  exact List.mem_of_mem_drop (List.mem_of_mem_take h)
theorem pick_mem {ys : List PySem.Str} {lo hi : Option Int} {y : PySem.Str} (h : y ∈ pick ys lo hi none) : y ∈ ys := by
  rw [pick_one] at h
  exact List.mem_of_mem_drop (List.mem_of_mem_take h)
theorem pick_le {ys : List PySem.Str} {lo hi : Option Int} : (pick ys lo hi none).length ≤ ys.length := by
  rw [pick_one, List.length_take, List.length_drop]; omega
/-- a list that the law may ask of -/
def Okay (ts : List PySem.Str) : Prop := ts.length ≤ 200 ∧ (∀ t ∈ ts, t.length ≤ 300) ∧ ∀ t ∈ ts, ∀ c ∈ cl t, c ∈ alph
theorem ins_ok {told : List PySem.Str} {n place : Int} {s : PySem.Str} (h1 : told.length ≤ 65) (h2 : ∀ t ∈ told, t.length ≤ 257) (h3 : ∀ t ∈ told, ∀ c ∈ cl t, c ∈ alph) (hs : s ∈ signL) : Okay (insW told n place s) := by
  have hi : (itemS told n).length ≤ 257 ∧ ∀ c ∈ cl (itemS told n), c ∈ alph := by
    rcases itemS_mem told n with e | e
    · rw [e]; exact ⟨Nat.zero_le _, fun c hc => by cases hc⟩
    · exact ⟨h2 _ e, h3 _ e⟩
  have hs' : s.length ≤ 3 ∧ ∀ c ∈ cl s, c ∈ alph := by
    have : ∀ s ∈ signL, s.length ≤ 3 ∧ ∀ c ∈ cl s, c ∈ alph := by decide +kernel
    exact this s hs
  have l1 := strSl_len (itemS told n) none (some place)
  have l2 := strSl_len (itemS told n) (some place) none
  have p1 := pick_le (ys := told) (lo := none) (hi := some n)
  have p2 := pick_le (ys := told) (lo := some (n + 1)) (hi := none)
  unfold insW
  refine ⟨by simp only [List.length_append, List.length_singleton]; omega, fun t ht => ?_, fun t ht => ?_⟩
  · rcases List.mem_append.mp ht with ht | ht
    · rcases List.mem_append.mp ht with ht | ht
      · have := h2 t (pick_mem ht); omega
      · rw [List.mem_singleton.mp ht, slen, slen]
        have := cl_len (itemS told n)
        have a := strSl_len (itemS told n) none (some place)
        have e1 : (strSl (itemS told n) none (some place) none).length + (strSl (itemS told n) (some place) none none).length ≤ (itemS told n).length := by
          rw [cl_len, cl_len, cl_strSl1, cl_strSl1, List.length_take, List.length_take, List.length_drop, List.length_drop, ← cl_len]
          have q1 : clipN none 0 (itemS told n).length = 0 := rfl
          have q2 : clipN none (itemS told n).length (itemS told n).length = (itemS told n).length := rfl
          have q3 : clipN (some place) (itemS told n).length (itemS told n).length = clipN (some place) 0 (itemS told n).length := rfl
          rw [q1, q2, q3]
          have := clipN_le (v := some place) (dflt := 0) (n := (itemS told n).length) (Nat.zero_le _)
          omega
        omega
    · have := h2 t (pick_mem ht); omega
  · rcases List.mem_append.mp ht with ht | ht
    · rcases List.mem_append.mp ht with ht | ht
      · exact h3 t (pick_mem ht)
      · rw [List.mem_singleton.mp ht]
        intro c hc
        rw [cl_app, cl_app] at hc
        rcases List.mem_append.mp hc with hc | hc
        · rcases List.mem_append.mp hc with hc | hc
          · exact hi.2 c (sl_mem hc)
          · exact hs'.2 c hc
        · exact hi.2 c (sl_mem hc)
    · exact h3 t (pick_mem ht)
def S_law4 : Sig := Sig.of [("script" : PySem.Str), "blanks", "texts", "told", "n", "place", "others", "sign", "other"] [.local, .local, .local, .local, .local, .local, .local, .local, .local] (fnRec pw 7).scope (by decide +kernel)
section
variable {W : Wd} (hB : ∀ y ∈ bnames, W.mg y = none) (fbl : Fn W 1 "_law_blanks" [] (.list (blankL.map .str))) (ftx : ∀ ns : List Int, ns.length ≤ 63 → Fn W 1 "_law_texts" [.list (ns.map .int), .list (blankL.map .str)] (.list ((textsW ns).map .str)))
  (fft : ∀ ts : List PySem.Str, ts.length ≤ 300 → (∀ t ∈ ts, t.length ≤ 2000) → Fn W 1 "_law_fit" [.list (ts.map .str), .list (blankL.map .str)] (.bool (fitW ts)))
  (fsg : ∀ ts : List PySem.Str, ts.length ≤ 300 → (∀ t ∈ ts, t.length ≤ 2000) → Fn W 1 "_law_signs" [.list (ts.map .str), .list (blankL.map .str)] (.str (signsW ts)))
  (fpp : ∀ x : PySem.Str, x.length ≤ 1000000 → Fn W 1 "_parseparam" [.str x] (.list ((ppS (cl x)).map .str)))
include hB fbl ftx fft fsg fpp
theorem law4_body {F : FI W S_law4} (hown : F.own = true) (hlv : 1 ≤ F.lv) (ns : List Int) (hn : ns.length ≤ 63) :
    Ex F ([D.list (ns.map .int)].map Sl.val ++ List.replicate 8 Sl.no) (fnRec pw 7).body (fun o => o = .ret (.bool true)) := by
  refine ex_norm (ρ' := [_, _, _, _, _, _, _, _, _]) rfl ?_
  obtain ⟨t1, t2, t3⟩ := texts_size ns hn
  have hto := texts_ok ns
  have e1 : (PySem.Str.ofString ";").length = 1 := by decide +kernel
  refine ex_seq (ex_assign 1 (ev_call evs_nil fbl (by omega) (by decide +kernel) (by decide +kernel) fun _ => rfl) rfl (.inl rfl) (by rfl)) ?_
  refine ex_norm (ρ' := [_, _, _, _, _, _, _, _, _]) rfl ?_
  refine ex_seq (ex_assign 2 (ev_call (evs_cons (ev_name 0 rfl rfl rfl (by decide +kernel)) (evs_cons (ev_name 1 rfl rfl rfl (by decide +kernel)) evs_nil fun _ => rfl) fun _ => rfl) (ftx _ ?_) (by omega) (by decide +kernel) (by decide +kernel) fun _ => rfl) rfl (.inl rfl) (by rfl)) ?_
  · exact hn
  refine ex_norm (ρ' := [_, _, _, _, _, _, _, _, _]) rfl ?_
  have hjl : (Txt.join (PySem.Str.ofString ";") (textsW ns)).length ≤ 64 := by have := join_sum (sep := PySem.Str.ofString ";") (ys := textsW ns); rw [e1] at this; omega
  refine ex_seq (ex_assign 3 (ev_call (evs_cons (ev_meth ev_str (evs_cons (ev_name 2 rfl rfl rfl (by decide +kernel)) evs_nil fun _ => rfl) .str PySem.F.plainAttrs_str PySem.F.slot_str_join PySem.F.type_str_join (cal_join ?_) (fun _ => rfl) (fun _ => rfl) rfl (by decide)) evs_nil fun _ => rfl) (fpp _ ?_) (by omega) (by decide +kernel) (by decide +kernel) fun _ => rfl) rfl (.inl rfl) (by rfl)) ?_
  · exact joinOk_sum (by rw [e1]; omega)
  · omega
  refine ex_norm (ρ' := [_, _, _, _, _, _, _, _, _]) rfl ?_
  obtain ⟨q1, q2, q3⟩ := law4_told hto
  have q4 : (ppS (cl (Txt.join (PySem.Str.ofString ";") (textsW ns)))).length ≤ 65 := by
    have := ppS_count (cl (Txt.join (PySem.Str.ofString ";") (textsW ns)))
    rw [← cl_len] at this; omega
  have q5 : ∀ t ∈ ppS (cl (Txt.join (PySem.Str.ofString ";") (textsW ns))), t.length ≤ 257 := fun t ht => by
    have := ppS_len ht
    rw [← cl_len] at this; omega
  have q6 : 0 < (ppS (cl (Txt.join (PySem.Str.ofString ";") (textsW ns)))).length := by
    unfold ppS pieces
    rw [List.length_map]
    exact List.length_pos_iff.mpr (grp_ne _ _)
  generalize ppS (cl (Txt.join (PySem.Str.ofString ";") (textsW ns))) = told at q1 q2 q3 q4 q5 q6
  refine ex_cons (ex_if (te_bool (all_or (te_not (te_ev (ev_call (evs_cons (ev_name 3 rfl rfl rfl (by decide +kernel)) (evs_cons (ev_name 1 rfl rfl rfl (by decide +kernel)) evs_nil fun _ => rfl) fun _ => rfl) (fft _ ?_ ?_) (by omega) (by decide +kernel) (by decide +kernel) fun _ => rfl) tru_bool fun _ => rfl)) fun _ => (all_or (te_cmp (ev_call (evs_cons (ev_name 3 rfl rfl rfl (by decide +kernel)) (evs_cons (ev_name 1 rfl rfl rfl (by decide +kernel)) evs_nil fun _ => rfl) fun _ => rfl) (fsg _ ?_ ?_) (by omega) (by decide +kernel) (by decide +kernel) fun _ => rfl) (ev_call (evs_cons (ev_name 2 rfl rfl rfl (by decide +kernel)) (evs_cons (ev_name 1 rfl rfl rfl (by decide +kernel)) evs_nil fun _ => rfl) fun _ => rfl) (fsg _ ?_ ?_) (by omega) (by decide +kernel) (by decide +kernel) fun _ => rfl) ne_ss rfl) fun _ => all_or_nil))) (fun h => ?_) (fun h => ex_nil ?_))
  · omega
  · exact fun t ht => by have := q5 t ht; omega
  · omega
  · exact fun t ht => by have := q5 t ht; omega
  · omega
  · exact fun t ht => by have := t2 t ht; omega
  · exfalso
    rw [q1, q2] at h
    simp at h
  refine ex_seq (ex_assign 4 (ev_binop (ev_bcall (evs_cons (ev_name 0 rfl rfl rfl (by decide +kernel)) evs_nil fun _ => rfl) boot_sum' (hB _ (by decide +kernel)) keeps_builtin cal_sum (by decide +kernel) (by decide +kernel) (by decide +kernel) fun _ => rfl) (ev_bcall (evs_cons (ev_name 3 rfl rfl rfl (by decide +kernel)) evs_nil fun _ => rfl) boot_len' (hB _ (by decide +kernel)) keeps_builtin (cal_len_strs ?_) (by decide +kernel) (by decide +kernel) (by decide +kernel) fun _ => rfl) (mod_ii ?_)) rfl (.inl rfl) (by rfl)) ?_
  · omega
  · omega
  refine ex_norm (ρ' := [_, _, _, _, _, _, _, _, _]) rfl ?_
  have hnb : 0 ≤ ns.sum % (told.length : Int) ∧ ns.sum % (told.length : Int) < told.length := ⟨Int.emod_nonneg _ (by omega), Int.emod_lt_of_pos _ (by omega)⟩
  generalize ns.sum % (told.length : Int) = n at hnb
  have hil : (itemS told n).length ≤ 257 := by
    rcases itemS_mem told n with e | e
    · rw [e]; exact Nat.zero_le _
    · exact q5 _ e
  refine ex_seq (ex_assign 5 (ev_binop (ev_binop (ev_bcall (evs_cons (ev_name 0 rfl rfl rfl (by decide +kernel)) evs_nil fun _ => rfl) boot_sum' (hB _ (by decide +kernel)) keeps_builtin cal_sum (by decide +kernel) (by decide +kernel) (by decide +kernel) fun _ => rfl) ev_int (fdiv_ii (by decide) (by decide))) (ev_binop (ev_bcall (evs_cons (ev_item (ev_name 3 rfl rfl rfl (by decide +kernel)) (ev_name 4 rfl rfl rfl (by decide +kernel)) .list (item_ls ?_ ?_) fun _ _ => ⟨_, rfl⟩) evs_nil fun _ => rfl) boot_len' (hB _ (by decide +kernel)) keeps_builtin (cal_len_str ?_) (by decide +kernel) (by decide +kernel) (by decide +kernel) fun _ => rfl) ev_int add_ii) (mod_ii ?_)) rfl (.inl rfl) (by rfl)) ?_
  · omega
  · omega
  · omega
  · omega
  refine ex_norm (ρ' := [_, _, _, _, _, _, _, _, _]) rfl ?_
  generalize ns.sum / 7 % (((itemS told n).length : Int) + 1) = place
  refine ex_seq (ex_assign_lst 6 (evf_list (evs_cons (ev_name 2 rfl rfl rfl (by decide +kernel)) (evs_cons (ev_name 3 rfl rfl rfl (by decide +kernel)) evs_nil fun _ => rfl) fun _ => rfl) (Nat.le_of_ble_eq_true rfl)) rfl (.inl rfl) (by rfl)) ?_
  refine ex_norm (ρ' := [_, _, _, _, _, _, _, _, _]) rfl ?_
  refine ex_seqP (P := fun ρ' => ∃ s7, ρ' = [.val (.list (ns.map .int)), .val (.list (blankL.map .str)), .val (.list ((textsW ns).map .str)), .val (.list (told.map .str)), .val (.int n), .val (.int place), .lst ((othW ns told n place 11).map levD), s7, .no]) (ex_for hown (ev_cstrs signL (by rfl) (by decide +kernel)) itr_list
    (fun i ρ => ∃ s7, ρ = [.val (.list (ns.map .int)), .val (.list (blankL.map .str)), .val (.list ((textsW ns).map .str)), .val (.list (told.map .str)), .val (.int n), .val (.int place), .lst ((othW ns told n place i).map levD), s7, .no]) ⟨_, rfl⟩ ?_ ?_ (fun _ _ => rfl)) ?_
  · rintro F₂ hl₂ ho₂ i ρ d hd ⟨s7, rfl⟩
    rw [List.getElem?_map] at hd
    cases e : signL[i]? with
    | none => rw [e] at hd; cases hd
    | some s =>
      rw [e] at hd
      cases hd
      have hi := (List.getElem?_eq_some_iff.mp e).1
      have hsl : signL.length = 11 := by decide +kernel
      have hs3 : s.length ≤ 3 := by
        have : ∀ s ∈ signL, s.length ≤ 3 := by decide +kernel
        exact this s (List.mem_of_getElem? e)
      have l1 := strSl_len (itemS told n) none (some place)
      have l2 := strSl_len (itemS told n) (some place) none
      have p1 := pick_le (ys := told) (lo := none) (hi := some n)
      have p2 := pick_le (ys := told) (lo := some (n + 1)) (hi := none)
      refine ⟨_, asg_name 7 rfl (.inl rfl), ?_⟩
      refine ex_seq (ex_append 6 rfl (.inl rfl) rfl (ev_binop (ev_binop (ev_slice (ev_name 3 rfl rfl rfl (by decide +kernel)) .none (.some (ev_name 4 rfl rfl rfl (by decide +kernel))) .none .list (slc_ls (by decide) ?_)) (ev_list (evs_consS (ev_binop (ev_binop (ev_slice (ev_item (ev_name 3 rfl rfl rfl (by decide +kernel)) (ev_name 4 rfl rfl rfl (by decide +kernel)) .list (item_ls ?_ ?_) fun _ _ => ⟨_, rfl⟩) .none (.some (ev_name 5 rfl rfl rfl (by decide +kernel))) .none .str (slc_str rfl ?_ ?_)) (ev_name 7 rfl rfl rfl (by decide +kernel)) (add_ss ?_)) (ev_slice (ev_item (ev_name 3 rfl rfl rfl (by decide +kernel)) (ev_name 4 rfl rfl rfl (by decide +kernel)) .list (item_ls ?_ ?_) fun _ _ => ⟨_, rfl⟩) (.some (ev_name 5 rfl rfl rfl (by decide +kernel))) .none .none .str (slc_str rfl ?_ ?_)) (add_ss ?_)) evs_nilS fun _ => rfl) (Nat.le_of_ble_eq_true rfl)) (add_lls ?_)) (ev_slice (ev_name 3 rfl rfl rfl (by decide +kernel)) (.some (ev_binop (ev_name 4 rfl rfl rfl (by decide +kernel)) ev_int add_ii)) .none .none .list (slc_ls (by decide) ?_)) (add_lls ?_)) ?_ (by decide +kernel) rfl (fun e h => by rw [interactive, h]; rfl) (fun _ => rfl) (fun _ => rfl)) (ex_nil ?_)
      · omega
      · omega
      · omega
      · omega
      · omega
      · omega
      · omega
      · omega
      · omega
      · omega
      · rw [slen]; omega
      · simp; omega
      · omega
      · simp only [List.length_append, List.length_singleton]; omega
      · unfold othW; simp; omega
      · refine ⟨.val (.str s), ?_⟩
        have eo : (othW ns told n place (i + 1)).map levD = (othW ns told n place i).map levD ++ [levD (insW told n place s)] := by
          unfold othW
          rw [List.take_add_one, e]
          simp
        rw [eo]
        rfl
  · rintro ρ ⟨s7, hρ⟩
    rw [List.length_map, show signL.length = 11 by decide +kernel] at hρ
    exact ⟨ρ, rfl, s7, hρ⟩
  rintro ρ' ⟨s7, rfl⟩
  refine ex_freeze 6 (by decide) rfl ?_
  refine ex_norm (ρ' := [_, _, _, _, _, _, _, _, _]) rfl ?_
  have hall : ∀ o ∈ othW ns told n place 11, Okay o := fun o ho => by
    unfold othW at ho
    rcases List.mem_append.mp ho with ho | ho
    · simp at ho
      rcases ho with rfl | rfl
      · exact ⟨by omega, fun t ht => by have := t2 t ht; omega, fun t ht c hc => alph_of (hto t ht c hc)⟩
      · exact ⟨by omega, fun t ht => by have := q5 t ht; omega, q3⟩
    · obtain ⟨s, hs, rfl⟩ := List.mem_map.mp ho
      exact ins_ok q4 q5 q3 (List.mem_of_mem_take hs)
  refine ex_seqP (P := fun _ => True) (ex_for hown (ev_name 6 rfl rfl rfl (by decide +kernel)) itr_list
    (fun i ρ => ∃ s8, ρ = [.val (.list (ns.map .int)), .val (.list (blankL.map .str)), .val (.list ((textsW ns).map .str)), .val (.list (told.map .str)), .val (.int n), .val (.int place), .val (.list ((othW ns told n place 11).map levD)), s7, s8]) ⟨_, rfl⟩ ?_ (fun ρ _ => ⟨ρ, rfl, trivial⟩) (fun _ _ => rfl)) ?_
  · rintro F₂ hl₂ ho₂ i ρ d hd ⟨s8, rfl⟩
    rw [List.getElem?_map] at hd
    cases e : (othW ns told n place 11)[i]? with
    | none => rw [e] at hd; cases hd
    | some o =>
      rw [e] at hd
      cases hd
      obtain ⟨o1, o2, o3⟩ := hall o (List.mem_of_getElem? e)
      have hj : ∀ y ∈ o, y.length + (PySem.Str.ofString ";").length ≤ 301 := fun y hy => by have := o2 y hy; omega
      have hz : o.length * 301 ≤ 60200 := Nat.mul_le_mul_right 301 o1
      have hjl := join_le hj
      refine ⟨_, asg_name 8 rfl (.inl rfl), ?_⟩
      refine ex_cons (ex_if (te_cmp (ev_cmp (ev_call (evs_cons (ev_meth ev_str (evs_cons (ev_name 8 rfl rfl rfl (by decide +kernel)) evs_nil fun _ => rfl) .str PySem.F.plainAttrs_str PySem.F.slot_str_join PySem.F.type_str_join (cal_join ?_) (fun _ => rfl) (fun _ => rfl) rfl (by decide)) evs_nil fun _ => rfl) (fpp _ ?_) (by omega) (by decide +kernel) (by decide +kernel) fun _ => rfl) (ev_name 8 rfl rfl rfl (by decide +kernel)) eq_ll rfl) (ev_call (evs_cons (ev_name 8 rfl rfl rfl (by decide +kernel)) (evs_cons (ev_name 1 rfl rfl rfl (by decide +kernel)) evs_nil fun _ => rfl) fun _ => rfl) (fft _ ?_ ?_) (by omega) (by decide +kernel) (by decide +kernel) fun _ => rfl) ne_bb rfl) (fun h => ?_) (fun h => ex_nil (ex_nil ⟨_, rfl⟩)))
      · exact joinOk_le hj (by omega)
      · omega
      · omega
      · exact fun t ht => by have := o2 t ht; omega
      · exfalso
        rw [law4_one o3] at h
        simp at h
  rintro ρ' _
  exact ex_cons (ex_ret ev_bool rfl)
end
end Mine

end

open PySem PySem.W PySem.W.X PySem.W.ZRun PyProof.Rows
set_option maxHeartbeats 8000000
namespace Mine
theorem main4 {W : Wd} {h : Heap} (T : W.Top h) (hB : ∀ y ∈ bnames, W.mg y = none) (r1 : fnRec pw 1 ∈ recsOf W.p) (r3 : fnRec pw 3 ∈ recsOf W.p) (r4 : fnRec pw 4 ∈ recsOf W.p) (r5 : fnRec pw 5 ∈ recsOf W.p) (r6 : fnRec pw 6 ∈ recsOf W.p) (r7 : fnRec pw 7 ∈ recsOf W.p)
    (ns : List Int) (hz : ns.length ≤ 63) : Fn W 2 "law" [.list (ns.map D.int)] (.bool true) := by
  have fpp : ∀ x : PySem.Str, x.length ≤ 1000000 → Fn W 1 "_parseparam" [.str x] (.list ((ppS (cl x)).map .str)) := fun x hx =>
    fn_by (d := fnRec pw 1) (rest := 7) S_pp ["s"] r1 rfl (by decide +kernel) rfl (by decide +kernel) (by intro pm cd doc vs h; match vs, h with | [a], _ => rfl) (by decide +kernel) rfl rfl ⟨h, T⟩ fun F _ _ => by
      rw [← ppD_eq]; exact pp_body hB hx
  have fbl : Fn W 1 "_law_blanks" [] (.list (blankL.map .str)) :=
    fn_by (d := fnRec pw 3) (rest := 1) S_bl [] r3 rfl (by decide +kernel) rfl (by decide +kernel) (by intro pm cd doc vs h; match vs, h with | [], _ => rfl) (by decide +kernel) rfl rfl ⟨h, T⟩ fun F _ _ => bl_body hB
  have ftx : ∀ ns : List Int, ns.length ≤ 63 → Fn W 1 "_law_texts" [.list (ns.map .int), .list (blankL.map .str)] (.list ((textsW ns).map .str)) := fun ns hn =>
    fn_by (d := fnRec pw 4) (rest := 2) S_tx ["script", "blanks"] r4 rfl (by decide +kernel) rfl (by decide +kernel) (by intro pm cd doc vs h; match vs, h with | [a, b], _ => rfl) (by decide +kernel) rfl rfl ⟨h, T⟩ fun F _ ho => tx_body ho ns hn
  have fft : ∀ ts : List PySem.Str, ts.length ≤ 300 → (∀ t ∈ ts, t.length ≤ 2000) → Fn W 1 "_law_fit" [.list (ts.map .str), .list (blankL.map .str)] (.bool (fitW ts)) := fun ts h1 h2 =>
    fn_by (d := fnRec pw 5) (rest := 3) S_ft ["texts", "blanks"] r5 rfl (by decide +kernel) rfl (by decide +kernel) (by intro pm cd doc vs h; match vs, h with | [a, b], _ => rfl) (by decide +kernel) rfl rfl ⟨h, T⟩ fun F _ ho => ft_body hB ho ts h1 h2
  have fsg : ∀ ts : List PySem.Str, ts.length ≤ 300 → (∀ t ∈ ts, t.length ≤ 2000) → Fn W 1 "_law_signs" [.list (ts.map .str), .list (blankL.map .str)] (.str (signsW ts)) := fun ts h1 h2 =>
    fn_by (d := fnRec pw 6) (rest := 1) S_sg ["texts", "blanks"] r6 rfl (by decide +kernel) rfl (by decide +kernel) (by intro pm cd doc vs h; match vs, h with | [a, b], _ => rfl) (by decide +kernel) rfl rfl ⟨h, T⟩ fun F _ ho => sg_body ho ts h1 h2
  exact fn_by (d := fnRec pw 7) (rest := 8) S_law4 ["script"] r7 rfl (by decide +kernel) rfl (by decide +kernel) (by intro pm cd doc vs h; match vs, h with | [a], _ => rfl) (by decide +kernel) rfl rfl ⟨h, T⟩ fun F hl ho => law4_body hB fbl ftx fft fsg fpp ho (by omega) ns hz
end Mine
theorem PySem.Challenge.cw_dm0094_04_holds : PySem.Challenge.rw_dm0094_04.Holds := by
  w_on
  o_law
  z_head
  case hw => w_witness2
  k_fill
  intro w s₀ s₁ mg mb G y fa o pm cd doc dV kV ho hd hcd hD hmg hg args vals as L hpre hlay hrd hwl hlo
  z_open y L KX ZH ZN ZT
  refine Ground.open G ?_
  intro T B D TE TW
  wrow_args hpre hlay hrd hwl hlo
  have htk := script_toks L ZT
  rename_i ns _ _ _ _ _ _ _ l vs _ hL _ _ _ hI _ hc _
  refine Mine.law_call (W := ⟨_, w, _, _, _, mg, mb⟩) (Mine.main4 T (Mine.noG T (by decide +kernel)) ?_ ?_ ?_ ?_ ?_ ?_ ns (by omega)) (by decide) hmg T (script_obj L hL) hI (Nat.lt_of_lt_of_le (by decide) htk) ?_
  · exact List.mem_of_getElem? (i := 0) (by kernel_rfl)
  · exact List.mem_of_getElem? (i := 1) (by kernel_rfl)
  · exact List.mem_of_getElem? (i := 2) (by kernel_rfl)
  · exact List.mem_of_getElem? (i := 3) (by kernel_rfl)
  · exact List.mem_of_getElem? (i := 4) (by kernel_rfl)
  · exact List.mem_of_getElem? (i := 5) (by kernel_rfl)
  · intro h' tk k
    exact GoodW.toG ⟨.inl ⟨.bool true, .bool true, [], rfl, fun _ => rfl, .bool true, by kernel_rfl, fun _ => ⟨.nil, fun _ ha => nomatch ha⟩⟩, k, rfl, hg⟩
