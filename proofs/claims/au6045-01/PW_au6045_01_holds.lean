import PyProof.Rows.All
import Wide.All
import OpenK.AllK
import Wide.FinOn
import PyProof.AttrMissHeap
import Lean
import PySem.Challenge.RW_au6045_01
set_option Elab.async false
set_option maxRecDepth 100000

namespace Au
open PySem PySem.Spec PySem.Calls PyProof.Rows PySem.W

section
open PySem PySem.Spec PySem.Calls PyProof.Rows PySem.W

abbrev Led := List (Addr × Obj)
abbrev Vals := List (Option Value)

/-- what stands fixed in the whole run -/
structure Gl where
  prog : Program
  w : World
  K : Frag
  p : Program
  loose : List Str
  mean : ExcName → Option Value
  mg : Str → Option Value
  mb : Str → Option Value
  os : OsState
  codes : List Addr
  qualAt : Nat → Nat → Str


/-- what stands fixed in a frame: the part that stays, the frame's dict, the names of its locals -/
structure Fk where
  h₀ : Heap
  L : Addr
  ns : List Str

def look : List Str → Vals → Str → Option Value
  | x :: ns, v :: vs, y => if y = x then v else look ns vs y
  | _, _, _ => none

/-- a code object, its table at P -/
def CodeO (oc : Obj) (c P : Addr) : Prop :=
  ∃ vs file tf flags tg inF text tt, oc.cls = .type "code" ∧ oc.data = .fields vs ∧ vs[11]? = some (.ref P) ∧ vs.getD 11 .none = .ref P ∧ vs.getD 18 .none = .str file tf ∧
    vs.getD 7 .none = .int flags tg ∧ vs.getD 9 .none = .bool inF ∧ vs.getD 10 .none = .int text tt ∧ c ≠ P
def RecO (oc : Obj) (q : Str) : Prop := ∃ vs t, oc.data = .fields vs ∧ vs[1]? = some (.str q t)

def Has (K : Frag) (nJ : Led) (a : Addr) (o : Obj) : Prop := (a, o) ∈ nJ ∨ K.lookup a = some o

def GStep (G : Gl) (nJ : Led) (S : Addr → Prop) (c : Addr) : Prop :=
  ∃ oc P ps, Has G.K nJ c oc ∧ CodeO oc c P ∧ (P, tabObj ps) ∈ nJ ∧ TriplesOk ps.toList ∧
    ∀ pos cv, codeAmong pos ps.toList = some cv → ∃ c' oc', cv = .ref c' ∧ Has G.K nJ c' oc' ∧ RecO oc' (G.qualAt pos.line pos.col) ∧ S c'
/-- a set of codes whose tables hold codes of the set -/
structure JS (G : Gl) (n nJ : Led) (S : Addr → Prop) : Prop where
  step : ∀ c, S c → GStep G nJ S c
  top : ∀ c ∈ G.codes, S c
  fn : ∀ f oc od fd sl, (f, (⟨oc, od, .func fd, sl⟩ : Obj)) ∈ n → ∃ c' oc', fd.code = .ref c' ∧ Has G.K nJ c' oc' ∧ RecO oc' fd.qualname ∧ S c'

/-- no table, no code -/
def Pc (o : Obj) : Prop := o.cls ≠ .none ∧ o.cls ≠ .type "code"
/-- no table, no function -/
structure Tm (o : Obj) : Prop where
  c : o.cls ≠ .none
  f : ∀ fd, o.data ≠ .func fd
/-- the hidden part of the ledger: the tables of codes -/
structure JL (G : Gl) (n nJ : Led) : Prop where
  ex : ∃ S, JS G n nJ S
  fl : ∀ p ∈ nJ, p.2.cls = .none ∨ p.2.cls = .type "code"
  pc : ∀ p ∈ n, p.2.cls ≠ .none

structure St (G : Gl) (f : Fk) (vs : Vals) (n : Led) (s : Shared) : Prop where
  F : Fr f.h₀ f.L s.heap (look f.ns vs)
  X : G.K.In f.h₀
  T : Top G.p G.loose G.mean G.mg G.mb f.h₀
  g : s.gens = #[]
  o : s.os = G.os
  N : ∃ nJ, News f.h₀ f.L s.heap (n ++ nJ) ∧ JL G n nJ

structure Wp (G : Gl) (f : Fk) (A : Around) {α : Type} (t : Sem α) (vs : Vals) (n : Led) (Q : α → Vals → Led → Prop) (E : Value → Shared → Prop) : Prop where
  run : ∀ s, St G f vs n s → wpAny (model G.prog G.w) A t (fun a s' => ∃ vs' n', St G f vs' n' s' ∧ Q a vs' n') E s

def Bot : Value → Shared → Prop := fun _ _ => False

section
variable {G : Gl} {f : Fk} {A : Around} {α β : Type} {vs : Vals} {n : Led} {E : Value → Shared → Prop}

theorem Wp.pure {a : α} {Q : α → Vals → Led → Prop} (h : Q a vs n) : Wp G f A (pure a) vs n Q E := ⟨fun _ hs => wpAny_pure ⟨_, _, hs, h⟩⟩
theorem Wp.bind {m : Sem α} {k : α → Sem β} {Q : β → Vals → Led → Prop} (h : Wp G f A m vs n (fun a vs' n' => Wp G f A (k a) vs' n' Q E) E) : Wp G f A (m >>= k) vs n Q E :=
  ⟨fun s hs => wpAny_bind (wpAny_mono (h.run s hs) (fun _ s' ⟨_, _, hs', hk⟩ => hk.run s' hs') fun _ _ x => x)⟩
theorem Wp.mono {t : Sem α} {Q Q' : α → Vals → Led → Prop} {E' : Value → Shared → Prop} (h : Wp G f A t vs n Q E) (hQ : ∀ a vs' n', Q a vs' n' → Q' a vs' n') (hE : ∀ e s, E e s → E' e s) : Wp G f A t vs n Q' E' :=
  ⟨fun s hs => wpAny_mono (h.run s hs) (fun _ _ ⟨_, _, hs', hk⟩ => ⟨_, _, hs', hQ _ _ _ hk⟩) hE⟩
theorem Wp.monoQ {t : Sem α} {Q Q' : α → Vals → Led → Prop} (h : Wp G f A t vs n Q E) (hQ : ∀ a vs' n', Q a vs' n' → Q' a vs' n') : Wp G f A t vs n Q' E := h.mono hQ fun _ _ x => x
theorem Wp.bot {t : Sem α} {Q : α → Vals → Led → Prop} (h : Wp G f A t vs n Q Bot) : Wp G f A t vs n Q E := h.mono (fun _ _ _ x => x) fun _ _ x => x.elim

theorem JL.sub {n n' nJ : Led} (J : JL G n nJ) (hs : ∀ p ∈ n', p ∈ n) : JL G n' nJ := let ⟨S, s, t, k⟩ := J.ex; ⟨⟨S, s, t, fun _ _ _ _ _ hm => k _ _ _ _ _ (hs _ hm)⟩, J.fl, fun p hp => J.pc p (hs p hp)⟩
theorem St.sub {n' : Led} {s : Shared} (S : St G f vs n s) (hs : ∀ p ∈ n', p ∈ n) : St G f vs n' s := by
  obtain ⟨F, X, T, g, o, nJ, N, J⟩ := S
  exact ⟨F, X, T, g, o, nJ, fun p hp => (List.mem_append.mp hp).elim (fun q => N p (List.mem_append_left _ (hs _ q))) fun q => N p (List.mem_append_right _ q), J.sub hs⟩
/-- the ledger may be read anew: what is not asked any more falls -/
theorem Wp.drop {t : Sem α} {n' : Led} {Q : α → Vals → Led → Prop} (hs : ∀ p ∈ n', p ∈ n) (h : Wp G f A t vs n' Q E) : Wp G f A t vs n Q E := ⟨fun s S => h.run s (S.sub hs)⟩

/-- lifts a rule that leaves the state's part untouched but for toks -/
theorem Wp.toks {t : Sem α} {Q : α → Vals → Led → Prop} (h : ∀ s (R : α → Shared → Prop), St G f vs n s → (∀ a j, Q a vs n → R a { s with toks := j }) → wpAny (model G.prog G.w) A t R E s) : Wp G f A t vs n Q E :=
  ⟨fun s S => h s _ S fun _ _ q => ⟨_, _, ⟨S.F, S.X, S.T, S.g, S.o, S.N⟩, q⟩⟩
theorem St.tok {s : Shared} (S : St G f vs n s) (k : Nat) : St G f vs n { s with toks := k } := ⟨S.F, S.X, S.T, S.g, S.o, S.N⟩

theorem Wp.holding {ws : List Value} {m : Sem α} {Q : α → Vals → Led → Prop} (h : Wp G f A m vs n Q E) : Wp G f A (holding ws m) vs n Q E := ⟨fun s S => wpAny_holding (h.run s S)⟩
theorem Wp.standAt {p : Pos} {Q : Unit → Vals → Led → Prop} (h : Q () vs n) : Wp G f A (standAt p) vs n Q E := ⟨fun _ S => wpAny_standAt ⟨_, _, S, h⟩⟩
theorem Wp.point {Q : Unit → Vals → Led → Prop} (h : Q () vs n) : Wp G f A point vs n Q E := ⟨fun _ S => wpAny_point ⟨_, _, S, h⟩⟩

/-- membership facts of the ledger as facts of the heap -/
theorem St.get {s : Shared} {a : Addr} {o : Obj} (S : St G f vs n s) (hm : (a, o) ∈ n) : s.heap.get? a = some o := let ⟨_, N, _⟩ := S.N; (N _ (List.mem_append_left _ hm)).1
theorem St.ne {s : Shared} {a b : Addr} {o o' : Obj} (S : St G f vs n s) (ha : (a, o) ∈ n) (hb : (b, o') ∈ n) (h : o ≠ o') : a ≠ b := fun e => by
  subst e
  have := (S.get ha).symm.trans (S.get hb)
  exact h (Option.some.inj this)
end

section
variable {G : Gl} {f : Fk} {A : Around} {vs : Vals} {n : Led} {E : Value → Shared → Prop} {env : Env}

/-! statements -/
theorem Wp.nil {Q : Flow → Vals → Led → Prop} (h : Q .next vs n) : Wp G f A (execs [] env) vs n Q E := ⟨fun _ S => wpAny_execs_nil ⟨_, _, S, h⟩⟩
theorem Wp.cons {st : Stmt} {rest : List Stmt} {Q : Flow → Vals → Led → Prop}
    (h : Wp G f A (exec st env) vs n (fun fl vs' n' => match fl with | .next => Wp G f A (execs rest env) vs' n' Q E | fl => Q fl vs' n') E) :
    Wp G f A (execs (st :: rest) env) vs n Q E := ⟨fun s S => wpAny_execs_cons (wpAny_mono (h.run s S) (fun fl s' ⟨_, _, S', q⟩ => by cases fl <;> first | exact q.run s' S' | exact ⟨_, _, S', q⟩) fun _ _ x => x)⟩
theorem Wp.ret {e : Expr} {pos : Pos} {Q : Flow → Vals → Led → Prop} (h : Wp G f A (eval e env) vs n (fun v => Q (.ret v)) E) : Wp G f A (exec (.Return (some e) pos) env) vs n Q E :=
  ⟨fun s S => wpAny_Return_some (h.run s S)⟩
theorem Wp.iff {test : Expr} {body orelse : List Stmt} {pos : Pos} {Q : Flow → Vals → Led → Prop}
    (h : Wp G f A (isTrue test env (eval test env)) vs n (fun b vs' n' => match b with | true => Wp G f A (execs body env) vs' n' Q E | false => Wp G f A (execs orelse env) vs' n' Q E) E) :
    Wp G f A (exec (.If test body orelse pos) env) vs n Q E :=
  ⟨fun s S => wpAny_If (wpAny_mono (h.run s S) (fun b s' ⟨_, _, S', q⟩ => by cases b <;> exact q.run s' S') fun _ _ x => x)⟩

/-! names -/
inductive Slot where
  | loc (i : Nat)
  | cel (c : Addr)
  | glo (v : Value)
  | bui (v : Value)

def SlotOk (K : Frag) (f : Fk) (env : Env) (x : Str) : Slot → Prop
  | .loc i => env.kindOf x = some .local ∧ f.ns[i]? = some x ∧ (x == ("__debug__" : Str)) = false
  | .cel c => (env.kindOf x = some .cell ∨ env.kindOf x = some .free) ∧ env.cells.lookup x = some c ∧ (x == ("__debug__" : Str)) = false ∧ (x == ("__classdict__" : Str)) = false
  | .glo v => env.kindOf x = some .globalImplicit ∧ nsIn K mainGlobals x = some (some v) ∧ (x == ("__debug__" : Str)) = false
  | .bui v => env.kindOf x = some .globalImplicit ∧ nsIn K mainGlobals x = some none ∧ bootBuiltins x = some v ∧ (x == ("__name__" : Str)) = false ∧ (x == ("__debug__" : Str)) = false

structure Res (G : Gl) (f : Fk) (env : Env) (R : List (Str × Slot)) : Prop where
  kind : env.scope.kind = .function
  loc : env.locals = f.L
  glob : env.globals = mainGlobals
  bui : env.builtins = builtinsNs
  nd : f.ns.Nodup
  ok : ∀ x sl, (x, sl) ∈ R → SlotOk G.K f env x sl

theorem look_at : ∀ {ns : List Str} {vs : Vals} {i : Nat} {x : Str} {v : Value}, ns.Nodup → ns[i]? = some x → vs[i]? = some (some v) → look ns vs x = some v
  | [], _, i, _, _, _, h, _ => by cases i <;> cases h
  | y :: ns, [], i, _, _, _, _, h => by cases i <;> cases h
  | y :: ns, u :: vs, 0, x, v, _, h, h' => by
    cases h; cases h'
    exact if_pos rfl
  | y :: ns, u :: vs, i + 1, x, v, nd, h, h' => by
    have hm : x ∈ ns := List.mem_of_getElem? (show ns[i]? = some x from h)
    have hne : x ≠ y := fun e => (List.nodup_cons.mp nd).1 (e ▸ hm)
    show (if x = y then u else look ns vs x) = some v
    rw [if_neg hne]
    exact look_at (List.nodup_cons.mp nd).2 h h'
theorem look_set : ∀ {ns : List Str} {vs : Vals} {i : Nat} {x : Str} {v : Value}, ns.Nodup → ns[i]? = some x → i < vs.length → (fun y => if y = x then some v else look ns vs y) = look ns (vs.set i (some v))
  | [], _, i, _, _, _, h, _ => by cases i <;> cases h
  | y :: ns, [], i, _, _, _, _, h => by cases h
  | y :: ns, u :: vs, 0, x, v, _, h, _ => by
    cases h
    funext z
    show _ = if z = y then some v else look ns vs z
    by_cases hz : z = y
    · rw [if_pos hz, if_pos hz]
    · rw [if_neg hz, if_neg hz]
      exact if_neg hz
  | y :: ns, u :: vs, i + 1, x, v, nd, h, hi => by
    have hm : x ∈ ns := List.mem_of_getElem? (show ns[i]? = some x from h)
    have hne : x ≠ y := fun e => (List.nodup_cons.mp nd).1 (e ▸ hm)
    have ih := look_set (v := v) (List.nodup_cons.mp nd).2 (show ns[i]? = some x from h) (Nat.lt_of_succ_lt_succ hi)
    funext z
    have iz := congrFun ih z
    show (if z = x then some v else if z = y then u else look ns vs z) = if z = y then u else look ns (vs.set i (some v)) z
    by_cases hz : z = y
    · rw [if_pos hz, if_pos hz, if_neg (fun e => hne (e.symm.trans hz))]
    · rw [if_neg hz, if_neg hz]
      exact iz

section
variable {R : List (Str × Slot)} {x : Str} {pos : Pos} {Q : Value → Vals → Led → Prop}
theorem Wp.ldl {i : Nat} {v : Value} (r : Res G f env R) (hx : (x, Slot.loc i) ∈ R) (hv : vs[i]? = some (some v)) (h : Q v vs n) : Wp G f A (loadName env x) vs n Q E := by
  constructor; intro s S
  obtain ⟨k, hn, _⟩ := r.ok _ _ hx
  exact wpAny_loadName_local r.kind k (r.loc ▸ S.F.ns) (look_at r.nd hn hv) ⟨_, _, S, h⟩
theorem Wp.ldc {c : Addr} {o : Obj} {v : Value} (r : Res G f env R) (hx : (x, Slot.cel c) ∈ R) (hm : (c, o) ∈ n) (hd : o.data = .cell (some v)) (h : Q v vs n) : Wp G f A (loadName env x) vs n Q E := by
  constructor; intro s S
  obtain ⟨k, hc, _, hd'⟩ := r.ok _ _ hx
  rcases k with k | k
  · exact wpAny_loadName_cell r.kind k hc ⟨o, S.get hm, hd⟩ ⟨_, _, S, h⟩
  · exact wpAny_loadName_free r.kind k hc ⟨o, S.get hm, hd⟩ ⟨_, _, S, h⟩ hd'
theorem Wp.nml {i : Nat} {v : Value} (r : Res G f env R) (hx : (x, Slot.loc i) ∈ R) (hv : vs[i]? = some (some v)) (h : Q v vs n) : Wp G f A (eval (.Name x pos) env) vs n Q E :=
  ⟨fun s S => wpAny_Name ((Wp.ldl r hx hv h).run s S) (r.ok _ _ hx).2.2⟩
theorem Wp.nmc {c : Addr} {o : Obj} {v : Value} (r : Res G f env R) (hx : (x, Slot.cel c) ∈ R) (hm : (c, o) ∈ n) (hd : o.data = .cell (some v)) (h : Q v vs n) : Wp G f A (eval (.Name x pos) env) vs n Q E :=
  ⟨fun s S => wpAny_Name ((Wp.ldc r hx hm hd h).run s S) (r.ok _ _ hx).2.2.1⟩
theorem Wp.nmg {v : Value} (r : Res G f env R) (hx : (x, Slot.glo v) ∈ R) (h : Q v vs n) : Wp G f A (eval (.Name x pos) env) vs n Q E := by
  constructor; intro s S
  obtain ⟨k, e, hd⟩ := r.ok _ _ hx
  refine Name_function_global r.kind k (loadGlobal_global (mg := G.mg) ?_ (mg_of S.X S.T.g e) ⟨_, _, S, h⟩) hd
  rw [r.glob]; exact S.T.g.keeps S.F.keep
theorem Wp.nmb {v : Value} (r : Res G f env R) (hx : (x, Slot.bui v) ∈ R) (h : Q v vs n) : Wp G f A (eval (.Name x pos) env) vs n Q E := by
  constructor; intro s S
  obtain ⟨k, e, hb, hn, hd⟩ := r.ok _ _ hx
  refine Name_function_global r.kind k (loadGlobal_builtin (mg := G.mg) (mb := G.mb) ?_ (mg_none_of S.X S.T.g e) ?_ ((S.T.builtins x (beq_eq_false_iff_ne.mp hn)).trans hb) ⟨_, _, S, h⟩) hd
  · rw [r.glob]; exact S.T.g.keeps S.F.keep
  · rw [r.bui]; exact S.T.b.keeps S.F.keep
end

/-! stores -/
section
variable {R : List (Str × Slot)} {x : Str} {pos : Pos}
theorem St.setL {i : Nat} {v : Value} {s : Shared} {h' : Heap} (S : St G f vs n s) (nd : f.ns.Nodup) (hx : f.ns[i]? = some x) (hi : i < vs.length)
    (hn : h'.Ns f.L (fun y => if y = x then some v else look f.ns vs y)) (hs : Heap.SameBut f.L s.heap h') : St G f (vs.set i (some v)) n { s with heap := h', toks := s.toks + 1 } := by
  obtain ⟨F, X, T, g, o, nJ, N, J⟩ := S
  exact ⟨F.set (look_set nd hx hi ▸ hn) hs, X, T, g, o, nJ, N.set hs, J⟩
theorem Wp.stl {i : Nat} {v : Value} {Q : Unit → Vals → Led → Prop} (r : Res G f env R) (hx : (x, Slot.loc i) ∈ R) (hi : i < vs.length) (h : Q () (vs.set i (some v)) n) : Wp G f A (storeName env x v) vs n Q E := by
  constructor; intro s S
  obtain ⟨k, hn, _⟩ := r.ok _ _ hx
  refine wpAny_storeName_local k (r.loc ▸ S.F.ns) (fun h' hn' hs' => ⟨_, _, S.setL r.nd hn hi (r.loc ▸ hn') (r.loc ▸ hs'), h⟩) ?_
  rw [r.kind]; rfl
end
end
end

section
open PySem PySem.Spec PySem.Calls PyProof.Rows PySem.W

def cellObj (v : Option Value) : Obj := { cls := .type "cell", data := .cell v }
def cellLed : Nat → List (Str × NameKind) → Led
  | _, [] => []
  | k, (_, kind) :: r => if kind == .cell then (k, cellObj none) :: cellLed (k + 1) r else cellLed k r

theorem pushCells_led : ∀ (names : List (Str × NameKind)) (h : Heap), ∀ p ∈ cellLed h.objs.size names, (pushCells h names).get? p.1 = some p.2 ∧ h.objs.size ≤ p.1
  | [], _, _, hp => by cases hp
  | (x, kind) :: r, h, p, hp => by
    unfold cellLed at hp
    unfold pushCells
    split at hp
    · rename_i hk
      rw [if_pos hk]
      rcases List.mem_cons.mp hp with rfl | hp
      · exact ⟨pushCells_keeps r _ _ _ (Heap.get?_push_size _ rfl), Nat.le_refl _⟩
      · have hz : (h.push (cellObj none)).objs.size = h.objs.size + 1 := Heap.size_push ..
        have := pushCells_led r (h.push (cellObj none)) p (by rw [hz]; exact hp)
        exact ⟨this.1, by have := this.2; rw [hz] at this; omega⟩
    · rename_i hk
      rw [if_neg hk]
      exact pushCells_led r h p hp
theorem cellObj_tm (v : Option Value) : Tm (cellObj v) := ⟨fun e => (by cases e), fun _ e => by cases e⟩
theorem cellLed_noFn : ∀ (names : List (Str × NameKind)) (k : Nat), ∀ p ∈ cellLed k names, Tm p.2
  | [], _, _, hp => by cases hp
  | (x, kind) :: r, k, p, hp => by
    unfold cellLed at hp
    split at hp
    · rcases List.mem_cons.mp hp with rfl | hp
      · exact cellObj_tm _
      · exact cellLed_noFn r _ p hp
    · exact cellLed_noFn r _ p hp

/-- the ledger with c's object changed -/
def upd (n : Led) (c : Addr) (o' : Obj) : Led := n.map fun p => if p.1 = c then (c, o') else p
theorem mem_upd {n : Led} {c : Addr} {o' : Obj} {p : Addr × Obj} (h : p ∈ upd n c o') : (p = (c, o') ∧ ∃ o, (c, o) ∈ n) ∨ (p ∈ n ∧ p.1 ≠ c) := by
  obtain ⟨q, hq, e⟩ := List.mem_map.mp h
  by_cases hc : q.1 = c
  · rw [if_pos hc] at e; exact .inl ⟨e.symm, q.2, hc ▸ hq⟩
  · rw [if_neg hc] at e; subst e; exact .inr ⟨hq, hc⟩
theorem mem_upd_ne {n : Led} {c a : Addr} {o' o : Obj} (h : (a, o) ∈ n) (hne : a ≠ c) : (a, o) ∈ upd n c o' := List.mem_map.mpr ⟨_, h, if_neg hne⟩
theorem mem_upd_self {n : Led} {c : Addr} {o' o : Obj} (h : (c, o) ∈ n) : (c, o') ∈ upd n c o' := List.mem_map.mpr ⟨_, h, if_pos rfl⟩
theorem upd_upd (n : Led) (c : Addr) (o o' : Obj) : upd (upd n c o) c o' = upd n c o' := by
  unfold upd
  rw [List.map_map]
  refine List.map_congr_left fun p _ => ?_
  simp only [Function.comp]
  by_cases h : p.1 = c
  · simp [h]
  · simp [h]
theorem upd_cons (n : Led) (c : Addr) (o o' : Obj) : upd ((c, o) :: n) c o' = (c, o') :: upd n c o' := by simp [upd]
theorem upd_cons_ne {n : Led} {c a : Addr} {o o' : Obj} (h : a ≠ c) : upd ((a, o) :: n) c o' = (a, o) :: upd n c o' := by simp [upd, h]
theorem upd_id {n : Led} {c : Addr} {o' : Obj} (h : ∀ p ∈ n, p.1 ≠ c) : upd n c o' = n := by
  unfold upd
  conv => rhs; rw [← List.map_id n]
  exact List.map_congr_left fun p hp => if_neg (h p hp)
theorem upd_same {n : Led} {c : Addr} {o : Obj} (h : ∀ o', (c, o') ∈ n → o' = o) : upd n c o = n := by
  unfold upd
  conv => rhs; rw [← List.map_id n]
  refine List.map_congr_left fun p hp => ?_
  by_cases e : p.1 = c
  · rw [if_pos e]
    have := h p.2 (e ▸ hp)
    rw [← this, ← e]; rfl
  · rw [if_neg e]; rfl

section
variable {G : Gl} {f : Fk} {A : Around} {vs : Vals} {n : Led} {E : Value → Shared → Prop} {env : Env}

theorem JL.upd {nJ : Led} {c : Addr} {o' : Obj} (J : JL G n nJ) (h : Tm o') : JL G (upd n c o') nJ := let ⟨S, s, t, k⟩ := J.ex; ⟨⟨S, s, t, fun f oc od fd sl hm => by
  rcases mem_upd hm with ⟨e, _⟩ | ⟨hm, _⟩
  · cases e; exact absurd rfl (h.f fd)
  · exact k _ _ _ _ _ hm⟩, J.fl, fun p hp => by
  rcases mem_upd hp with ⟨e, _⟩ | ⟨hp, _⟩
  · rw [e]; exact h.c
  · exact J.pc p hp⟩
theorem JL.cons {nJ : Led} {c : Addr} {o' : Obj} (J : JL G n nJ) (h : Tm o') : JL G ((c, o') :: n) nJ := let ⟨S, s, t, k⟩ := J.ex; ⟨⟨S, s, t, fun f oc od fd sl hm => by
  rcases List.mem_cons.mp hm with e | hm
  · cases e; exact absurd rfl (h.f fd)
  · exact k _ _ _ _ _ hm⟩, J.fl, fun p hp => by
  rcases List.mem_cons.mp hp with e | hp
  · rw [e]; exact h.c
  · exact J.pc p hp⟩
theorem JL.app {nJ m : Led} (J : JL G n nJ) (h : ∀ p ∈ m, Tm p.2) : JL G (m ++ n) nJ := let ⟨S, s, t, k⟩ := J.ex; ⟨⟨S, s, t, fun f oc od fd sl hm => by
  rcases List.mem_append.mp hm with hm | hm
  · exact absurd rfl ((h _ hm).f fd)
  · exact k _ _ _ _ _ hm⟩, J.fl, fun p hp => (List.mem_append.mp hp).elim (fun q => (h p q).c) (J.pc p)⟩

theorem Has.obj {K : Frag} {h₀ h : Heap} {L : Addr} {m : Str → Option Value} {nJ news : Led} (F : Fr h₀ L h m) (X : K.In h₀) (N : News h₀ L h news) (hs : ∀ p ∈ nJ, p ∈ news) {a : Addr} {o : Obj} (H : Has K nJ a o) : h.get? a = some o := by
  rcases H with H | H
  · exact (N _ (hs _ H)).1
  · exact F.keep _ _ (X _ _ H)

/-- a rule that changes one own object, asked for over a ledger where it stands alone ahead -/
theorem St.viaU {s : Shared} {c : Addr} {o : Obj} (S : St G f vs n s) (hm : (c, o) ∈ n) (ho : Pc o) : ∃ rest, News f.h₀ f.L s.heap ((c, o) :: rest) ∧ (∀ p ∈ rest, p.1 ≠ c) ∧
    ∀ h' k o', Fr f.h₀ f.L h' (look f.ns vs) → News f.h₀ f.L h' ((c, o') :: rest) → Tm o' → St G f vs (upd n c o') { s with heap := h', toks := k } := by
  obtain ⟨F, X, T, g, os, nJ, N, J⟩ := S
  have hc := N _ (List.mem_append_left _ hm)
  refine ⟨(n ++ nJ).filter fun p => p.1 ≠ c, fun p hp => ?_, fun p hp => by simpa using (List.mem_filter.mp hp).2, fun h' k o' F' N' ho' => ⟨F', X, T, g, os, nJ, fun p hp => ?_, J.upd ho'⟩⟩
  · rcases List.mem_cons.mp hp with rfl | hp
    · exact hc
    · exact N p (List.mem_filter.mp hp).1
  · rcases List.mem_append.mp hp with q | q
    · rcases mem_upd q with ⟨e, _⟩ | ⟨q, hne⟩
      · rw [e]; exact N' _ (.head _)
      · exact N' _ (.tail _ (List.mem_filter.mpr ⟨List.mem_append_left _ q, by simpa using hne⟩))
    · refine N' _ (.tail _ (List.mem_filter.mpr ⟨List.mem_append_right _ q, ?_⟩))
      have hw := J.fl p q
      have : p.1 ≠ c := fun e => by
        have z := (N p (List.mem_append_right _ q)).1
        rw [e, hc.1] at z
        cases z
        exact hw.elim ho.1 ho.2
      simpa using this

/-! a call of a def of the text, or of a closure -/
structure FnIs (h : Heap) (fa : Addr) (fd : FuncData) : Prop where
  at_ : ∃ oc od sl, h.get? fa = some ⟨oc, od, .func fd, sl⟩
  rc : h.CodeRec fd.code fd.qualname

theorem FnIs.ofK {s : Shared} {fa : Addr} {fd : FuncData} {oc od sl} (S : St G f vs n s) (hl : G.K.lookup fa = some ⟨oc, od, .func fd, sl⟩) (hc : codeIn G.K fd.code fd.qualname = true) : FnIs s.heap fa fd :=
  ⟨⟨oc, od, sl, S.F.keep _ _ (S.X _ _ hl)⟩, codeRec_of (S.X.keeps S.F.keep) hc⟩
theorem FnIs.ofN {s : Shared} {fa : Addr} {fd : FuncData} {oc od sl} (S : St G f vs n s) (hm : (fa, (⟨oc, od, .func fd, sl⟩ : Obj)) ∈ n) : FnIs s.heap fa fd := by
  refine ⟨⟨oc, od, sl, S.get hm⟩, ?_⟩
  obtain ⟨F, X, T, g, os, nJ, N, J⟩ := S
  obtain ⟨⟨S', _, _, k⟩, _⟩ := J
  obtain ⟨c', oc', e, H, ⟨ws, t, hd, hv⟩, _⟩ := k _ _ _ _ _ hm
  exact ⟨c', oc', ws, t, e, H.obj F X N (fun p q => List.mem_append_right _ q), hd, hv⟩

/-- where the arguments go -/
inductive Pl (f : Fk) (env : Env) (R : List (Str × Slot)) : List (Str × Value) → Vals → Led → Vals → Led → Prop
  | nil {vs : Vals} {n : Led} : Pl f env R [] vs n vs n
  | loc {x : Str} {v : Value} {r : List (Str × Value)} {i : Nat} {vs vs' : Vals} {n n' : Led} (hx : (x, Slot.loc i) ∈ R) (hi : i < vs.length) (h : Pl f env R r (vs.set i (some v)) n vs' n') : Pl f env R ((x, v) :: r) vs n vs' n'
  | cel {x : Str} {v : Value} {r : List (Str × Value)} {c : Addr} {u : Option Value} {vs vs' : Vals} {n n' : Led} (hk : env.kindOf x = some .cell) (hx : (x, Slot.cel c) ∈ R) (hm : (c, cellObj u) ∈ n) (h : Pl f env R r vs (upd n c (cellObj (some v))) vs' n') : Pl f env R ((x, v) :: r) vs n vs' n'

theorem Wp.stc {R : List (Str × Slot)} {x : Str} {c : Addr} {u : Option Value} {v : Value} {Q : Unit → Vals → Led → Prop} (r : Res G f env R) (hx : (x, Slot.cel c) ∈ R) (hk : env.kindOf x = some .cell)
    (hm : (c, cellObj u) ∈ n) (h : Q () vs (upd n c (cellObj (some v)))) : Wp G f A (storeName env x v) vs n Q E := by
  constructor; intro s S
  obtain ⟨_, hc, _, _⟩ := r.ok _ _ hx
  unfold storeName
  simp only [hk, r.kind]
  refine wpAny_bind (wpAny_cellOf hc ?_)
  unfold cellSet
  refine wpAny_bind (wpAny_load (S.get hm) ?_)
  obtain ⟨rest, N, hne, back⟩ := S.viaU hm ⟨(fun e => by cases e), fun e => by simp [cellObj] at e⟩
  have U := news_upd (pre := []) (f := fun o => { o with data := .cell (some v) }) (o' := cellObj (some v)) S.F N (fun p hp => by cases hp) hne rfl rfl
  exact wpAny_update (S.get hm) ⟨_, _, back _ s.toks (cellObj (some v)) U.1 U.2 (cellObj_tm _), h⟩

theorem Wp.binds {R : List (Str × Slot)} (r : Res G f env R) (F : Str × Value → PUnit → Sem (ForInStep PUnit)) (hF : ∀ x v u, F (x, v) u = (do storeName env x v; Pure.pure (ForInStep.yield ⟨⟩))) {binds : List (Str × Value)} {vs' : Vals} {n' : Led} (P : Pl f env R binds vs n vs' n') :
    ∀ {Q : PUnit → Vals → Led → Prop}, Q ⟨⟩ vs' n' → Wp G f A (forIn binds ⟨⟩ F) vs n Q E := by
  induction P with
  | nil => intro Q h; rw [List.forIn_nil]; exact Wp.pure h
  | loc hx hi _ ih => intro Q h; rw [List.forIn_cons, hF]; exact Wp.bind (Wp.bind (Wp.stl r hx hi (Wp.pure (ih h))))
  | cel hk hx hm _ ih => intro Q h; rw [List.forIn_cons, hF]; exact Wp.bind (Wp.bind (Wp.stc r hx hk hm (Wp.pure (ih h))))

theorem look_none (ns : List Str) : look ns (List.replicate ns.length none) = fun _ => none := by
  funext y
  induction ns with
  | nil => rfl
  | cons x r ih =>
    show (if y = x then none else look r (List.replicate r.length none) y) = none
    split
    · rfl
    · exact ih

/-- the frame, its cells: a new frame's start -/
theorem newEnv_St {s : Shared} (S : St G f vs n s) (names : List (Str × NameKind)) (ns : List Str) (fc : Value) :
    ∃ g : Heap, f.h₀.StaysIn g ∧ (∀ p ∈ n, p.1 < s.heap.objs.size) ∧
      St G ⟨g, s.heap.objs.size, ns⟩ (List.replicate ns.length none) (cellLed (s.heap.objs.size + 1) names ++ n) { s with heap := pushCells (s.heap.push { cls := fc, data := .dict #[] }) names } ∧
      f.L < s.heap.objs.size ∧ (∀ s' vs' n', St G ⟨g, s.heap.objs.size, ns⟩ vs' n' s' → s'.heap.Ns f.L (look f.ns vs)) ∧
      ∀ s' vs' n' h' k vs2, St G ⟨g, s.heap.objs.size, ns⟩ vs' n' s' → h'.Ns f.L (look f.ns vs2) → (∀ b o, b ≠ s.heap.objs.size → b ≠ f.L → s'.heap.get? b = some o → h'.get? b = some o) → St G f vs2 n' { s' with heap := h', toks := k } := by
  obtain ⟨F, X, T, g, os, nJ, N, J⟩ := S
  have nm : ∀ b o, f.h₀.get? b = some o → b ∉ (n ++ nJ).map (fun p => p.1) := fun b o e q => by
    obtain ⟨p, hp, rfl⟩ := List.mem_map.mp q
    rw [(N p hp).2.2] at e; cases e
  have st : f.h₀.StaysIn (hideAll s.heap ((n ++ nJ).map (fun p => p.1))) := fun b o e => hideAll_get _ (F.keep b o e) (nm b o e)
  have nL : f.L ∉ (n ++ nJ).map (fun p => p.1) := fun q => by
    obtain ⟨p, hp, e⟩ := List.mem_map.mp q
    exact (N p hp).2.1 e
  have hz : (s.heap.push { cls := fc, data := .dict #[] }).objs.size = s.heap.objs.size + 1 := Heap.size_push ..
  have keep : ∀ b o, s.heap.get? b = some o → (pushCells (s.heap.push { cls := fc, data := .dict #[] }) names).get? b = some o := fun b o e => pushCells_keeps _ _ _ _ (Heap.get?_push_of_some _ e)
  refine ⟨hideAll s.heap ((n ++ nJ).map (fun p => p.1)), st, fun p hp => Heap.lt_size (N p (List.mem_append_left _ hp)).1, ⟨⟨?_, fun b o e => keep b o (of_hideAll _ e), Nat.le_of_eq (hideAll_size _ _)⟩, by exact Frag.In.keeps X st, by exact Top.keeps T st, g, os, nJ, fun p hp => ?_, J.app (cellLed_noFn _ _)⟩, F.ns.lt, fun s' vs' n' S' => ?_, fun s' vs' n' h' k vs2 S' hns hb => ?_⟩
  · show Heap.Ns _ _ (look ns (List.replicate ns.length none))
    rw [look_none]
    exact (Heap.Ns.new s.heap fc).keeps (pushCells_keeps _ _)
  · rw [List.append_assoc] at hp
    rcases List.mem_append.mp hp with hp | hp
    · have z := pushCells_led names (s.heap.push { cls := fc, data := .dict #[] }) p (by rw [hz]; exact hp)
      rw [hz] at z
      refine ⟨z.1, Nat.ne_of_gt z.2, ?_⟩
      exact Heap.get?_none_of_le (by rw [hideAll_size]; omega)
    · exact ⟨keep _ _ (N p hp).1, Nat.ne_of_lt (Heap.lt_size (N p hp).1), hideAll_none _ (List.mem_map_of_mem hp)⟩
  · obtain ⟨F', _⟩ := S'
    obtain ⟨oL, es, ep, hL, hLd, hLk, hLf⟩ := F.ns
    exact ⟨oL, es, ep, F'.keep f.L oL (hideAll_get ((n ++ nJ).map (fun p => p.1)) hL nL), hLd, hLk, hLf⟩
  · obtain ⟨F', _, _, g', os', nJ', N', J'⟩ := S'
    have hgn : (hideAll s.heap ((n ++ nJ).map (fun p => p.1))).get? s.heap.objs.size = none := Heap.get?_none_of_le (Nat.le_of_eq (hideAll_size _ _))
    obtain ⟨oL, es, ep, hL, hLd, hLk, hLf⟩ := F.ns
    have hLg := hideAll_get ((n ++ nJ).map (fun p => p.1)) hL nL
    have hnL : ∀ p ∈ n' ++ nJ', p.1 ≠ f.L := fun p hp q => by
      have := (N' p hp).2.2; rw [q, hLg] at this; cases this
    refine ⟨⟨hns, fun b o e => hb _ _ (fun q => ?_) (fun q => ?_) (F'.keep b o (st b o e)), F.above⟩, X, T, g', os', nJ', fun p hp => ⟨hb _ _ (N' p hp).2.1 (hnL p hp) (N' p hp).1, hnL p hp, ?_⟩, J'⟩
    · have := st b o e; rw [q, hgn] at this; cases this
    · have := Heap.lt_size e; rw [q] at this; exact absurd this (Nat.not_lt.mpr F.above)
    · cases q : f.h₀.get? p.1 with
      | none => rfl
      | some o => have := (N' p hp).2.2; rw [st _ _ q] at this; cases this

def callE (A : Around) (env : Env) (E : Value → Shared → Prop) (M : Model) : Value → Shared → Prop :=
  fun e s' => wpAny M (A.deeper env) (leaving env e) (fun _ s'' => E e s'') (fun e' s'' => E e' s'') s'

def retOf : Flow → Value
  | .ret v => v
  | _ => .none

theorem Wp.callFn {fa : Addr} {fd : FuncData} {body : List Stmt} {args : List Value} {kw : List (Str × Value)} {binds : List (Str × Value)} {ns : List Str} {Q : Value → Vals → Led → Prop}
    (hroom : A.depth < recursionLimit) (hf : ∀ s, St G f vs n s → FnIs s.heap fa fd) (hbody : fd.body = .stmts body) (hb : ∀ s, St G f vs n s → BindsTo s fd ⟨args, kw⟩ binds)
    (h : ∀ g L env, env = newEnv fd.scope L fd.globals (cellsFrom (L + 1) fd.scope.names fd.closure) (fd.qualname ++ ".<locals>.") (some fa) fd.code none fd.builtins → (∀ p ∈ n, p.1 < L) →
      ∃ R vs' n', Res G ⟨g, L, ns⟩ env R ∧ Pl ⟨g, L, ns⟩ env R binds (List.replicate ns.length none) (cellLed (L + 1) fd.scope.names ++ n) vs' n' ∧
        Wp G ⟨g, L, ns⟩ (A.deeper env) (execs body env) vs' n' (fun fl _ n'' => ∃ n₃, (∀ p ∈ n₃, p ∈ n'') ∧ Q (retOf fl) vs n₃) (callE A env E (model G.prog G.w)))
    (hco : fd.scope.isCoroutine = false := by rfl) (hgen : fd.scope.isGenerator = false := by rfl) : Wp G f A (call (.ref fa) args kw) vs n Q E := by
  constructor; intro s S
  obtain ⟨⟨oc, od, sl, ho⟩, hrc⟩ := hf s S
  obtain ⟨g, st, hlt, S', _, nsf, back⟩ := newEnv_St S fd.scope.names ns (.type "frame")
  obtain ⟨R, vs', n', r, P, W⟩ := h g s.heap.objs.size _ rfl hlt
  refine wpAny_call (codeAny_call_function hroom ho rfl hco hgen hbody hrc (hb s S _ _ _ _ ?_))
  unfold newFunctionEnv
  simp only [Option.isSome_none, Bool.false_eq_true, if_false]
  refine wpAny_bind (wpAny_alloc ?_)
  refine wpAny_bind (wpAny_layCells _ (fun name kind cells => by cases hkc : kind == NameKind.cell <;> simp) _ _ _ _ ?_)
  rw [show ({ s with heap := s.heap.push { cls := .type "frame", data := .dict #[] } } : Shared).heap.objs.size = s.heap.objs.size + 1 from Heap.size_push ..]
  refine wpAny_bind (wpAny_mono ((Wp.binds (A := A.in1) (E := fun e s' => match (Except.error e : Result) with | .ok (.ret v) => ∃ vs' n', St G f vs' n' s' ∧ Q v vs' n' | .ok _ => False | .error e => E e s') r _ (fun _ _ _ => rfl) P (Q := fun _ v m => v = vs' ∧ m = n') ⟨rfl, rfl⟩).run _ S') (fun _ s₂ ⟨v₂, n₂, S₂, e1, e2⟩ => ?_) fun _ _ x => x)
  subst e1 e2
  refine wpAny_pure ⟨S₂.T.nolimit.keeps S₂.F.keep, codeAny_func (wpAny_mono (W.run s₂ S₂) (fun fl s₃ ⟨v₃, n₃, S₃, m, hs, q⟩ => ?_) fun _ _ x => x)⟩
  have := back s₃ _ _ _ s₃.toks vs (S₃.sub hs) (nsf _ _ _ S₃) fun _ _ _ _ e => e
  cases fl <;> exact ⟨_, _, this, q⟩
end
end

section
open PySem PySem.Spec PySem.Calls PyProof.Rows PySem.W

section
variable {G : Gl} {f : Fk} {A : Around} {vs : Vals} {n : Led} {E : Value → Shared → Prop} {env : Env}

/-! a rule over wpAny with one open place, as a rule over Wp -/
theorem Wp.up1 {α β : Type} {t : Sem α} {m : Sem β} {Q : α → Vals → Led → Prop} {P : β → Vals → Led → Prop}
    (rule : ∀ s, wpAny (model G.prog G.w) A m (fun b s' => ∃ vs' n', St G f vs' n' s' ∧ P b vs' n') E s → wpAny (model G.prog G.w) A t (fun a s' => ∃ vs' n', St G f vs' n' s' ∧ Q a vs' n') E s)
    (h : Wp G f A m vs n P E) : Wp G f A t vs n Q E := ⟨fun s S => rule s (h.run s S)⟩

theorem Wp.release {ws keep : List Value} {Q : Unit → Vals → Led → Prop} (h : Q () vs n) : Wp G f A (release ws keep) vs n Q E := by
  constructor; intro s S Γ p _
  rw [Sem.wp_release]; exact ⟨_, _, S, h⟩
theorem Wp.operate {ws : List Value} {m : Sem Value} {Q : Value → Vals → Led → Prop} (h : Wp G f A m vs n Q E) : Wp G f A (operate ws m) vs n Q E := by
  unfold PySem.operate
  exact Wp.bind (Wp.holding (h.monoQ fun r vs1 n1 q => Wp.bind (Wp.release (Wp.pure q))))

section
variable {Q : Value → Vals → Led → Prop} {k : Nat} {pos : Pos}
theorem Wp.cint {i : Int} (h : ∀ t, Q (.int i t) vs n) : Wp G f A (eval (.Constant (.int i) k pos) env) vs n Q E := Wp.toks fun _ _ _ q => wpAny_Constant_int (q _ _ (h _))
theorem Wp.cstr {x : Str} (h : ∀ t, Q (.str x t) vs n) : Wp G f A (eval (.Constant (.str x) k pos) env) vs n Q E := Wp.toks fun _ _ _ q => wpAny_Constant_str (q _ _ (h _))
theorem Wp.cbytes {x : List UInt8} (h : ∀ t, Q (.bytes x.toArray t) vs n) : Wp G f A (eval (.Constant (.bytes x) k pos) env) vs n Q E := Wp.toks fun _ _ _ q => Constant_bytes (q _ _ (h _))
theorem Wp.cbool {b : Bool} (h : Q (.bool b) vs n) : Wp G f A (eval (.Constant (.bool b) k pos) env) vs n Q E := ⟨fun _ S => Constant_bool ⟨_, _, S, h⟩⟩
theorem Wp.cnone (h : Q .none vs n) : Wp G f A (eval (.Constant .none k pos) env) vs n Q E := ⟨fun _ S => Constant_none ⟨_, _, S, h⟩⟩

theorem Wp.bin {l r : Expr} {op : Operator} (h : Wp G f A (eval l env) vs n (fun a vs1 n1 => Wp G f A (eval r env) vs1 n1 (fun b vs2 n2 => Wp G f A (binaryOp op a b) vs2 n2 Q E) E) E) :
    Wp G f A (eval (.BinOp l op r pos) env) vs n Q E :=
  ⟨fun s S => wpAny_BinOp (wpAny_mono (h.run s S) (fun _ s1 ⟨_, _, S1, q1⟩ => wpAny_mono (q1.run s1 S1) (fun _ s2 ⟨_, _, S2, q2⟩ => q2.run s2 S2) fun _ _ x => x) fun _ _ x => x)⟩
theorem Wp.cmp {l r : Expr} {op : CmpOp} (h : Wp G f A (eval l env) vs n (fun a vs1 n1 => Wp G f A (eval r env) vs1 n1 (fun b vs2 n2 => Wp G f A (compareOp op a b) vs2 n2 Q E) E) E)
    (hm : behindInMarks op r = false := by with_unfolding_all rfl) : Wp G f A (eval (.Compare l [op] [r] pos) env) vs n Q E :=
  ⟨fun s S => wpAny_Compare1 (wpAny_mono (h.run s S) (fun _ s1 ⟨_, _, S1, q1⟩ => wpAny_mono (q1.run s1 S1) (fun _ s2 ⟨_, _, S2, q2⟩ => q2.run s2 S2) fun _ _ x => x) fun _ _ x => x) hm⟩
theorem Wp.usub {x : Expr} (h : Wp G f A (eval x env) vs n (fun a vs1 n1 => Wp G f A (unaryOp .USub a) vs1 n1 Q E) E) : Wp G f A (eval (.UnaryOp .USub x pos) env) vs n Q E := by
  constructor; intro s S
  rw [arm_eval_UnaryOp]
  exact (Wp.bind (m := eval x env) (h.monoQ fun a vs1 n1 q => Wp.bind (Wp.standAt (Wp.holding q)))).run s S
theorem Wp.ifExp {test b o : Expr} (h : Wp G f A (isTrue test env (eval test env)) vs n (fun c vs1 n1 => (c = true → Wp G f A (eval b env) vs1 n1 Q E) ∧ (c = false → Wp G f A (eval o env) vs1 n1 Q E)) E) :
    Wp G f A (eval (.IfExp test b o pos) env) vs n Q E := by
  constructor; intro s S
  rw [arm_eval_IfExp]
  refine (Wp.bind (m := isTrue test env (eval test env)) (h.monoQ fun c vs1 n1 q => ?_)).run s S
  cases c
  · exact q.2 rfl
  · exact q.1 rfl
end

/-! tests -/
section
variable {Q : Bool → Vals → Led → Prop} {pos : Pos} {whole : Sem Value}
theorem Wp.tcmp {l r : Expr} {op : CmpOp} (h : Wp G f A (eval l env) vs n (fun a vs1 n1 => Wp G f A (eval r env) vs1 n1 (fun b vs2 n2 => Wp G f A (compareOp op a b) vs2 n2 (fun c vs3 n3 => Wp G f A (truthy c) vs3 n3 Q E) E) E) E)
    (hm : behindInMarks op r = false := by with_unfolding_all rfl) : Wp G f A (isTrue (.Compare l [op] [r] pos) env whole) vs n Q E :=
  ⟨fun s S => wpAny_isTrue_Compare1 (wpAny_mono (h.run s S) (fun _ s1 ⟨_, _, S1, q1⟩ => wpAny_mono (q1.run s1 S1) (fun _ s2 ⟨_, _, S2, q2⟩ => wpAny_mono (q2.run s2 S2) (fun _ s3 ⟨_, _, S3, q3⟩ => q3.run s3 S3) fun _ _ x => x) fun _ _ x => x) fun _ _ x => x) hm⟩
theorem Wp.tnot {x : Expr} (h : Wp G f A (isTrue x env (eval x env)) vs n (fun c => Q (!c)) E) : Wp G f A (isTrue (.UnaryOp .Not x pos) env whole) vs n Q E := ⟨fun s S => isTrue_not (h.run s S)⟩
theorem Wp.tplain {e : Expr} (h : Wp G f A whole vs n (fun v vs1 n1 => Wp G f A (truthy v) vs1 n1 Q E) E)
    (he : isTrue e env whole = (do let v ← whole; PySem.standAt e.pos; PySem.holding [v] (truthy v)) := by rfl) : Wp G f A (isTrue e env whole) vs n Q E :=
  ⟨fun s S => isTrue_plain (wpAny_mono (h.run s S) (fun _ s1 ⟨_, _, S1, q1⟩ => q1.run s1 S1) fun _ _ x => x) he⟩
theorem Wp.tor {x : Expr} {rest : List Expr} (h : Wp G f A (isTrue x env (eval x env)) vs n (fun c vs1 n1 => (c = true → Q true vs1 n1) ∧ (c = false → Wp G f A (isTrue (.BoolOp .Or rest pos) env whole) vs1 n1 Q E)) E) :
    Wp G f A (isTrue (.BoolOp .Or (x :: rest) pos) env whole) vs n Q E := by
  constructor; intro s S
  rw [arm_isTrue_BoolOp, arm_allTrue_cons]
  refine (Wp.bind (m := isTrue x env (eval x env)) (h.monoQ fun c vs1 n1 q => ?_)).run s S
  cases c
  · exact q.2 rfl
  · exact Wp.pure (q.1 rfl)
theorem Wp.tor0 (h : Q false vs n) : Wp G f A (isTrue (.BoolOp .Or [] pos) env whole) vs n Q E := ⟨fun _ S => isTrue_or_nil ⟨_, _, S, h⟩⟩
theorem Wp.tand {x : Expr} {rest : List Expr} (h : Wp G f A (isTrue x env (eval x env)) vs n (fun c vs1 n1 => (c = true → Wp G f A (isTrue (.BoolOp .And rest pos) env whole) vs1 n1 Q E) ∧ (c = false → Q false vs1 n1)) E) :
    Wp G f A (isTrue (.BoolOp .And (x :: rest) pos) env whole) vs n Q E := by
  constructor; intro s S
  rw [arm_isTrue_BoolOp, arm_allTrue_cons]
  refine (Wp.bind (m := isTrue x env (eval x env)) (h.monoQ fun c vs1 n1 q => ?_)).run s S
  cases c
  · exact Wp.pure (q.2 rfl)
  · exact q.1 rfl
theorem Wp.tand0 (h : Q true vs n) : Wp G f A (isTrue (.BoolOp .And [] pos) env whole) vs n Q E := ⟨fun _ S => isTrue_and_nil ⟨_, _, S, h⟩⟩
/-- a chain of two -/
theorem Wp.tchain {l r1 r2 : Expr} {o1 o2 : CmpOp} (h : Wp G f A (eval l env) vs n (fun a vs1 n1 => Wp G f A (eval r1 env) vs1 n1 (fun b vs2 n2 => Wp G f A (compareOp o1 a b) vs2 n2 (fun c vs3 n3 => Wp G f A (truthy c) vs3 n3 (fun d vs4 n4 =>
      (d = true → Wp G f A (eval r2 env) vs4 n4 (fun b2 vs5 n5 => Wp G f A (compareOp o2 b b2) vs5 n5 (fun c2 vs6 n6 => Wp G f A (truthy c2) vs6 n6 Q E) E) E) ∧
      (d = false → Q false vs4 n4)) E) E) E) E)
    (hm : lastMarks [o1, o2] [r1, r2] = false := by with_unfolding_all rfl) : Wp G f A (isTrue (.Compare l [o1, o2] [r1, r2] pos) env whole) vs n Q E := by
  constructor; intro s S
  rw [arm_isTrue_Compare, markedEach_of_false _ _ _ hm]
  refine (Wp.bind (m := eval l env) (h.monoQ fun a vs1 n1 q1 => ?_)).run s S
  show Wp G f A (testChain pos a [o1, o2] [eval r1 env, eval r2 env]) vs1 n1 Q E
  rw [testChain]
  · refine Wp.bind (Wp.holding (q1.monoQ fun b vs2 n2 q2 => ?_))
    refine Wp.bind (Wp.standAt (Wp.bind (Wp.holding (q2.monoQ fun c vs3 n3 q3 => ?_))))
    refine Wp.bind (Wp.release (Wp.bind (Wp.holding (q3.monoQ fun d vs4 n4 q4 => ?_))))
    cases d with
    | false => exact Wp.pure (q4.2 rfl)
    | true =>
      show Wp G f A (testChain pos b [o2] [eval r2 env]) vs4 n4 Q E
      rw [testChain]
      refine Wp.bind (Wp.holding ((q4.1 rfl).monoQ fun b2 vs5 n5 q5 => ?_))
      exact Wp.bind (Wp.standAt (Wp.bind (Wp.operate (q5.monoQ fun c2 vs6 n6 q6 => Wp.holding q6))))
  · simp
end
end
end

section
open PySem PySem.Spec PySem.Calls PyProof.Rows PySem.W

/-- room for k calls more -/
structure Rm (A : Around) (k : Nat) : Prop where
  hh : A.handled = none
  d : A.depth + k < 900
  u : A.units + 12 * k < 9800
theorem Rm.deeper {A : Around} {k : Nat} {env : Env} (r : Rm A (k + 1)) : Rm (A.deeper env) k := ⟨r.hh, by have := r.d; show A.depth + 1 + k < 900; omega, by have := r.u; show A.units + 3 + 12 * k < 9800; omega⟩
theorem Rm.le {A : Around} {k j : Nat} (r : Rm A k) (h : j ≤ k) : Rm A j := ⟨r.hh, by have := r.d; omega, by have := r.u; omega⟩
theorem Rm.room {A : Around} {k : Nat} (r : Rm A k) : A.depth < recursionLimit := by have := r.d; show _ < 1000; omega
theorem Rm.units {A : Around} {k : Nat} (r : Rm A k) : A.units < cLine := by have := r.u; show _ < 9900; omega

section
variable {G : Gl} {f : Fk} {A : Around} {vs : Vals} {n : Led} {E : Value → Shared → Prop} {env : Env}

theorem St.keep {s : Shared} {h' : Heap} (S : St G f vs n s) (hk : ∀ b o, s.heap.get? b = some o → h'.get? b = some o) (k : Nat) : St G f vs n { s with heap := h', toks := k } := by
  obtain ⟨F, X, T, g, os, nJ, N, J⟩ := S
  exact ⟨⟨F.ns.keeps hk, fun b o e => hk _ _ (F.keep b o e), F.above⟩, X, T, g, os, nJ, fun p hp => ⟨hk _ _ (N p hp).1, (N p hp).2⟩, J⟩
theorem St.extBut {s : Shared} {h' : Heap} {a : Addr} (S : St G f vs n s) (he : Heap.ExtBut a s.heap h') (ha : s.heap.objs.size ≤ a) (k : Nat) : St G f vs n { s with heap := h', toks := k } :=
  S.keep (fun b o e => he b o (Nat.ne_of_lt (Nat.lt_of_lt_of_le (Heap.lt_size e) ha)) e) k
theorem St.lt {s : Shared} (S : St G f vs n s) : ∀ p ∈ n, p.1 < s.heap.objs.size := fun p hp => Heap.lt_size (S.get (a := p.1) (o := p.2) hp)
theorem St.new {s : Shared} {h' : Heap} {a : Addr} {o : Obj} (S : St G f vs n s) (hk : ∀ b o, s.heap.get? b = some o → h'.get? b = some o) (ha : s.heap.objs.size ≤ a) (hg : h'.get? a = some o) (ho : Tm o) (k : Nat) :
    St G f vs ((a, o) :: n) { s with heap := h', toks := k } := by
  have hL : f.L < s.heap.objs.size := S.F.ns.lt
  obtain ⟨F, X, T, g, os, nJ, N, J⟩ := S
  refine ⟨⟨F.ns.keeps hk, fun b o e => hk _ _ (F.keep b o e), F.above⟩, X, T, g, os, nJ, fun p hp => ?_, J.cons ho⟩
  rcases List.mem_cons.mp hp with rfl | hp
  · exact ⟨hg, Nat.ne_of_gt (Nat.lt_of_lt_of_le hL ha), Heap.get?_none_of_le (Nat.le_trans F.above (Nat.le_trans (Nat.le_of_lt hL) ha))⟩
  · exact ⟨hk _ _ (N p hp).1, (N p hp).2⟩
theorem St.push {s : Shared} {o : Obj} (S : St G f vs n s) (ho : Tm o) (hf : o.isFreed = false) (k : Nat) : St G f vs ((s.heap.objs.size, o) :: n) { s with heap := s.heap.push o, toks := k } :=
  S.new (fun _ _ e => Heap.get?_push_of_some _ e) (Nat.le_refl _) (Heap.get?_push_size _ hf) ho k

def Lst (items : List Value) (ep : Nat := 0) : Obj := { cls := .type "list", data := .seq items.toArray ep }
def Tup (items : List Value) : Obj := { cls := .type "tuple", data := .seq items.toArray }

section
variable {Q : Value → Vals → Led → Prop} {a b : Int} {t u : Tok}
theorem Wp.add (h : ∀ t, Q (.int (a + b) t) vs n) : Wp G f A (binaryOp .Add (.int a t) (.int b u)) vs n Q E := by
  refine Wp.toks fun s R S q => ?_
  have q' := q _ (s.toks + 1) (h s.toks)
  with_reducible exact PyProof.Rows.add_int q'
theorem Wp.iadd (h : ∀ t, Q (.int (a + b) t) vs n) : Wp G f A (inplaceOp .Add (.int a t) (.int b u)) vs n Q E := by
  refine Wp.toks fun s R S q => ?_
  have q' := q _ (s.toks + 1) (h s.toks)
  with_reducible exact P.iadd_int q'
theorem Wp.sub (h : ∀ t, Q (.int (a - b) t) vs n) : Wp G f A (binaryOp .Sub (.int a t) (.int b u)) vs n Q E := by
  refine Wp.toks fun s R S q => ?_
  have q' := q _ (s.toks + 1) (h s.toks)
  with_reducible exact PyProof.Rows.sub_int q'
theorem Wp.mul (hm : IntMulOk a b) (h : ∀ t, Q (.int (a * b) t) vs n) : Wp G f A (binaryOp .Mult (.int a t) (.int b u)) vs n Q E := by
  refine Wp.toks fun s R S q => ?_
  have q' := q _ (s.toks + 1) (h s.toks)
  with_reducible exact P.mul_int q' hm
theorem Wp.fdv (hb : 0 < b) (hb' : Builtin.divisionGoesByPylong a b = false) (h : ∀ t, Q (.int (a / b) t) vs n) : Wp G f A (binaryOp .FloorDiv (.int a t) (.int b u)) vs n Q E :=
  by
  refine Wp.toks fun s R S q => ?_
  have q' := q _ (s.toks + 1) (h s.toks)
  rw [← Int.fdiv_eq_ediv_of_nonneg _ (Int.le_of_lt hb)] at q'
  have hb0 : b ≠ 0 := by omega
  with_reducible exact floordiv_int hb0 q' (.inl hb')
theorem Wp.mod (hb : 0 < b) (h : ∀ t, Q (.int (a % b) t) vs n) : Wp G f A (binaryOp .Mod (.int a t) (.int b u)) vs n Q E :=
  by
  refine Wp.toks fun s R S q => ?_
  have q' := q _ (s.toks + 1) (h s.toks)
  rw [← Int.fmod_eq_emod_of_nonneg _ (Int.le_of_lt hb)] at q'
  have hb0 : b ≠ 0 := by omega
  with_reducible exact mod_int' hb0 q'
theorem Wp.shl (hn : 0 ≤ b) (hn2 : b ≤ 1000000) (ha : a.natAbs < 2 ^ 64) (h : ∀ t, Q (.int (a * 2 ^ b.toNat) t) vs n) : Wp G f A (binaryOp .LShift (.int a t) (.int b u)) vs n Q E := by
  refine Wp.toks fun s R S q => ?_
  have q' := q _ (s.toks + 1) (h s.toks)
  with_reducible exact lshift_int_small hn hn2 ha q'
theorem pow2_nonneg (k : Nat) : (0 : Int) ≤ 2 ^ k := Int.le_of_lt (Int.pow_pos (by decide))
theorem Wp.shr (hn : 0 ≤ b) (h : ∀ t, Q (.int (a / 2 ^ b.toNat) t) vs n) : Wp G f A (binaryOp .RShift (.int a t) (.int b u)) vs n Q E :=
  by
  refine Wp.toks fun s R S q => ?_
  have q' := q _ (s.toks + 1) (h s.toks)
  rw [← Int.fdiv_eq_ediv_of_nonneg _ (pow2_nonneg _)] at q'
  with_reducible exact rshift_int hn q'
theorem Wp.ishr (hn : 0 ≤ b) (h : ∀ t, Q (.int (a / 2 ^ b.toNat) t) vs n) : Wp G f A (inplaceOp .RShift (.int a t) (.int b u)) vs n Q E :=
  by
  refine Wp.toks fun s R S q => ?_
  have q' := q _ (s.toks + 1) (h s.toks)
  rw [← Int.fdiv_eq_ediv_of_nonneg _ (pow2_nonneg _)] at q'
  with_reducible exact irshift_int hn q'
theorem Wp.band (h : ∀ t, Q (.int (Builtin.bitAnd a b) t) vs n) : Wp G f A (binaryOp .BitAnd (.int a t) (.int b u)) vs n Q E := by
  refine Wp.toks fun s R S q => ?_
  have q' := q _ (s.toks + 1) (h s.toks)
  with_reducible exact and_int q'
theorem Wp.bor (h : ∀ t, Q (.int (Builtin.bitOr a b) t) vs n) : Wp G f A (binaryOp .BitOr (.int a t) (.int b u)) vs n Q E := by
  refine Wp.toks fun s R S q => ?_
  have q' := q _ (s.toks + 1) (h s.toks)
  with_reducible exact or_int q'
theorem Wp.ibor (h : ∀ t, Q (.int (Builtin.bitOr a b) t) vs n) : Wp G f A (inplaceOp .BitOr (.int a t) (.int b u)) vs n Q E := by
  refine Wp.toks fun s R S q => ?_
  have q' := q _ (s.toks + 1) (h s.toks)
  with_reducible exact ior_int q'
theorem Wp.iband (h : ∀ t, Q (.int (Builtin.bitAnd a b) t) vs n) : Wp G f A (inplaceOp .BitAnd (.int a t) (.int b u)) vs n Q E := by
  refine Wp.toks fun s R S q => ?_
  have q' := q _ (s.toks + 1) (h s.toks)
  with_reducible exact iand_int q'
theorem Wp.neg (h : ∀ t, Q (.int (-a) t) vs n) : Wp G f A (unaryOp .USub (.int a t)) vs n Q E := by
  refine Wp.toks fun s R S q => ?_
  have q' := q _ (s.toks + 1) (h s.toks)
  with_reducible exact P.neg_int q'

theorem Wp.lt (h : Q (.bool (decide (a < b))) vs n) : Wp G f A (compareOp .Lt (.int a t) (.int b u)) vs n Q E := by
  constructor; intro s S
  have q : ∃ vs' n', St G f vs' n' s ∧ Q _ vs' n' := ⟨_, _, S, h⟩
  with_reducible exact P.lt_int q
theorem Wp.le (h : Q (.bool (decide (a ≤ b))) vs n) : Wp G f A (compareOp .LtE (.int a t) (.int b u)) vs n Q E := by
  constructor; intro s S
  have q : ∃ vs' n', St G f vs' n' s ∧ Q _ vs' n' := ⟨_, _, S, h⟩
  with_reducible exact P.le_int q
theorem Wp.gt (h : Q (.bool (decide (b < a))) vs n) : Wp G f A (compareOp .Gt (.int a t) (.int b u)) vs n Q E := by
  constructor; intro s S
  have q : ∃ vs' n', St G f vs' n' s ∧ Q _ vs' n' := ⟨_, _, S, h⟩
  with_reducible exact P.gt_int q
theorem Wp.ge (h : Q (.bool (decide (b ≤ a))) vs n) : Wp G f A (compareOp .GtE (.int a t) (.int b u)) vs n Q E := by
  constructor; intro s S
  have q : ∃ vs' n', St G f vs' n' s ∧ Q _ vs' n' := ⟨_, _, S, h⟩
  with_reducible exact P.ge_int q
theorem Wp.eq (h : Q (.bool (a == b)) vs n) : Wp G f A (compareOp .Eq (.int a t) (.int b u)) vs n Q E := by
  constructor; intro s S
  have q : ∃ vs' n', St G f vs' n' s ∧ Q _ vs' n' := ⟨_, _, S, h⟩
  with_reducible exact P.eq_int q
theorem Wp.ne (h : Q (.bool (a != b)) vs n) : Wp G f A (compareOp .NotEq (.int a t) (.int b u)) vs n Q E := by
  constructor; intro s S
  have q : ∃ vs' n', St G f vs' n' s ∧ Q _ vs' n' := ⟨_, _, S, h⟩
  with_reducible exact P.ne_int q
end
section
variable {Q : Bool → Vals → Led → Prop}
theorem Wp.trb {b : Bool} (h : Q b vs n) : Wp G f A (truthy (.bool b)) vs n Q E := by
  constructor; intro s S
  have q : ∃ vs' n', St G f vs' n' s ∧ Q _ vs' n' := ⟨_, _, S, h⟩
  with_reducible exact wpAny_truthy_bool q
theorem Wp.tri {a : Int} {t : Tok} (h : Q (a != 0) vs n) : Wp G f A (truthy (.int a t)) vs n Q E := by
  constructor; intro s S
  have q : ∃ vs' n', St G f vs' n' s ∧ Q _ vs' n' := ⟨_, _, S, h⟩
  with_reducible exact P.truthy_int q
end

/-! calls -/
def FnO (o : Obj) : Prop := ∃ oc od fd sl, o = ⟨oc, od, .func fd, sl⟩
def MthO (o : Obj) : Prop := ∃ ws, o = { cls := .type "builtin_function_or_method", data := .fields ws }
inductive KP (G : Gl) (n : Led) : Value → Prop
  | bui (id : String) : KP G n (.builtin id)
  | typ (x : String) : KP G n (.type x)
  | fnK {a : Addr} {o : Obj} (h : G.K.lookup a = some o) (ho : FnO o) : KP G n (.ref a)
  | fnN {a : Addr} {o : Obj} (h : (a, o) ∈ n) (ho : FnO o) : KP G n (.ref a)
  | mth {a : Addr} {o : Obj} (h : (a, o) ∈ n) (ho : MthO o) : KP G n (.ref a)

theorem KP.keeper {fv : Value} {s : Shared} (S : St G f vs n s) (k : KP G n fv) : ∃ q, (q = Keeper.frame ∨ q = Keeper.machine ∨ q = Keeper.boundFrame) ∧ Looks (model G.prog G.w) s.heap (keeperOf fv) q := by
  cases k with
  | bui => exact ⟨.machine, .inr (.inl rfl), .now⟩
  | typ => exact ⟨.machine, .inr (.inl rfl), .now⟩
  | fnK h ho =>
    obtain ⟨oc, od, fd, sl, rfl⟩ := ho
    exact ⟨.frame, .inl rfl, (Looks.ld (part := none) (S.F.keep _ _ (S.X _ _ h))).andThen .now⟩
  | fnN h ho =>
    obtain ⟨oc, od, fd, sl, rfl⟩ := ho
    exact ⟨.frame, .inl rfl, (Looks.ld (part := none) (S.get h)).andThen .now⟩
  | mth h ho =>
    obtain ⟨ws, rfl⟩ := ho
    refine ⟨.machine, .inr (.inl rfl), (Looks.ld (part := none) (S.get h)).andThen ?_⟩
    exact .now

theorem Wp.spl0 {Q : List Value → Vals → Led → Prop} {pos : Pos} (h : Q [] vs n) : Wp G f A (spliced (backTo pos (starEach [] env))) vs n Q E := by
  constructor; intro s S
  have q : ∃ vs' n', St G f vs' n' s ∧ Q _ vs' n' := ⟨_, _, S, h⟩
  exact spliced_nil (Q := fun a s' => ∃ vs' n', St G f vs' n' s' ∧ Q a vs' n') q
theorem Wp.spl {Q : List Value → Vals → Led → Prop} {pos : Pos} {e : Expr} {es : List Expr} (h : Wp G f A (eval e env) vs n (fun v vs1 n1 => Wp G f A (spliced (backTo pos (starEach es env))) vs1 n1 (fun ws => Q (v :: ws)) E) E)
    (he : starEach (e :: es) env = (false, eval e env) :: starEach es env := by rfl) : Wp G f A (spliced (backTo pos (starEach (e :: es) env))) vs n Q E := by
  constructor; intro s S
  rw [he]
  exact spliced_cons (wpAny_mono (h.run s S) (fun _ s1 ⟨_, _, S1, q1⟩ => q1.run s1 S1) fun _ _ x => x)

theorem Wp.callW0 {Q : Value → Vals → Led → Prop} {pos : Pos} {fv : Value} {first : List Value} (k : KP G n fv) (h : Wp G f A (call fv (first ++ [])) vs n Q E) :
    Wp G f A (callWith pos fv first (backTo pos (starEach [] env)) (backToKw pos (keywordEach [] env))) vs n Q E := by
  constructor; intro s S
  exact callWith_of (P := fun h => ∃ q, (q = Keeper.frame ∨ q = Keeper.machine ∨ q = Keeper.boundFrame) ∧ Looks (model G.prog G.w) h (keeperOf fv) q) rfl (fun _ x => x) (evalArgs_nil3 ⟨k.keeper S, h.run s S⟩)
theorem Wp.callW {Q : Value → Vals → Led → Prop} {pos : Pos} {fv : Value} {first : List Value} {e : Expr} {r : List Expr}
    (h : Wp G f A (spliced (backTo pos (starEach (e :: r) env))) vs n (fun ws vs1 n1 => KP G n1 fv ∧ Wp G f A (call fv (first ++ ws)) vs1 n1 Q E) E)
    (he : starEach (e :: r) env = (false, eval e env) :: starEach r env := by rfl) (hp : (backTo pos (starEach r env)).any (·.1) = false := by rfl) :
    Wp G f A (callWith pos fv first (backTo pos (starEach (e :: r) env)) (backToKw pos (keywordEach [] env))) vs n Q E := by
  constructor; intro s S
  rw [he] at h ⊢
  exact callWith_of (P := fun h => ∃ q, (q = Keeper.frame ∨ q = Keeper.machine ∨ q = Keeper.boundFrame) ∧ Looks (model G.prog G.w) h (keeperOf fv) q) (by show ((false || (backTo pos (starEach r env)).any (·.1)) || false) = false; rw [hp]; rfl) (fun _ x => x)
      (evalArgs_plain (wpAny_mono (h.run s S) (fun ws s' ⟨_, _, S', k, q⟩ => ⟨k.keeper S', q.run s' S'⟩) fun _ _ x => x))

/-- f(args), f a plain name -/
theorem Wp.call {Q : Value → Vals → Led → Prop} {pos : Pos} {fe : Expr} {es : List Expr} (h : Wp G f A (eval fe env) vs n (fun fv vs1 n1 => Wp G f A (callWith pos fv [] (backTo pos (starEach es env)) (backToKw pos (keywordEach [] env))) vs1 n1 Q E) E)
    (he : eval (.Call fe es [] pos) env = (do callWith pos (← eval fe env) [] (backTo pos (starEach es env)) (backToKw pos (keywordEach [] env))) := by rfl) : Wp G f A (eval (.Call fe es [] pos) env) vs n Q E := by
  constructor; intro s S
  rw [he]
  exact (Wp.bind (m := eval fe env) h).run s S
/-- o.name(args) -/
theorem Wp.meth {Q : Value → Vals → Led → Prop} {apos pos : Pos} {o : Expr} {name : Str} {es : List Expr} {pl : Sem Bool}
    (h : Wp G f A (eval o env) vs n (fun ov vs1 n1 => Wp G f A (getMethod ov name pl) vs1 n1 (fun fx vs2 n2 => Wp G f A (callWith pos fx.1 fx.2 (backTo pos (starEach es env)) (backToKw pos (keywordEach [] env))) vs2 n2 Q E) E) E)
    (he : eval (.Call (.Attribute o name apos) es [] pos) env = (do
      let ov ← eval o env
      PySem.standAt apos.atName
      let (f, first) ← PySem.holding [ov] (getMethod ov name pl)
      callWith pos f first (backTo pos (starEach es env)) (backToKw pos (keywordEach [] env))) := by rfl) : Wp G f A (eval (.Call (.Attribute o name apos) es [] pos) env) vs n Q E := by
  constructor; intro s S
  rw [he]
  refine (Wp.bind (m := eval o env) (h.monoQ fun ov vs1 n1 q => Wp.bind (Wp.standAt (Wp.bind (Wp.holding (q.monoQ fun fx vs2 n2 q2 => ?_)))))).run s S
  exact q2

/-! statements -/
theorem Wp.expr {e : Expr} {pos : Pos} {Q : Flow → Vals → Led → Prop} (h : Wp G f A (eval e env) vs n (fun v vs1 n1 => v = .none ∧ Q .next vs1 n1) E)
    (hi : interactive env = false := by rfl) (hs : swapsWith e none pos.line env = Pure.pure false := by rfl) : Wp G f A (exec (.Expr e pos) env) vs n Q E :=
  ⟨fun s S => wpAny_Expr (wpAny_mono (h.run s S) (fun v s1 ⟨_, _, S1, e1, q1⟩ => by subst e1; exact ⟨_, _, S1, q1⟩) fun _ _ x => x) hi hs⟩
theorem Wp.asg {x : Str} {pos' pos : Pos} {value : Expr} {Q : Flow → Vals → Led → Prop} (h : Wp G f A (eval value env) vs n (fun v vs1 n1 => Wp G f A (storeName env x v) vs1 n1 (fun _ => Q .next) E) E)
    (hs : swapsWith value (some (.Name x pos')) pos.line env = Pure.pure false := by rfl) : Wp G f A (exec (.Assign [.Name x pos'] value pos) env) vs n Q E :=
  ⟨fun s S => wpAny_Assign_Name (wpAny_mono (h.run s S) (fun _ s1 ⟨_, _, S1, q1⟩ => q1.run s1 S1) fun _ _ x => x) hs⟩
theorem Wp.aug {x : Str} {pos' pos : Pos} {value : Expr} {op : Operator} {Q : Flow → Vals → Led → Prop}
    (h : Wp G f A (loadName env x) vs n (fun old vs1 n1 => Wp G f A (eval value env) vs1 n1 (fun v vs2 n2 => Wp G f A (inplaceOp op old v) vs2 n2 (fun r vs3 n3 => Wp G f A (storeName env x r) vs3 n3 (fun _ => Q .next) E) E) E) E) :
    Wp G f A (exec (.AugAssign (.Name x pos') op value pos) env) vs n Q E :=
  ⟨fun s S => wpAny_AugAssign_Name (wpAny_mono (h.run s S) (fun _ s1 ⟨_, _, S1, q1⟩ => wpAny_mono (q1.run s1 S1) (fun _ s2 ⟨_, _, S2, q2⟩ => wpAny_mono (q2.run s2 S2) (fun _ s3 ⟨_, _, S3, q3⟩ => q3.run s3 S3) fun _ _ x => x) fun _ _ x => x) fun _ _ x => x)⟩

/-! tuples, lists -/
theorem Wp.newTuple {ws : List Value} {Q : Value → Vals → Led → Prop} (hsz : ws.length ≤ 1000000) (h : ∀ a, (∀ p ∈ n, p.1 < a) → Q (.ref a) vs ((a, Tup ws) :: n)) : Wp G f A (newTuple ws) vs n Q E :=
  ⟨fun s S => wpAny_newObj_type ⟨_, _, S.push (o := Tup ws) ⟨fun e => (by cases e), fun _ e => by cases e⟩ rfl s.toks, h _ S.lt⟩ (by show ws.toArray.size ≤ sizeLine; rw [List.size_toArray]; unfold sizeLine; omega)⟩
theorem Wp.newList {ws : List Value} {Q : Value → Vals → Led → Prop} (hsz : ws.length ≤ 1000000) (h : ∀ a, (∀ p ∈ n, p.1 < a) → Q (.ref a) vs ((a, Lst ws) :: n)) : Wp G f A (newList ws) vs n Q E :=
  ⟨fun s S => wpAny_newObj_type ⟨_, _, S.push (o := Lst ws) ⟨fun e => (by cases e), fun _ e => by cases e⟩ rfl s.toks, h _ S.lt⟩ (by show ws.toArray.size ≤ sizeLine; rw [List.size_toArray]; unfold sizeLine; omega)⟩
theorem Wp.tuple {es : List Expr} {k : Nat} {pos : Pos} {Q : Value → Vals → Led → Prop} (h : Wp G f A (spliced (backTo pos (starEach es env))) vs n (fun ws vs1 n1 => Wp G f A (PySem.newTuple ws) vs1 n1 Q E) E) : Wp G f A (eval (.Tuple es k pos) env) vs n Q E := by
  constructor; intro s S
  rw [arm_eval_Tuple]
  exact (Wp.bind (Wp.standAt (Wp.bind (m := spliced (backTo pos (starEach es env))) h))).run s S
theorem Wp.list {es : List Expr} {pos : Pos} {Q : Value → Vals → Led → Prop} (h : Wp G f A (spliced (backTo pos (starEach es env))) vs n (fun ws vs1 n1 => Wp G f A (PySem.newList ws) vs1 n1 Q E) E) : Wp G f A (eval (.List es pos) env) vs n Q E := by
  constructor; intro s S
  rw [arm_eval_List]
  exact (Wp.bind (Wp.standAt (Wp.bind (m := spliced (backTo pos (starEach es env))) h))).run s S
end
end

section
open PySem PySem.Spec PySem.Calls PyProof.Rows PySem.W

/-- the code of a function of the run -/
def CodeIn (G : Gl) (n : Led) (c : Addr) : Prop := c ∈ G.codes ∨ ∃ f oc od fd sl, (f, (⟨oc, od, .func fd, sl⟩ : Obj)) ∈ n ∧ fd.code = .ref c
/-- a function object, made by a def or a lambda -/
def Clo (name qual : Str) (params : Arguments) (body : FuncBody) (scope : Scope) (cl : List (Str × Addr)) (dV : Value) (o : Obj) : Prop :=
  ∃ doc pm cv ctv, o = ⟨.type "function", none, .func (kdv_fn name qual params body scope cl dV doc pm cv ctv), #[]⟩

/-- the state, a code known to be good -/
def StC (G : Gl) (f : Fk) (vs : Vals) (n : Led) (qual : Str) (c' : Addr) (s : Shared) : Prop :=
  Fr f.h₀ f.L s.heap (look f.ns vs) ∧ G.K.In f.h₀ ∧ Top G.p G.loose G.mean G.mg G.mb f.h₀ ∧ s.gens = #[] ∧ s.os = G.os ∧ ∃ nJ, News f.h₀ f.L s.heap (n ++ nJ) ∧ (∀ p ∈ nJ, p.2.cls = .none ∨ p.2.cls = .type "code") ∧ (∀ p ∈ n, p.2.cls ≠ .none) ∧
    ∃ S, JS G n nJ S ∧ S c' ∧ ∃ oc', Has G.K nJ c' oc' ∧ RecO oc' qual

section
variable {G : Gl} {f : Fk} {A : Around} {vs : Vals} {n : Led} {E : Value → Shared → Prop} {env : Env} {M : Model} {s : Shared}

theorem StC.add {qual : Str} {c' a : Addr} {h' : Heap} {oc od sl} {fd : FuncData} (S : StC G f vs n qual c' s) (hk : ∀ b o, s.heap.get? b = some o → h'.get? b = some o) (ha : s.heap.objs.size ≤ a)
    (hg : h'.get? a = some ⟨oc, od, .func fd, sl⟩) (hc : fd.code = .ref c') (hq : fd.qualname = qual) (hoc : oc ≠ .none) (k : Nat) : St G f vs ((a, ⟨oc, od, .func fd, sl⟩) :: n) { s with heap := h', toks := k } := by
  obtain ⟨F, X, T, g, os, nJ, N, fl, pc, S0, J, hS, oc', H, R⟩ := S
  have hL : f.L < s.heap.objs.size := F.ns.lt
  refine ⟨⟨F.ns.keeps hk, fun b o e => hk _ _ (F.keep b o e), F.above⟩, X, T, g, os, nJ, fun p hp => ?_, ⟨⟨S0, J.step, J.top, fun f' oc1 od1 fd1 sl1 hm => ?_⟩, fl, fun p hp => ?_⟩⟩
  · rcases List.mem_cons.mp hp with rfl | hp
    · exact ⟨hg, Nat.ne_of_gt (Nat.lt_of_lt_of_le hL ha), Heap.get?_none_of_le (Nat.le_trans F.above (Nat.le_trans (Nat.le_of_lt hL) ha))⟩
    · exact ⟨hk _ _ (N p hp).1, (N p hp).2⟩
  · rcases List.mem_cons.mp hm with e | hm
    · cases e
      exact ⟨c', oc', hc, H, by rw [hq]; exact R, hS⟩
    · exact J.fn _ _ _ _ _ hm
  · rcases List.mem_cons.mp hp with e | hp
    · rw [e]; exact hoc
    · exact pc p hp
theorem StC.keep {qual : Str} {c' : Addr} {h' : Heap} (S : StC G f vs n qual c' s) (hk : ∀ b o, s.heap.get? b = some o → h'.get? b = some o) (k : Nat) : StC G f vs n qual c' { s with heap := h', toks := k } := by
  obtain ⟨F, X, T, g, os, nJ, N, r⟩ := S
  exact ⟨⟨F.ns.keeps hk, fun b o e => hk _ _ (F.keep b o e), F.above⟩, X, T, g, os, nJ, fun p hp => ⟨hk _ _ (N p hp).1, (N p hp).2⟩, r⟩

theorem codeHd_of {h : Heap} {c P : Addr} {oc : Obj} (e : h.get? c = some oc) (C : CodeO oc c P) : CodeHd h c P := by
  obtain ⟨vs, file, tf, flags, tg, inF, text, tt, r⟩ := C
  exact ⟨oc, vs, file, tf, flags, tg, inF, text, tt, e, r⟩

theorem codeAmong_app {pos : Pos} {a b : Nat} {c cv : Value} (l : List Value) (h : TriplesOk l) (hn : codeAmong pos (l ++ [rawInt a, rawInt b, c]) = some cv) :
    codeAmong pos l = some cv ∨ (pos.line = a ∧ pos.col = b ∧ cv = c) := by
  fun_induction TriplesOk l with
  | case1 =>
    simp only [List.nil_append, rawInt, codeAmong] at hn
    split at hn
    · rename_i hc
      rw [Bool.and_eq_true, beq_iff_eq, beq_iff_eq] at hc
      exact .inr ⟨by omega, by omega, (Option.some.inj hn).symm⟩
    · cases hn
  | case2 x t y u z rest ih =>
    simp only [List.cons_append, codeAmong] at hn ⊢
    split at hn
    · rename_i hc; rw [if_pos hc]; exact .inl hn
    · rename_i hc; rw [if_neg hc]; exact ih h hn
  | case3 => exact absurd h (by simp)

/-- the code of a def: found, or made anew -/
theorem fcode {c : Addr} {pos : Pos} {firstLine : Nat} {name qual : Str} {params : Arguments} {scope : Scope} {body : FuncBody} {Q : Value → Shared → Prop}
    (S : St G f vs n s) (hcode : env.code = .ref c) (hin : CodeIn G n c) (hq : G.qualAt pos.line pos.col = qual)
    (h : ∀ c' h' k, s.heap.objs.size ≤ h'.objs.size → StC G f vs n qual c' { s with heap := h', toks := k } → Q (.ref c') { s with heap := h', toks := k }) :
    wpAny M A (functionCode env pos firstLine name qual params scope body) Q E s := by
  obtain ⟨F, X, T, g, os, nJ, N, ⟨S0, J⟩, fl, pc⟩ := S
  have hS : S0 c := by
    rcases hin with hc | ⟨f', oc, od, fd, sl, hm, e⟩
    · exact J.top _ hc
    · obtain ⟨c', _, e', _, _, hS⟩ := J.fn _ _ _ _ _ hm
      rw [e] at e'; cases e'; exact hS
  have hst : ∀ x, S0 x → ∃ oc P ps, Has G.K nJ x oc ∧ CodeO oc x P ∧ (P, tabObj ps) ∈ nJ ∧ TriplesOk ps.toList ∧ s.heap.get? x = some oc ∧ s.heap.get? P = some (tabObj ps) ∧
      ∀ pos cv, codeAmong pos ps.toList = some cv → ∃ c' oc', cv = .ref c' ∧ Has G.K nJ c' oc' ∧ RecO oc' (G.qualAt pos.line pos.col) ∧ S0 c' := fun x hx => by
    obtain ⟨oc, P, ps, Hc, CO, mP, ht, ent⟩ := J.step x hx
    exact ⟨oc, P, ps, Hc, CO, mP, ht, Hc.obj F X N (fun p hp => List.mem_append_right _ hp), (N _ (List.mem_append_right n mP)).1, ent⟩
  obtain ⟨oc, P, ps, Hc, CO, mP, ht, hoc, _, ent⟩ := hst c hS
  have C := codeHd_of hoc CO
  have hP := N _ (List.mem_append_right n mP)
  cases hca : codeAmong pos ps.toList with
  | some cv =>
    obtain ⟨c', oc', rfl, H', R', hS'⟩ := ent pos cv hca
    refine wpAny_functionCode_hit hcode (C.code hP.1 ht) hca ?_
    exact h c' s.heap s.toks (Nat.le_refl _) ⟨F, X, T, g, os, nJ, N, fl, pc, S0, J, hS', oc', H', by rw [← hq]; exact R'⟩
  | none =>
    refine wpAny_functionCodeX hcode (C.code hP.1 ht) (C.tab hP.1) hca fun c' h' k hx hge hlt _ hrec htb ⟨P', hgeP, hcd', htb'⟩ => ?_
    obtain ⟨c₂, oc', ws, t, e2, hoc', hd', hv'⟩ := hrec
    cases e2
    have CD := CodeHd.of hcd' htb'
    obtain ⟨oc₂, ws₂, file, tf, flags, tg, inF, text, tt, e3, r⟩ := CD
    rw [hoc'] at e3
    cases e3
    have hLs : f.L < s.heap.objs.size := F.ns.lt
    have hPs : P < s.heap.objs.size := Heap.lt_size hP.1
    have hszle : s.heap.objs.size ≤ h'.objs.size := Nat.le_of_lt (Nat.lt_of_le_of_lt hge hlt)
    have old : ∀ b o, f.h₀.get? b = some o → h'.get? b = some o := fun b o e => hx b o (fun q => by rw [q, hP.2.2] at e; cases e) (F.keep b o e)
    have fresh : ∀ b, s.heap.objs.size ≤ b → b ≠ f.L ∧ f.h₀.get? b = none := fun b hb => ⟨Nat.ne_of_gt (Nat.lt_of_lt_of_le hLs hb), Heap.get?_none_of_le (Nat.le_trans F.above (Nat.le_trans (Nat.le_of_lt hLs) hb))⟩
    have nP : ∀ p ∈ n, p.1 ≠ P := fun p hp e => by
      have z := (N p (List.mem_append_left _ hp)).1
      rw [e, hP.1] at z
      exact pc _ hp (by rw [← Option.some.inj z])
    have cP : ∀ x, S0 x → x ≠ P := fun x hx e => by
      obtain ⟨oc, P2, _, _, ⟨_, _, _, _, _, _, _, _, e1, _⟩, _, _, e2, _⟩ := hst x hx
      rw [e, hP.1] at e2
      cases e2; cases e1
    let ps' := ps ++ #[rawInt pos.line, rawInt pos.col, .ref c']
    let nJ' : Led := (c', oc') :: (P', tabObj #[]) :: upd nJ P (tabObj ps')
    have hasN : ∀ x o, x ≠ P → Has G.K nJ x o → Has G.K nJ' x o := fun x o hx hh => hh.elim (fun hm => .inl (.tail _ (.tail _ (mem_upd_ne hm hx)))) .inr
    have hl : ps'.toList = ps.toList ++ [rawInt pos.line, rawInt pos.col, .ref c'] := by simp [ps']
    have hrec' : RecO oc' (G.qualAt pos.line pos.col) := ⟨ws, t, hd', by rw [hq]; exact hv'⟩
    have hasc' : Has G.K nJ' c' oc' := .inl (.head _)
    refine h c' h' k hszle ⟨⟨F.ns.extBut hx hP.2.1.symm, old, F.above⟩, X, T, g, os, nJ', fun p hp => ?_, fun p hp => ?_, pc, fun x => S0 x ∨ x = c', ⟨fun x hxx => ?_, fun x hx => .inl (J.top x hx), fun f' oc1 od1 fd1 sl1 hm => ?_⟩, .inr rfl, oc', hasc', by rw [← hq]; exact hrec'⟩
    · rcases List.mem_append.mp hp with hp | hp
      · have z := N p (List.mem_append_left _ hp)
        exact ⟨hx _ _ (nP p hp) z.1, z.2⟩
      · rcases List.mem_cons.mp hp with rfl | hp
        · exact ⟨hoc', fresh _ hge⟩
        · rcases List.mem_cons.mp hp with rfl | hp
          · exact ⟨htb'.2, fresh _ hgeP⟩
          · rcases mem_upd hp with ⟨e, _⟩ | ⟨hp, hne⟩
            · rw [e]; exact ⟨htb.2, hP.2⟩
            · have z := N p (List.mem_append_right _ hp)
              exact ⟨hx _ _ hne z.1, z.2⟩
    · rcases List.mem_cons.mp hp with rfl | hp
      · exact .inr r.1
      · rcases List.mem_cons.mp hp with rfl | hp
        · exact .inl rfl
        · rcases mem_upd hp with ⟨e, _⟩ | ⟨hp, hne⟩
          · rw [e]; exact .inl rfl
          · exact fl p hp
    · rcases hxx with hxx | rfl
      · obtain ⟨oc3, P3, ps3, H3, CO3, m3, t3, _, g3, ent3⟩ := hst x hxx
        by_cases e : P3 = P
        · subst e
          rw [hP.1] at g3
          cases g3
          refine ⟨oc3, P3, ps', hasN x _ (cP x hxx) H3, CO3, .tail _ (.tail _ (mem_upd_self m3)), by rw [hl]; exact TriplesOk_snoc _ _ _ _ t3, fun pos' cv hcv => ?_⟩
          rw [hl] at hcv
          rcases codeAmong_app _ t3 hcv with hcv | ⟨e1, e2, rfl⟩
          · obtain ⟨c4, oc4, e4, H4, R4, S4⟩ := ent3 pos' cv hcv
            exact ⟨c4, oc4, e4, hasN _ _ (cP _ S4) H4, R4, .inl S4⟩
          · exact ⟨c', oc', rfl, hasc', by rw [e1, e2]; exact hrec', .inr rfl⟩
        · refine ⟨oc3, P3, ps3, hasN x _ (cP x hxx) H3, CO3, .tail _ (.tail _ (mem_upd_ne m3 e)), t3, fun pos' cv hcv => ?_⟩
          obtain ⟨c4, oc4, e4, H4, R4, S4⟩ := ent3 pos' cv hcv
          exact ⟨c4, oc4, e4, hasN _ _ (cP _ S4) H4, R4, .inl S4⟩
      · refine ⟨oc', P', #[], hasc', ⟨ws₂, file, tf, flags, tg, inF, text, tt, r⟩, .tail _ (.head _), trivial, fun pos' cv hcv => by cases hcv⟩
    · obtain ⟨c4, oc4, e4, H4, R4, S4⟩ := J.fn _ _ _ _ _ hm
      exact ⟨c4, oc4, e4, hasN _ _ (cP _ S4) H4, R4, .inl S4⟩
end

section
variable {G : Gl} {f : Fk} {A : Around} {vs : Vals} {n : Led} {E : Value → Shared → Prop} {env : Env}

theorem Wp.mkTail {c : Addr} {pos : Pos} {firstLine : Nat} {name qual : Str} {params : Arguments} {scope : Scope} {body : FuncBody} {clos : List (Str × Addr)} {dV : Value} {Q : Value → Vals → Led → Prop}
    (hcl : closureFor scope env = Pure.pure clos) (hge : env.globals = mainGlobals) (hcode : env.code = .ref c) (hin : CodeIn G n c) (hq : G.qualAt pos.line pos.col = qual)
    (h : ∀ a o, Clo name qual params body scope clos dV o → (∀ p ∈ n, p.1 < a) → Q (.ref a) vs ((a, o) :: n)) :
    Wp G f A (makeTail name qual params body scope env dV .none none pos firstLine) vs n Q E := by
  constructor; intro s S
  unfold makeTail
  rw [hcl, hge]
  refine wpAny_bind (wpAny_pure ?_)
  have fin : ∀ (s₁ : Shared) (c' : Addr) (h' : Heap) (k₂ : Nat) (_ : StC G f vs n qual c' { s₁ with heap := h', toks := k₂ }) (_ : ∀ p ∈ n, p.1 < h'.objs.size) (ct doc : Value) (k : Nat), wpAny (model G.prog G.w) A (newObj (.type "function") (.func { name, qualname := qual, params, body, scope, globals := mainGlobals, closure := clos, closureTuple := ct, code := .ref c', builtins := builtinsNs, defaults := dV, kwdefaults := .none, annotations := none, pyModule := (G.mg "__name__").getD .none, doc }))
        (fun v s' => ∃ vs' n', St G f vs' n' s' ∧ Q v vs' n') E { s₁ with heap := h', toks := k } := fun s₁ c' h' k₂ S₂ hl ct doc k => by
    refine wpAny_newObj_type ?_ (by size_fits)
    exact ⟨_, _, S₂.add (fun b o e => Heap.get?_push_of_some _ e) (Nat.le_refl _) (Heap.get?_push_size _ rfl) rfl rfl (fun e => by cases e) k, h _ _ ⟨doc, (G.mg "__name__").getD .none, .ref c', ct, rfl⟩ hl⟩
  have first : ∀ (s₁ : Shared) (Q₂ : Value → Shared → Prop), St G f vs n s₁ → (∀ c' h' k, StC G f vs n qual c' { s₁ with heap := h', toks := k } → (∀ p ∈ n, p.1 < h'.objs.size) → Q₂ (.ref c') { s₁ with heap := h', toks := k }) →
      wpAny (model G.prog G.w) A (functionCode env pos firstLine name qual params scope body) Q₂ E s₁ := fun s₁ Q₂ S₁ h2 =>
    fcode S₁ hcode hin hq fun c' h' k hle S₂ => h2 c' h' k S₂ fun p hp => Nat.lt_of_lt_of_le (S₁.lt p hp) hle
  cases hce : clos.isEmpty with
  | true =>
    simp only [if_true]
    refine wpAny_bind (wpAny_pure ?_)
    refine wpAny_bind (first _ _ S fun c' h' k S₂ hl => ?_)
    obtain ⟨F, X, T, _⟩ := id S₂
    obtain ⟨bm, ob, b1, b2, b3, b4, b5, b6⟩ := T.bmain
    refine wpAny_bind (wpAny_builtinsFor (T.g.keeps F.keep) b1 b2 (F.keep _ _ b3) b4 b5 b6 ?_)
    refine wpAny_bind (wpAny_nsGet (T.g.keeps F.keep) ?_)
    cases body with
    | expr e => exact wpAny_bind (wpAny_pure (fin _ _ _ _ S₂ hl _ _ _))
    | stmts b =>
      cases hdoc : docOf b with
      | none => exact wpAny_bind (by simp only [hdoc]; exact wpAny_pure (fin _ _ _ _ S₂ hl _ _ _))
      | some t => exact wpAny_bind (by simp only [hdoc]; exact wpAny_mkText (fin _ _ _ _ S₂ hl _ _ _))
  | false =>
    simp only [Bool.false_eq_true, if_false]
    refine wpAny_bind (wpAny_newTextTuple ?_)
    refine wpAny_bind (first _ _ (S.keep (fun b o e => Heap.get?_push_of_some _ e) s.toks) fun c' h' k S₂ hl => ?_)
    obtain ⟨F, X, T, _⟩ := id S₂
    obtain ⟨bm, ob, b1, b2, b3, b4, b5, b6⟩ := T.bmain
    refine wpAny_bind (wpAny_builtinsFor (T.g.keeps F.keep) b1 b2 (F.keep _ _ b3) b4 b5 b6 ?_)
    refine wpAny_bind (wpAny_nsGet (T.g.keeps F.keep) ?_)
    cases body with
    | expr e => exact wpAny_bind (wpAny_pure (fin { s with heap := h', toks := k } _ _ _ S₂ hl _ _ _))
    | stmts b =>
      cases hdoc : docOf b with
      | none => exact wpAny_bind (by simp only [hdoc]; exact wpAny_pure (fin { s with heap := h', toks := k } _ _ _ S₂ hl _ _ _))
      | some t => exact wpAny_bind (by simp only [hdoc]; exact wpAny_mkText (fin { s with heap := h', toks := k } _ _ _ S₂ hl _ _ _))

/-- def name(..): .., no defaults -/
theorem Wp.fdef0 {c : Addr} {pos : Pos} {name qual : Str} {params : Arguments} {scope : Scope} {body : List Stmt} {clos : List (Str × Addr)} {Q : Flow → Vals → Led → Prop}
    (hcl : closureFor scope env = Pure.pure clos) (hge : env.globals = mainGlobals) (hcode : env.code = .ref c) (hin : CodeIn G n c) (hqn : qualnameIn env name name = qual) (hq : G.qualAt pos.line pos.col = qual)
    (hd0 : params.defaults = []) (hk0 : params.kw_defaults = []) (ha : annTrees params none env = [])
    (h : ∀ a o, Clo name qual params (.stmts body) scope clos .none o → (∀ p ∈ n, p.1 < a) → Wp G f A (storeName env name (.ref a)) vs ((a, o) :: n) (fun _ => Q .next) E) :
    Wp G f A (exec (.FunctionDef name params body [] none [] scope none name pos) env) vs n Q E := by
  constructor; intro s S
  refine nestDef_K hd0 hk0 ha ?_
  rw [hqn]
  refine wpAny_mono ((show Wp G f A (makeFunction name qual params (.stmts body) scope env [] [] [] pos pos.line) vs n (fun v vs1 n1 => Wp G f A (storeName env name v) vs1 n1 (fun _ => Q .next) E) E from ?_).run s S) (fun v s' ⟨_, _, S', q⟩ => q.run s' S') fun _ _ x => x
  rw [makeFunction_eq]
  simp only [List.zip_nil_right, List.filterMap_nil, List.isEmpty_nil, if_true, pure_bind]
  exact Wp.mkTail hcl hge hcode hin hq h

/-- def name(.., x=constant): .. -/
theorem Wp.fdef1 {c : Addr} {pos : Pos} {name qual : Str} {params : Arguments} {scope : Scope} {body : List Stmt} {clos : List (Str × Addr)} {e1 : Expr} {Q : Flow → Vals → Led → Prop}
    (hcl : closureFor scope env = Pure.pure clos) (hge : env.globals = mainGlobals) (hcode : env.code = .ref c) (hin : CodeIn G n c) (hqn : qualnameIn env name name = qual) (hq : G.qualAt pos.line pos.col = qual)
    (hd0 : params.defaults = [e1]) (hk0 : params.kw_defaults = []) (ha : annTrees params none env = [])
    (h : Wp G f A (eval e1 env) vs n (fun v vs1 n1 => vs1 = vs ∧ n1 = n ∧ ∀ d a o, Clo name qual params (.stmts body) scope clos (.ref d) o → (∀ p ∈ n, p.1 < d) → d < a → Wp G f A (storeName env name (.ref a)) vs ((a, o) :: (d, Tup [v]) :: n) (fun _ => Q .next) E) E) :
    Wp G f A (exec (.FunctionDef name params body [] none [] scope none name pos) env) vs n Q E := by
  constructor; intro s S
  rw [exec_def]
  refine wpAny_bind (wpAny_standAt (wpAny_bind (wpAny_holding ?_)))
  rw [defaultsOf_eq, hd0, hk0, ha]
  refine wpAny_bind ?_
  show wpAny _ _ (evalAll [eval e1 env]) _ _ s
  unfold evalAll
  refine wpAny_bind (wpAny_mono (h.run s S) (fun v s1 ⟨_, _, S1, e1', e2', q⟩ => ?_) fun _ _ x => x)
  subst e1' e2'
  refine wpAny_bind (wpAny_holding (wpAny_pure ?_))
  refine wpAny_pure ?_
  refine wpAny_bind (wpAny_holding (wpAny_pure ?_))
  refine wpAny_holding (wpAny_bind (wpAny_pure ?_))
  rw [hqn]
  refine wpAny_mono ((show Wp G f A (makeFunction name qual params (.stmts body) scope env [v] [] [] pos pos.line) _ _ (fun v vs1 n1 => Wp G f A (storeName env name v) vs1 n1 (fun _ => Q .next) E) E from ?_).run s1 S1)
    (fun v s' ⟨_, _, S', q⟩ => wpAny_bind (wpAny_standAt (wpAny_bind (wpAny_bindName (wpAny_mono (q.run s' S') (fun _ _ h'' => wpAny_pure h'') fun _ _ x => x))))) fun _ _ x => x
  rw [makeFunction_eq]
  simp only [List.zip_nil_right, List.filterMap_nil, List.isEmpty_nil, List.isEmpty_cons, Bool.false_eq_true, if_false, if_true, pure_bind]
  refine Wp.bind (⟨fun s2 S2 => wpAny_newTextTuple ⟨_, _, S2.push (o := Tup [v]) ⟨fun e => (by cases e), fun _ e => by cases e⟩ rfl s2.toks, ?_⟩⟩)
  refine Wp.mkTail hcl hge hcode ?_ hq fun a o hc hl => q _ a o hc S2.lt (hl _ (.head _))
  rcases hin with hc | ⟨f', oc, od, fd, sl, hm, e⟩
  · exact .inl hc
  · exact .inr ⟨f', oc, od, fd, sl, .tail _ hm, e⟩
/-- lambda .., no defaults -/
theorem Wp.lam {c : Addr} {pos : Pos} {qual : Str} {params : Arguments} {scope : Scope} {body : Expr} {clos : List (Str × Addr)} {Q : Value → Vals → Led → Prop}
    (hcl : closureFor scope env = Pure.pure clos) (hge : env.globals = mainGlobals) (hcode : env.code = .ref c) (hin : CodeIn G n c) (hqn : env.qual ++ "<lambda>" = qual) (hq : G.qualAt pos.line pos.col = qual)
    (hd0 : params.defaults = []) (hk0 : params.kw_defaults = [])
    (h : ∀ a o, Clo "<lambda>" qual params (.expr body) scope clos .none o → (∀ p ∈ n, p.1 < a) → Q (.ref a) vs ((a, o) :: n)) :
    Wp G f A (eval (.Lambda params body scope pos) env) vs n Q E := by
  constructor; intro s S
  rw [arm_eval_Lambda, defaultsOf_eq, hd0, hk0]
  show wpAny _ A (do let dv ← evalAll []; let kdv ← PySem.holding dv (evalAllOpt []); makeFunction "<lambda>" (env.qual ++ "<lambda>") params (.expr body) scope env dv kdv [] pos pos.line) _ _ s
  refine wpAny_bind (wpAny_pure (wpAny_bind (wpAny_holding (wpAny_pure ?_))))
  rw [hqn]
  refine (show Wp G f A (makeFunction "<lambda>" qual params (.expr body) scope env [] [] [] pos pos.line) vs n Q E from ?_).run s S
  rw [makeFunction_eq]
  simp only [List.zip_nil_right, List.filterMap_nil, List.isEmpty_nil, if_true, pure_bind]
  exact Wp.mkTail hcl hge hcode hin hq h
end
end

section
open PySem PySem.Spec PySem.Calls PyProof.Rows PySem.W

def Sub (n n0 : Led) : Prop := ∀ p ∈ n, ∃ q ∈ n0, q.1 = p.1
theorem Sub.rfl' {n : Led} : Sub n n := fun p h => ⟨p, h, rfl⟩
theorem Sub.upd {n n0 : Led} {c : Addr} {o : Obj} (h : Sub n n0) : Sub (Au.upd n c o) n0 := fun p hp => by
  rcases mem_upd hp with ⟨e, o', hm⟩ | ⟨hp, _⟩
  · obtain ⟨q, hq, e'⟩ := h _ hm
    exact ⟨q, hq, by rw [e', e]⟩
  · exact h p hp
theorem Sub.lt {n n0 : Led} {a : Addr} (h : Sub n n0) (hl : ∀ p ∈ n0, p.1 < a) : ∀ p ∈ n, p.1 < a := fun p hp => let ⟨q, hq, e⟩ := h p hp; e ▸ hl q hq

/-- how a turn of a loop may end: on, out, back -/
abbrev LoopQ (on out : Vals → Led → Prop) (Q : Flow → Vals → Led → Prop) : Flow → Vals → Led → Prop := fun fl vs n => match fl with
  | .next | .cont => on vs n
  | .brk => out vs n
  | .ret v => Q (.ret v) vs n

section
variable {G : Gl} {f : Fk} {A : Around} {vs : Vals} {n : Led} {E : Value → Shared → Prop} {env : Env} {rest : List Stmt} {Q : Flow → Vals → Led → Prop}

/-! statements, ahead of the rest -/
theorem Wp.conA {x : Str} {pos' pos : Pos} {value : Expr} (h : Wp G f A (eval value env) vs n (fun v vs1 n1 => Wp G f A (storeName env x v) vs1 n1 (fun _ vs2 n2 => Wp G f A (execs rest env) vs2 n2 Q E) E) E)
    (hs : swapsWith value (some (.Name x pos')) pos.line env = Pure.pure false := by rfl) : Wp G f A (execs (.Assign [.Name x pos'] value pos :: rest) env) vs n Q E := Wp.cons (Wp.asg (Q := fun fl vs' n' => match fl with | .next => Wp G f A (execs rest env) vs' n' Q E | fl => Q fl vs' n') h hs)
theorem Wp.conU {x : Str} {pos' pos : Pos} {value : Expr} {op : Operator}
    (h : Wp G f A (loadName env x) vs n (fun old vs1 n1 => Wp G f A (eval value env) vs1 n1 (fun v vs2 n2 => Wp G f A (inplaceOp op old v) vs2 n2 (fun r vs3 n3 => Wp G f A (storeName env x r) vs3 n3 (fun _ vs4 n4 => Wp G f A (execs rest env) vs4 n4 Q E) E) E) E) E) :
    Wp G f A (execs (.AugAssign (.Name x pos') op value pos :: rest) env) vs n Q E := Wp.cons (Wp.aug (Q := fun fl vs' n' => match fl with | .next => Wp G f A (execs rest env) vs' n' Q E | fl => Q fl vs' n') h)
theorem Wp.conR {e : Expr} {pos : Pos} (h : Wp G f A (eval e env) vs n (fun v => Q (.ret v)) E) : Wp G f A (execs (.Return (some e) pos :: rest) env) vs n Q E :=
  Wp.cons (Wp.ret (Q := fun fl vs' n' => match fl with | .next => Wp G f A (execs rest env) vs' n' Q E | fl => Q fl vs' n') h)
theorem Wp.conE {e : Expr} {pos : Pos} (h : Wp G f A (eval e env) vs n (fun v vs1 n1 => v = .none ∧ Wp G f A (execs rest env) vs1 n1 Q E) E)
    (hi : interactive env = false := by rfl) (hs : swapsWith e none pos.line env = Pure.pure false := by rfl) : Wp G f A (execs (.Expr e pos :: rest) env) vs n Q E :=
  Wp.cons (Wp.expr (Q := fun fl vs' n' => match fl with | .next => Wp G f A (execs rest env) vs' n' Q E | fl => Q fl vs' n') h hi hs)
/-- the end of a branch -/
abbrev Thn (G : Gl) (f : Fk) (A : Around) (env : Env) (rest : List Stmt) (Q : Flow → Vals → Led → Prop) (E : Value → Shared → Prop) : Flow → Vals → Led → Prop := fun fl vs n => match fl with
  | .next => Wp G f A (execs rest env) vs n Q E
  | fl => Q fl vs n
theorem Wp.nilT (h : Wp G f A (execs rest env) vs n Q E) : Wp G f A (execs [] env) vs n (Thn G f A env rest Q E) E := Wp.nil h
theorem Wp.conI {test : Expr} {body orelse : List Stmt} {pos : Pos}
    (h : Wp G f A (isTrue test env (eval test env)) vs n (fun b vs1 n1 => (b = true → Wp G f A (execs body env) vs1 n1 (Thn G f A env rest Q E) E) ∧ (b = false → Wp G f A (execs orelse env) vs1 n1 (Thn G f A env rest Q E) E)) E) :
    Wp G f A (execs (.If test body orelse pos :: rest) env) vs n Q E := by
  refine Wp.cons (Wp.iff (h.monoQ fun b vs1 n1 q => ?_))
  cases b with
  | true => exact (q.1 rfl).monoQ fun fl _ _ q => by cases fl <;> exact q
  | false => exact (q.2 rfl).monoQ fun fl _ _ q => by cases fl <;> exact q
/-- no else -/
theorem Wp.conI1 {test : Expr} {body : List Stmt} {pos : Pos}
    (h : Wp G f A (isTrue test env (eval test env)) vs n (fun b vs1 n1 => (b = true → Wp G f A (execs body env) vs1 n1 (Thn G f A env rest Q E) E) ∧ (b = false → Wp G f A (execs rest env) vs1 n1 Q E)) E) :
    Wp G f A (execs (.If test body [] pos :: rest) env) vs n Q E := Wp.conI (h.monoQ fun _ _ _ q => ⟨q.1, fun e => Wp.nilT (q.2 e)⟩)

/-! loops -/
theorem Wp.conW {test : Expr} {body : List Stmt} {pos : Pos} (I : Nat → Vals → Led → Prop) (k : Nat) (h0 : I k vs n)
    (turn : ∀ k vs n, I k vs n → Wp G f A (isTrue test env (eval test env)) vs n (fun b vs1 n1 =>
      (b = true → Wp G f A (execs body env) vs1 n1 (LoopQ (fun vs2 n2 => ∃ m n3, m < k ∧ (∀ p ∈ n3, p ∈ n2) ∧ I m vs2 n3) (fun vs2 n2 => Wp G f A (execs rest env) vs2 n2 Q E) Q) Bot) ∧ (b = false → Wp G f A (execs rest env) vs1 n1 Q E)) Bot) :
    Wp G f A (execs (.While test body [] pos :: rest) env) vs n Q E := by
  refine Wp.cons ⟨fun s S => wpAny_While (codeAny_whileLoop (fun k s => ∃ vs n, St G f vs n s ∧ I k vs n) (fun k s ⟨vs1, n1, S1, hI⟩ => ?_) k ⟨vs, n, S, h0⟩)⟩
  refine wpAny_mono ((turn k vs1 n1 hI).run s S1) (fun b s2 ⟨vs2, n2, S2, q⟩ => ?_) fun _ _ x => x.elim
  cases b with
  | false => exact wpAny_execs_nil ⟨_, _, S2, q.2 rfl⟩
  | true =>
    refine wpAny_mono ((q.1 rfl).run s2 S2) (fun fl s3 ⟨vs3, n3, S3, q3⟩ => ?_) fun _ _ x => x.elim
    cases fl with
    | next => obtain ⟨m, n4, hm, hs, hI'⟩ := q3; exact ⟨m, hm, vs3, n4, S3.sub hs, hI'⟩
    | cont => obtain ⟨m, n4, hm, hs, hI'⟩ := q3; exact ⟨m, hm, vs3, n4, S3.sub hs, hI'⟩
    | brk => exact ⟨_, _, S3, q3⟩
    | ret v => exact ⟨_, _, S3, q3⟩

structure Itr (G : Gl) (A : Around) (it : Addr) (MK : Nat → Obj → Prop) (item : Nat → Value → Prop) (N : Nat) (src : Led) : Prop where
  nx : ∀ f i o vs n, MK i o → i < N → (∀ p ∈ src, p ∈ n) → (∀ p ∈ n, p.1 ≠ it) → Wp G f A (pyNext (.ref it)) vs ((it, o) :: n) (fun r vs' n' => ∃ v o', r = some v ∧ item i v ∧ vs' = vs ∧ n' = (it, o') :: n ∧ MK (i + 1) o') Bot
  en : ∀ f o vs n, MK N o → (∀ p ∈ src, p ∈ n) → (∀ p ∈ n, p.1 ≠ it) → Wp G f A (pyNext (.ref it)) vs ((it, o) :: n) (fun r vs' n' => r = none ∧ vs' = vs ∧ n' = n) Bot
  slf : ∀ f i o vs n E (Q : Value → Vals → Led → Prop), MK i o → Q (.ref it) vs ((it, o) :: n) → Wp G f A (pyIter (.ref it)) vs ((it, o) :: n) Q E
/-- what one goes through, and what it gives -/
def ItrOf (G : Gl) (f : Fk) (A : Around) (v : Value) (n : Led) (item : Nat → Value → Prop) (N : Nat) (src : Led) : Prop :=
  ∀ vs E (Q : Value → Vals → Led → Prop), (∀ it o MK, (∀ p ∈ n, p.1 < it) → Itr G A it MK item N src → MK 0 o → Q (.ref it) vs ((it, o) :: n)) → Wp G f A (pyIter v) vs n Q E

structure ForI (src n1 : Led) (I : Nat → Vals → Led → Prop) : Prop where
  src : ∀ i vs n, I i vs n → ∀ p ∈ src, p ∈ n
  sub : ∀ i vs n, I i vs n → Sub n n1

theorem forGo {x : Str} {tpos : Pos} {body : List Stmt} {item : Nat → Value → Prop} {N : Nat} {src n1 : Led} {I : Nat → Vals → Led → Prop} {it : Addr} {MK : Nat → Obj → Prop} {o0 : Obj} {s : Shared} {Q : Flow → Shared → Prop}
    (S : St G f vs ((it, o0) :: n) s) (T : Itr G A it MK item N src) (hmk : MK 0 o0) (FI : ForI src n1 I) (hlt : ∀ p ∈ n1, p.1 < it) (h0 : I 0 vs n)
    (turn : ∀ o i v vs' n', i < N → item i v → (∀ p ∈ n', p.1 < it) → I i vs' n' → Wp G f A (storeName env x v) vs' ((it, o) :: n') (fun _ vs2 n2 => Wp G f A (execs body env) vs2 n2
      (LoopQ (fun vs3 n3 => ∃ n4, (∀ p ∈ (it, o) :: n4, p ∈ n3) ∧ I (i + 1) vs3 n4) (fun _ _ => False) (fun _ _ _ => False)) Bot) Bot)
    (fin : ∀ vs' n' s', I N vs' n' → St G f vs' n' s' → Q .next s') :
    codeAny (model G.prog G.w) A (.forLoop (.Name x tpos) (.ref it) body [] env) (fun r s' => match r with | .ok f => Q f s' | .error e => cameBackBy (model G.prog G.w) A env E e s') s := by
  refine codeAny_forLoop (fun k s => ∃ i vs n o, k = N - i ∧ i ≤ N ∧ MK i o ∧ St G f vs ((it, o) :: n) s ∧ I i vs n) (fun k s ⟨i, vs1, n2, oi, hk, hi, hm, S1, hI⟩ => ?_) N ⟨0, vs, n, o0, rfl, Nat.zero_le _, hmk, S, h0⟩
  have hl : ∀ p ∈ n2, p.1 < it := (FI.sub _ _ _ hI).lt hlt
  have hne : ∀ p ∈ n2, p.1 ≠ it := fun p hp => Nat.ne_of_lt (hl p hp)
  by_cases hi' : i < N
  · refine wpAny_mono ((T.nx f i oi vs1 n2 hm hi' (FI.src _ _ _ hI) hne).run s S1) (fun r s2 ⟨vs2, n3, S2, v, o', e, hv, e1, e2, hm'⟩ => ?_) fun _ _ x => x.elim
    subst e e1 e2
    refine wpAny_assign_Name (wpAny_mono ((turn o' i v vs2 n2 hi' hv hl hI).run s2 S2) (fun _ s3 ⟨vs3, n3, S3, q⟩ => ?_) fun _ _ x => x.elim)
    refine wpAny_mono (q.run s3 S3) (fun fl s4 ⟨vs4, n4, S4, q4⟩ => ?_) fun _ _ x => x.elim
    cases fl with
    | next => obtain ⟨n5, hs, hI'⟩ := q4; exact ⟨N - (i + 1), by omega, i + 1, vs4, n5, o', rfl, hi', hm', S4.sub hs, hI'⟩
    | cont => obtain ⟨n5, hs, hI'⟩ := q4; exact ⟨N - (i + 1), by omega, i + 1, vs4, n5, o', rfl, hi', hm', S4.sub hs, hI'⟩
    | brk => exact q4.elim
    | ret v => exact q4.elim
  · have : i = N := by omega
    subst this
    refine wpAny_mono ((T.en f oi vs1 n2 hm (FI.src _ _ _ hI) hne).run s S1) (fun r s2 ⟨vs2, n3, S2, e, e1, e2⟩ => ?_) fun _ _ x => x.elim
    subst e e1 e2
    exact wpAny_execs_nil (fin _ _ _ hI S2)

theorem Wp.conF {x : Str} {tpos : Pos} {iter : Expr} {body : List Stmt} {pos : Pos} (item : Nat → Value → Prop) (N : Nat) (src : Led) (I : Nat → Vals → Led → Prop)
    (h : Wp G f A (eval iter env) vs n (fun v vs1 n1 => ItrOf G f A v n1 item N src ∧ I 0 vs1 n1 ∧ ForI src n1 I ∧
      (∀ it o i v vs' n', (∀ p ∈ n1, p.1 < it) → (∀ p ∈ n', p.1 < it) → i < N → item i v → I i vs' n' → Wp G f A (storeName env x v) vs' ((it, o) :: n') (fun _ vs2 n2 => Wp G f A (execs body env) vs2 n2
        (LoopQ (fun vs3 n3 => ∃ n4, (∀ p ∈ (it, o) :: n4, p ∈ n3) ∧ I (i + 1) vs3 n4) (fun _ _ => False) (fun _ _ _ => False)) Bot) Bot) ∧
      (∀ vs' n', I N vs' n' → Wp G f A (execs rest env) vs' n' Q E)) E)
    (hs : ∀ x, foldedSetIterable iter env x = Pure.pure x := by intro _; rfl) :
    Wp G f A (execs (.For (.Name x tpos) iter body [] pos :: rest) env) vs n Q E := by
  refine Wp.cons ⟨fun s S => wpAny_For (wpAny_mono (h.run s S) (fun v s1 ⟨vs1, n1, S1, hit, h0, FI, turn, fin⟩ => ?_) fun _ _ x => x) hs⟩
  refine wpAny_mono ((hit vs1 E (fun itv vs2 n2 => ∃ it o MK, itv = .ref it ∧ vs2 = vs1 ∧ n2 = (it, o) :: n1 ∧ (∀ p ∈ n1, p.1 < it) ∧ Itr G A it MK item N src ∧ MK 0 o) (fun it o MK hl T hm => ⟨it, o, MK, rfl, rfl, rfl, hl, T, hm⟩)).run s1 S1) (fun itv s2 ⟨vs2, n2, S2, it, o, MK, e, e1, e2, hl, T, hm⟩ => ?_) fun _ _ x => x
  subst e e1 e2
  exact forGo (n1 := n1) S2 T hm FI hl h0 (fun o i v vs' n' hi hv hl' hI => turn it o i v vs' n' hl hl' hi hv hI) fun vs' n' s' hI S' => ⟨vs', n', S', fin vs' n' hI⟩

/-! what one goes through -/
theorem news_drop_ext {h h' h0 : Heap} {L a : Addr} {n nJ : Led} {o : Obj} (N : News h0 L h ((a, o) :: n ++ nJ)) (he : Heap.ExtBut a h h') (h1 : ∀ p ∈ n, p.1 ≠ a) (h2 : ∀ p ∈ nJ, p.1 ≠ a) : News h0 L h' (n ++ nJ) := fun p hp => by
  have z := N p (List.mem_cons_of_mem _ hp)
  exact ⟨he _ _ ((List.mem_append.mp hp).elim (h1 p) (h2 p)) z.1, z.2⟩
theorem St.neJ {s : Shared} {a : Addr} {o : Obj} {nJ : Led} (hc : Pc o) (N : News f.h₀ f.L s.heap ((a, o) :: n ++ nJ)) (fl : ∀ p ∈ nJ, p.2.cls = .none ∨ p.2.cls = .type "code") : ∀ p ∈ nJ, p.1 ≠ a := fun p hp e => by
  have z := (N p (List.mem_append_right _ hp)).1
  rw [e, (N (a, o) (.head _)).1] at z
  have z2 : o = p.2 := Option.some.inj z
  rcases fl p hp with h | h
  · exact hc.1 (by rw [z2]; exact h)
  · exact hc.2 (by rw [z2]; exact h)
/-- the object ahead falls, what stands at its place may change -/
theorem St.fall {s : Shared} {a : Addr} {o : Obj} {h' : Heap} (S : St G f vs ((a, o) :: n) s) (hc : Pc o) (hne : ∀ p ∈ n, p.1 ≠ a) (he : Heap.ExtBut a s.heap h') (k : Nat) : St G f vs n { s with heap := h', toks := k } := by
  obtain ⟨F, X, T, g, os, nJ, N, J⟩ := S
  have ha := N (a, o) (.head _)
  refine ⟨⟨F.ns.extBut he ha.2.1.symm, fun b o' e => he _ _ (fun q => by rw [q, ha.2.2] at e; cases e) (F.keep b o' e), F.above⟩, X, T, g, os, nJ, news_drop_ext N he hne (St.neJ hc N J.fl), J.sub fun p hp => .tail _ hp⟩
/-- the object ahead changes -/
theorem St.headU {s : Shared} {a : Addr} {o o' : Obj} {h' : Heap} (S : St G f vs ((a, o) :: n) s) (hc : Pc o) (ht : Tm o') (hne : ∀ p ∈ n, p.1 ≠ a) (he : Heap.ExtBut a s.heap h') (hg : h'.get? a = some o') (k : Nat) : St G f vs ((a, o') :: n) { s with heap := h', toks := k } := by
  have S2 := S.fall hc hne he k
  obtain ⟨F, X, T, g, os, nJ, N, J⟩ := S2
  obtain ⟨_, _, _, _, _, nJ', N', _⟩ := S
  have ha := N' (a, o) (.head _)
  refine ⟨F, X, T, g, os, nJ, fun p hp => ?_, J.cons ht⟩
  rcases List.mem_cons.mp hp with rfl | hp
  · exact ⟨hg, ha.2⟩
  · exact N p hp

theorem itr_listO {l : Addr} {lo : Obj} {items : List Value} {ep : Nat} (hh : A.handled = none) (hm : (l, lo) ∈ n) (hlc : lo.cls = .type "list") (hld : lo.data = .seq items.toArray ep) : ItrOf G f A (.ref l) n (fun i v => items[i]? = some v) items.length [(l, lo)] := by
  intro vs E Q h
  constructor; intro s S
  have hl : ∀ {f : Fk} {s : Shared} {vs : Vals} {n : Led}, (l, lo) ∈ n → St G f vs n s → s.heap.IsList l items.toArray := fun hm S => ⟨_, S.get hm, hlc, ep, hld⟩
  have tmI : ∀ i (o : Obj), o.cls = .type "list_iterator" → o.data = .fields #[.ref l, .int i 0] → Tm o ∧ Pc o := fun i o e1 e2 => ⟨⟨by rw [e1]; (intro e; cases e), fun fd e => by rw [e2] at e; cases e⟩, by rw [Pc, e1]; exact ⟨(fun e => by cases e), fun e => by simp at e⟩⟩
  refine wpAny_pyIter_list (hl hm S) ⟨_, _, S.push (o := { cls := .type "list_iterator", data := .fields #[.ref l, .int 0 0] }) (tmI 0 _ rfl rfl).1 rfl s.toks, h _ _ (fun i o => o.cls = .type "list_iterator" ∧ o.data = .fields #[.ref l, .int i 0]) S.lt ⟨?_, ?_, ?_⟩ ⟨rfl, rfl⟩⟩
  · intro f i o vs n hk hi hsrc hne
    constructor; intro s1 S1
    have hi2 : items.toArray[i]? = some items[i] := by simp [hi]
    refine wpAny_pyNext_list_item ⟨_, S1.get (.head _), hk.1, hk.2⟩ (hl (.tail _ (hsrc _ (.head _))) S1) hi2 fun h' ⟨o', ho', hc', hd'⟩ hs => ?_
    have tI := tmI _ o' hc' hd'
    exact ⟨_, _, S1.headU (tmI _ o hk.1 hk.2).2 tI.1 hne hs.extBut ho' s1.toks, _, o', rfl, by simp [hi], rfl, rfl, hc', hd'⟩
  · intro f o vs n hk hsrc hne
    constructor; intro s1 S1
    refine wpAny_pyNext_list_end hh ⟨_, S1.get (.head _), hk.1, hk.2⟩ (hl (.tail _ (hsrc _ (.head _))) S1) (by simp) fun h' he => ?_
    exact ⟨_, _, S1.fall (tmI _ o hk.1 hk.2).2 hne he s1.toks, rfl, rfl, rfl⟩
  · intro f i o vs n E Q hk q
    exact ⟨fun s1 S1 => wpAny_pyIter_listiter ⟨_, S1.get (.head _), hk.1, hk.2⟩ ⟨_, _, S1, q⟩⟩
theorem itr_list {l : Addr} {items : List Value} {ep : Nat} (hh : A.handled = none) (hm : (l, Lst items ep) ∈ n) : ItrOf G f A (.ref l) n (fun i v => items[i]? = some v) items.length [(l, Lst items ep)] := itr_listO hh hm rfl rfl
theorem wpAny_pyIter_tupiter {prog : Program} {w : World} {A : Around} {E : Value → Shared → Prop} {s : Shared} {it t : Addr} {i : Nat} {Q : Value → Shared → Prop} (hit : s.heap.IsTupleIter it t i) (h : Q (.ref it) s) :
    wpAny (model prog w) A (pyIter (.ref it)) Q E s := by
  refine wpAny_pyIter_slot hit.typeIs PySem.F.slot_tuple_iterator_iter (wpAny_call_entry PySem.F.slot_tuple_iterator_iter hit.typeIs PySem.F.entry_tuple_iterator_iter ?_ (PySem.F.args_tuple_iterator_iter_1 _))
  show wpAny _ _ (ret (.ref it)) _ _ s
  exact wpAny_pure ⟨_, rfl, "tuple_iterator", _, hit.typeIs, PySem.F.slot_tuple_iterator_next.lookup, h⟩
theorem itr_tuple {l : Addr} {items : List Value} (hh : A.handled = none) (hm : (l, Tup items) ∈ n) : ItrOf G f A (.ref l) n (fun i v => items[i]? = some v) items.length [(l, Tup items)] := by
  intro vs E Q h
  constructor; intro s S
  have hl : ∀ {f : Fk} {s : Shared} {vs : Vals} {n : Led}, (l, Tup items) ∈ n → St G f vs n s → s.heap.IsTuple l items.toArray := fun hm S => ⟨_, S.get hm, rfl, _, rfl⟩
  have tmI : ∀ i (o : Obj), o.cls = .type "tuple_iterator" → o.data = .fields #[.ref l, .int i 0] → Tm o ∧ Pc o := fun i o e1 e2 => ⟨⟨by rw [e1]; (intro e; cases e), fun fd e => by rw [e2] at e; cases e⟩, by rw [Pc, e1]; exact ⟨(fun e => by cases e), fun e => by simp at e⟩⟩
  refine wpAny_pyIter_tuple (hl hm S) ⟨_, _, S.push (o := { cls := .type "tuple_iterator", data := .fields #[.ref l, .int 0 0] }) (tmI 0 _ rfl rfl).1 rfl s.toks, h _ _ (fun i o => o.cls = .type "tuple_iterator" ∧ o.data = .fields #[.ref l, .int i 0]) S.lt ⟨?_, ?_, ?_⟩ ⟨rfl, rfl⟩⟩
  · intro f i o vs n hk hi hsrc hne
    constructor; intro s1 S1
    have hi2 : items.toArray[i]? = some items[i] := by simp [hi]
    refine wpAny_pyNext_tuple_item ⟨_, S1.get (.head _), hk.1, hk.2⟩ (hl (.tail _ (hsrc _ (.head _))) S1) hi2 fun h' ⟨o', ho', hc', hd'⟩ hs => ?_
    have tI := tmI _ o' hc' hd'
    exact ⟨_, _, S1.headU (tmI _ o hk.1 hk.2).2 tI.1 hne hs.extBut ho' s1.toks, _, o', rfl, by simp [hi], rfl, rfl, hc', hd'⟩
  · intro f o vs n hk hsrc hne
    constructor; intro s1 S1
    refine wpAny_pyNext_tuple_end hh ⟨_, S1.get (.head _), hk.1, hk.2⟩ (hl (.tail _ (hsrc _ (.head _))) S1) (by simp) fun h' he => ?_
    exact ⟨_, _, S1.fall (tmI _ o hk.1 hk.2).2 hne he s1.toks, rfl, rfl, rfl⟩
  · intro f i o vs n E Q hk q
    exact ⟨fun s1 S1 => wpAny_pyIter_tupiter ⟨_, S1.get (.head _), hk.1, hk.2⟩ ⟨_, _, S1, q⟩⟩
end
end

section
open PySem PySem.Spec PySem.Calls PyProof.Rows PySem.W

section
variable {G : Gl} {f : Fk} {A : Around} {vs : Vals} {n : Led} {E : Value → Shared → Prop} {env : Env}

/-! an own object changed -/
theorem St.updE {s : Shared} {c : Addr} {o o' : Obj} {h' : Heap} (S : St G f vs n s) (hm : (c, o) ∈ n) (pc : Pc o) (tm : Tm o') (hs : Heap.ExtBut c s.heap h') (hg : h'.get? c = some o') (k : Nat) : St G f vs (upd n c o') { s with heap := h', toks := k } := by
  obtain ⟨F, X, T, g, os, nJ, N, J⟩ := S
  have hc := N _ (List.mem_append_left _ hm)
  refine ⟨⟨F.ns.extBut hs hc.2.1.symm, fun b o e => hs _ _ (fun q => by rw [q, hc.2.2] at e; cases e) (F.keep b o e), F.above⟩, X, T, g, os, nJ, fun p hp => ?_, J.upd tm⟩
  rcases List.mem_append.mp hp with q | q
  · rcases mem_upd q with ⟨e, _⟩ | ⟨q, hne⟩
    · rw [e]; exact ⟨hg, hc.2⟩
    · have z := N p (List.mem_append_left _ q); exact ⟨hs _ _ hne z.1, z.2⟩
  · have z := N p (List.mem_append_right _ q)
    refine ⟨hs _ _ (fun e => ?_) z.1, z.2⟩
    have z1 := z.1
    rw [e, hc.1] at z1
    have z2 : o = p.2 := Option.some.inj z1
    rcases J.fl p q with h | h
    · exact pc.1 (by rw [z2]; exact h)
    · exact pc.2 (by rw [z2]; exact h)

/-- the ledger, one object's facts told as one -/
theorem Wp.norm {α : Type} {t : Sem α} {c : Addr} {o : Obj} {Q : α → Vals → Led → Prop} (hm : (c, o) ∈ n) (tm : Tm o) (h : Wp G f A t vs (upd n c o) Q E) : Wp G f A t vs n Q E := ⟨fun s S => h.run s (by
  obtain ⟨F, X, T, g, os, nJ, N, J⟩ := S
  refine ⟨F, X, T, g, os, nJ, fun p hp => ?_, J.upd tm⟩
  rcases List.mem_append.mp hp with q | q
  · rcases mem_upd q with ⟨e, _⟩ | ⟨q, hne⟩
    · rw [e]; exact N _ (List.mem_append_left _ hm)
    · exact N _ (List.mem_append_left _ q)
  · exact N _ (List.mem_append_right _ q))⟩

theorem Lst_tm (items : List Value) (ep : Nat) : Tm (Lst items ep) := ⟨fun e => (by cases e), fun _ e => by cases e⟩
theorem Lst_pc (items : List Value) (ep : Nat) : Pc (Lst items ep) := ⟨fun e => (by cases e), fun e => by simp [Lst] at e⟩
theorem Tup_tm (items : List Value) : Tm (Tup items) := ⟨fun e => (by cases e), fun _ e => by cases e⟩
theorem St.list {s : Shared} {l : Addr} {items : List Value} {ep : Nat} (S : St G f vs n s) (hm : (l, Lst items ep) ∈ n) : s.heap.IsList l items.toArray := ⟨_, S.get hm, rfl, ep, rfl⟩
theorem St.tup {s : Shared} {l : Addr} {items : List Value} (S : St G f vs n s) (hm : (l, Tup items) ∈ n) : s.heap.IsTuple l items.toArray := ⟨_, S.get hm, rfl, _, rfl⟩

section
variable {Q : Value → Vals → Led → Prop}
theorem Wp.abs {a : Int} {t : Tok} (h : ∀ u, Q (.int (if a < 0 then -a else a) u) vs n) : Wp G f A (PySem.call (.builtin "abs") [.int a t]) vs n Q E := by
  constructor; intro s S
  have q : ∀ u tk, ∃ vs' n', St G f vs' n' { s with toks := tk } ∧ Q (.int (if a < 0 then -a else a) u) vs' n' := fun u tk => ⟨_, _, S.tok tk, h u⟩
  with_reducible exact call_abs_int q
theorem Wp.append {D : Addr} {its : List Value} {ep : Nat} {x : Value} (hm : (D, Lst its ep) ∈ n) (hz : its.length ≤ 1000000) (h : Q .none vs (upd n D (Lst (its ++ [x]) (ep + 1)))) : Wp G f A (PySem.call (.builtin "list.append") [.ref D, x]) vs n Q E := by
  constructor; intro s S
  have q : ∀ h', Heap.SameBut D s.heap h' → h'.get? D = some { cls := .type "list", data := .seq (its.toArray.push x) (ep + 1) } → ∃ vs' n', St G f vs' n' { s with heap := h' } ∧ Q .none vs' n' := fun h' hs hg =>
    ⟨_, _, S.updE hm (Lst_pc _ _) (Lst_tm (its ++ [x]) (ep + 1)) hs.extBut (by rw [hg]; simp [Lst]) s.toks, h⟩
  have hz' : its.toArray.size ≤ sizeLine := by rw [List.size_toArray]; unfold sizeLine; omega
  have g := S.get hm
  unfold Lst at g
  with_reducible exact append_at g q hz'
/-- pop(0) -/
theorem Wp.pop0 {D : Addr} {y : Value} {its : List Value} {ep : Nat} {u : Tok} (hm : (D, Lst (y :: its) ep) ∈ n) (hz : (y :: its).length ≤ 1000000) (h : Q y vs (upd n D (Lst its (ep + 1)))) : Wp G f A (PySem.call (.builtin "list.pop") [.ref D, .int 0 u]) vs n Q E := by
  constructor; intro s S
  have g := S.get hm
  have hz' : (y :: its).toArray.size ≤ sizeLine := by rw [List.size_toArray]; unfold sizeLine; omega
  refine call_meets PySem.F.slot_list_pop ⟨_, g, rfl⟩ PySem.F.entry_list_pop (PySem.F.args_list_pop_2 _ _) (PySem.MeetsSeq.list_pop_at D _ ep 0 u 0 y (by decide) (by simp [seqIndex?]) (by simp) hz') ⟨g, ?_⟩
  refine ⟨_, _, S.updE hm (Lst_pc _ _) (Lst_tm its (ep + 1)) (Heap.SameBut.update ..).extBut ?_ s.toks, h⟩
  have q := PySem.IsL.update g (fun its => its.eraseIdxIfInBounds 0)
  rw [if_neg (by simp)] at q
  exact q.trans (by simp [Lst])
/-- a method of an own object of a type of the kit -/
theorem Wp.gm {Q : Value × List Value → Vals → Led → Prop} {D : Addr} {o : Obj} {T id : String} {name : Str} {pl : Sem Bool} (hm : (D, o) ∈ n) (pa : PlainAttrs T) (slot : PySem.Slot T name id) (ty : typeOf (.builtin id) = Pure.pure (.type "method_descriptor"))
    (h : Q (.builtin id, [.ref D]) vs n) (hc : o.cls = .type T := by rfl) (hd : o.dict = none := by rfl) : Wp G f A (getMethod (.ref D) name pl) vs n Q E := by
  constructor; intro s S
  have g := S.get hm
  exact getMethod_builtin ⟨_, g, hc⟩ pa slot ty (fun a e => by cases e; exact ⟨_, g, hd⟩) ⟨_, _, S, h⟩
theorem Wp.gmStr {Q : Value × List Value → Vals → Led → Prop} {x : Str} {t : Tok} {id : String} {name : Str} {pl : Sem Bool} (slot : PySem.Slot "str" name id) (ty : typeOf (.builtin id) = Pure.pure (.type "method_descriptor"))
    (h : Q (.builtin id, [.str x t]) vs n) : Wp G f A (getMethod (.str x t) name pl) vs n Q E :=
  ⟨fun s S => getMethod_builtin (T := "str") (typeIs_str s x t) PySem.F.plainAttrs_str slot ty (fun a e => by cases e) ⟨_, _, S, h⟩⟩
theorem Wp.gmBy {Q : Value × List Value → Vals → Led → Prop} {x : Array UInt8} {t : Tok} {id : String} {name : Str} {pl : Sem Bool} (slot : PySem.Slot "bytes" name id) (ty : typeOf (.builtin id) = Pure.pure (.type "method_descriptor"))
    (h : Q (.builtin id, [.bytes x t]) vs n) : Wp G f A (getMethod (.bytes x t) name pl) vs n Q E :=
  ⟨fun s S => getMethod_builtin (T := "bytes") (typeIs_bytes s x t) FB.plainAttrs_bytes slot ty (fun a e => by cases e) ⟨_, _, S, h⟩⟩

theorem Wp.lenL {l : Addr} {items : List Value} {ep : Nat} (hm : (l, Lst items ep) ∈ n) (hz : items.length ≤ 1000000) (h : ∀ t, Q (.int items.length t) vs n) : Wp G f A (PySem.call (.builtin "len") [.ref l]) vs n Q E := by
  constructor; intro s S
  have q : ∃ vs' n', St G f vs' n' { s with toks := s.toks + 1 + 1 } ∧ Q (.int items.toArray.size (s.toks + 1)) vs' n' := ⟨_, _, S.tok _, by rw [List.size_toArray]; exact h _⟩
  exact call_len_list (S.list hm) (by rw [List.size_toArray]; omega) q
theorem Wp.lenB {b : Array UInt8} {t : Tok} (hz : b.size ≤ 1000000) (h : ∀ t, Q (.int b.size t) vs n) : Wp G f A (PySem.call (.builtin "len") [.bytes b t]) vs n Q E := by
  constructor; intro s S
  have q : ∃ vs' n', St G f vs' n' { s with toks := s.toks + 1 + 1 } ∧ Q (.int b.size (s.toks + 1)) vs' n' := ⟨_, _, S.tok _, h _⟩
  have hz' : b.size ≤ 1099511627776 := by omega
  with_reducible exact len_bytes hz' q
theorem Wp.addB {b c : Array UInt8} {t u : Tok} (hz : b.size + c.size ≤ 1000000) (h : ∀ t, Q (.bytes (b ++ c) t) vs n) : Wp G f A (binaryOp .Add (.bytes b t) (.bytes c u)) vs n Q E := by
  constructor; intro s S
  have q : ∀ t' k, ∃ vs' n', St G f vs' n' { s with toks := k } ∧ Q (.bytes (b ++ c) t') vs' n' := fun t' k => ⟨_, _, S.tok _, h _⟩
  have hz' : b.size + c.size ≤ 16777216 := by omega
  with_reducible exact KBy.add_bytes hz' q
theorem Wp.mulB {b : List UInt8} {m : Int} {t u : Tok} (hb : b ≠ []) (h0 : 0 ≤ m) (h1 : m ≤ 10000) (hs : b.length ≤ 16) (h : ∀ t, Q (.bytes ((List.replicate m.toNat b).flatten).toArray t) vs n) : Wp G f A (binaryOp .Mult (.bytes b.toArray t) (.int m u)) vs n Q E := by
  constructor; intro s S
  have q : ∀ t' k, ∃ vs' n', St G f vs' n' { s with toks := k } ∧ Q (.bytes ((List.replicate m.toNat b).flatten).toArray t') vs' n' := fun t' k => ⟨_, _, S.tok _, h _⟩
  exact bytes_mul_any hb (by omega) (by omega) hs q
theorem Wp.eqB {b c : Array UInt8} {t u : Tok} (h : Q (.bool (b.toList == c.toList)) vs n) : Wp G f A (compareOp .Eq (.bytes b t) (.bytes c u)) vs n Q E := by
  constructor; intro s S
  have q : ∃ vs' n', St G f vs' n' s ∧ Q (.bool (b.toList == c.toList)) vs' n' := ⟨_, _, S, h⟩
  with_reducible exact eq_bytes q
theorem Wp.neB {b c : Array UInt8} {t u : Tok} (h : Q (.bool (b.toList != c.toList)) vs n) : Wp G f A (compareOp .NotEq (.bytes b t) (.bytes c u)) vs n Q E := by
  constructor; intro s S
  have q : ∃ vs' n', St G f vs' n' s ∧ Q (.bool (b.toList != c.toList)) vs' n' := ⟨_, _, S, h⟩
  with_reducible exact ne_bytes q
end

/-! subscripts -/
section
variable {Q : Value → Vals → Led → Prop} {value slice : Expr} {pos : Pos}
theorem Wp.subs (h : Wp G f A (eval value env) vs n (fun o vs1 n1 => Wp G f A (eval slice env) vs1 n1 (fun i vs2 n2 => Wp G f A (subscriptTail value slice o i) vs2 n2 Q E) E) E) : Wp G f A (eval (.Subscript value slice pos) env) vs n Q E :=
  ⟨fun s S => Subscript_ (wpAny_mono (h.run s S) (fun o s1 ⟨_, _, S1, q1⟩ => wpAny_mono (q1.run s1 S1) (fun i s2 ⟨_, _, S2, q2⟩ => q2.run s2 S2) fun _ _ x => x) fun _ _ x => x)⟩
theorem Wp.itemL {l : Addr} {items : List Value} {ep : Nat} {k : Int} {u : Tok} {x : Value} (hm : (l, Lst items ep) ∈ n) (h0 : 0 ≤ k) (hk : k ≤ 1000000) (hx : items[k.toNat]? = some x) (h : Q x vs n)
    (hs : subscripted slice false (.ref l) (.int k u) = PySem.operate [.ref l, .int k u] (getItem (.ref l) (.int k u)) := by with_unfolding_all rfl) : Wp G f A (subscriptTail value slice (.ref l) (.int k u)) vs n Q E :=
  ⟨fun s S => tail_any (S.list hm).typeIs slot_list_getitem.lookup (wpAny_getItem_list (S.list hm) h0 (by omega) (by simpa using hx) ⟨_, _, S, h⟩) hs⟩
theorem Wp.itemLneg {l : Addr} {items : List Value} {ep : Nat} {k : Int} {u : Tok} {x : Value} {j : Nat} (hm : (l, Lst items ep) ∈ n) (h0 : k < 0) (hlo : -1000000 ≤ k) (hj : seqIndex? k items.length = some j) (hx : items[j]? = some x) (h : Q x vs n)
    (hs : subscripted slice false (.ref l) (.int k u) = PySem.operate [.ref l, .int k u] (getItem (.ref l) (.int k u)) := by with_unfolding_all rfl) : Wp G f A (subscriptTail value slice (.ref l) (.int k u)) vs n Q E :=
  ⟨fun s S => kde_neg (S.list hm) h0 (by omega) hj hx ⟨_, _, S, h⟩ hs⟩
theorem Wp.itemT {l : Addr} {items : List Value} {k : Int} {u : Tok} {x : Value} (hm : (l, Tup items) ∈ n) (h0 : 0 ≤ k) (hk : k.toNat < items.length) (hx : items[k.toNat]? = some x) (hz : items.length ≤ 1000000) (h : Q x vs n)
    (hs : subscripted slice false (.ref l) (.int k u) = PySem.operate [.ref l, .int k u] (getItem (.ref l) (.int k u)) := by with_unfolding_all rfl) : Wp G f A (subscriptTail value slice (.ref l) (.int k u)) vs n Q E := by
  constructor; intro s S
  have ht : IsTup s.heap l items.toArray := ⟨_, S.get hm, rfl, _, rfl⟩
  refine tail_any (T := "tuple") ⟨_, S.get hm, rfl⟩ PySem.F.slot_tuple_getitem.lookup (PyProof.Rows.getItem_tuple ht (by omega) (by omega) (j := k.toNat) ?_ (x := x) (by simpa using hx) ⟨_, _, S, h⟩) hs
  have hn : ¬ k < 0 := by omega
  have h1 : k < items.length := by omega
  simp [seqIndex?, hn, h0, h1]
theorem Wp.itemB {b : List UInt8} {k : Int} {t u : Tok} (hz : b.length ≤ 1000000) (h0 : 0 ≤ k) (h1 : k < b.length) (h : ∀ t, Q (.int (b.getD k.toNat 0).toNat t) vs n)
    (hs : subscripted slice false (.bytes b.toArray t) (.int k u) = PySem.operate [.bytes b.toArray t, .int k u] (getItem (.bytes b.toArray t) (.int k u)) := by with_unfolding_all rfl) : Wp G f A (subscriptTail value slice (.bytes b.toArray t) (.int k u)) vs n Q E :=
  ⟨fun s S => tail_any (T := "bytes") (typeIs_bytes _ _ _) FB.slot_bytes_getitem.lookup (getItem_bytes (by omega) h0 h1 ⟨_, _, S.tok _, h _⟩) hs⟩

def SlcO (l u : Value) : Obj := { cls := .type "slice", data := .fields #[l, u, .none] }
theorem SlcO_tm (l u : Value) : Tm (SlcO l u) := ⟨fun e => (by cases e), fun _ e => by cases e⟩
theorem Wp.slc {lower upper : Option Expr} {p : Pos} (h : Wp G f A (evalPart lower env) vs n (fun l vs1 n1 => Wp G f A (evalPart upper env) vs1 n1 (fun u vs2 n2 => ∀ a, (∀ p ∈ n2, p.1 < a) → Q (.ref a) vs2 ((a, SlcO l u) :: n2)) E) E) :
    Wp G f A (eval (.Slice lower upper none p) env) vs n Q E := by
  refine ⟨fun s S => wpAny_Slice (wpAny_mono (h.run s S) (fun l s1 ⟨_, _, S1, q1⟩ => wpAny_mono (q1.run s1 S1) (fun u s2 ⟨_, _, S2, q2⟩ => ?_) fun _ _ x => x) fun _ _ x => x)⟩
  exact wpAny_pure ⟨_, _, S2.push (SlcO_tm l u) rfl s2.toks, q2 _ S2.lt⟩
theorem Wp.part0 (h : Q .none vs n) : Wp G f A (evalPart none env) vs n Q E := ⟨fun s S => wpAny_pure ⟨_, _, S, h⟩⟩
theorem Wp.part1 {e : Expr} (h : Wp G f A (eval e env) vs n Q E) : Wp G f A (evalPart (some e) env) vs n Q E := h
theorem Wp.cutB {b : Array UInt8} {t : Tok} {a : Addr} {l u : Value} {lo hi : Option Int} (hm : (a, SlcO l u) ∈ n) (hl : IsPart l lo) (hu : IsPart u hi) (hz : b.size ≤ 1000000) (h : ∀ t, Q (.bytes (KBy.picked b lo hi) t) vs n)
    (hs : subscripted slice false (.bytes b t) (.ref a) = PySem.operate [.ref a, .bytes b t] (getItem (.bytes b t) (.ref a)) := by with_unfolding_all rfl) : Wp G f A (subscriptTail value slice (.bytes b t) (.ref a)) vs n Q E := by
  constructor; intro s S
  refine tail_any (T := "bytes") (typeIs_bytes _ _ _) FB.slot_bytes_getitem.lookup (getItem_meets (typeIs_bytes _ _ _) (by decide) FB.slot_bytes_getitem FB.entry_bytes_getitem (FB.args_bytes_getitem_2 _ _) (KBc.meets_slice2 b t a hl hu) ⟨⟨_, S.get hm, rfl, rfl⟩, ?_, fun t' k => ⟨_, _, S.tok k, h t'⟩⟩) hs
  have := KBc.size_picked_le b lo hi
  unfold sizeLine; omega
theorem Wp.cutL {l sl : Addr} {items : List Value} {ep : Nat} {vl vu : Value} {lo hi : Option Int} (hm : (l, Lst items ep) ∈ n) (hsl : (sl, SlcO vl vu) ∈ n) (pl : IsPart vl lo) (pu : IsPart vu hi) (hz : items.length ≤ 1000000)
    (h : ∀ a, (∀ p ∈ n, p.1 < a) → Q (.ref a) vs ((a, Lst (slicePick items.toArray lo hi none).toList) :: n))
    (hs : subscripted slice false (.ref l) (.ref sl) = PySem.operate [.ref sl, .ref l] (getItem (.ref l) (.ref sl)) := by with_unfolding_all rfl) : Wp G f A (subscriptTail value slice (.ref l) (.ref sl)) vs n Q E := by
  constructor; intro s S
  refine tail_any (S.list hm).typeIs slot_list_getitem.lookup (wpAny_getItem_list_slice (S.list hm) ⟨_, S.get hsl, rfl, rfl⟩ pl pu .none (fun e => by cases e) ?_ (by rw [List.size_toArray]; unfold sizeLine; omega)) hs
  exact ⟨_, _, S.push (o := Lst (slicePick items.toArray lo hi none).toList) (Lst_tm _ _) rfl s.toks, h _ S.lt⟩
end
end
end

section
open PySem PySem.Spec PySem.Calls PyProof.Rows PySem.W

/-- the env of a comprehension -/
def cEnv (scope : Scope) (cl : List (Str × Addr)) (C : Addr) (env : Env) : Env :=
  { scope := relabel scope env, locals := C, globals := env.globals, cells := cellsFrom (C + 1) scope.names cl, qual := env.qual, func := none, code := env.code, frame := env.frame, builtins := env.builtins }

section
variable {G : Gl} {f : Fk} {A : Around} {vs : Vals} {n : Led} {E : Value → Shared → Prop} {env : Env}

/-- one turn of a comprehension and its end -/
structure CompI (G : Gl) (A : Around) (env : Env) (scope : Scope) (cl : List (Str × Addr)) (x : Str) (elt : Expr) (n1 : Led) (ns : List Str) (item : Nat → Value → Prop) (N : Nat) (src : Led) (I : Addr → Nat → List Value → Vals → Led → Prop) : Prop where
  src : ∀ C i ws vs n, I C i ws vs n → ∀ p ∈ src, p ∈ n
  sub : ∀ C i ws vs n, I C i ws vs n → Sub n (cellLed (C + 1) scope.names ++ n1)
  turn : ∀ g C D it o i v ws vs n, (∀ p ∈ n1, p.1 < it) → it < D → D < C → i < N → item i v → I C i ws vs n → (∀ p ∈ n, p.1 ≠ it ∧ p.1 ≠ D) →
    Wp G ⟨g, C, ns⟩ A (storeName (cEnv scope cl C env) x v) vs ((it, o) :: (D, Lst ws i) :: n) (fun _ vs2 n2 => Wp G ⟨g, C, ns⟩ A (eval elt (cEnv scope cl C env)) vs2 n2
      (fun y vs3 n3 => ∃ n4, (∀ p ∈ (it, o) :: (D, Lst ws i) :: n4, p ∈ n3) ∧ I C (i + 1) (ws ++ [y]) vs3 n4) Bot) Bot

theorem compCore {elt iter : Expr} {x : Str} {px : Pos} {scope : Scope} {cl : List (Str × Addr)} {pos : Pos} {it : Addr} {o0 : Obj} {MK : Nat → Obj → Prop} {item : Nat → Value → Prop} {N : Nat} {src : Led} {ns : List Str}
    {I : Addr → Nat → List Value → Vals → Led → Prop} {RR : Value → Addr → Result → Shared → Prop} {s : Shared}
    (S : St G f vs ((it, o0) :: n) s) (T : Itr G A it MK item N src) (hmk : MK 0 o0) (CI : CompI G A env scope cl x elt n ns item N src I) (hlt : ∀ p ∈ n, p.1 < it) (hN : N ≤ 1000000)
    (h0 : ∀ C, (∀ p ∈ n, p.1 < C) → I C 0 [] (List.replicate ns.length none) (cellLed (C + 1) scope.names ++ n))
    (hRR : ∀ g D C ws vs' n' s', (∀ p ∈ n, p.1 < D) → D < C → I C N ws vs' n' → ws.length = N → St G ⟨g, C, ns⟩ vs' ((D, Lst ws N) :: n') s' →
      f.L < C → s'.heap.Ns f.L (look f.ns vs) → (∀ h' k vs2, h'.Ns f.L (look f.ns vs2) → (∀ b o, b ≠ C → b ≠ f.L → s'.heap.get? b = some o → h'.get? b = some o) → St G f vs2 ((D, Lst ws N) :: n') { s' with heap := h', toks := k }) → RR (.ref D) C (.ok .next) s') :
    wpAny (model G.prog G.w) A (PySem.newList []) (fun acc s₃ => wpAny (model G.prog G.w) A (newFunctionEnv scope env.globals cl [] env.qual none .none (some env)) (fun cenv s₄ =>
      codeAny (model G.prog G.w) A (.compStart (.ListComp elt [⟨.Name x px, iter, [], 0⟩] scope pos) 0 (.ref it) acc { cenv with scope := relabel scope env }) (RR acc cenv.locals) s₄) E s₃) E s := by
  refine wpAny_newObj_type ?_ (by size_fits)
  have hit : it < s.heap.objs.size := S.lt (it, o0) (.head _)
  have S1 := S.push (o := Lst []) (Lst_tm _ _) rfl s.toks
  generalize hD : s.heap.objs.size = D at S1 hit
  have S1' : St G f vs ((D, Lst []) :: (it, o0) :: n) { s with heap := s.heap.push { cls := .type "list", data := .seq ([] : List Value).toArray } } := S1
  generalize hs1 : ({ s with heap := s.heap.push { cls := .type "list", data := .seq ([] : List Value).toArray } } : Shared) = s1 at S1'
  obtain ⟨g, st, hlt', S2, hfL, nsf, back⟩ := newEnv_St S1' scope.names ns (.type "dict")
  have hDC : D < s1.heap.objs.size := hlt' _ (.head _)
  unfold newFunctionEnv
  simp only [Option.isSome_some, if_true]
  refine wpAny_bind (wpAny_alloc ?_)
  refine wpAny_bind (wpAny_layCells _ (fun name kind cells => by cases hkc : kind == NameKind.cell <;> simp) _ _ _ _ ?_)
  rw [show ({ s1 with heap := s1.heap.push { cls := .type "dict", data := .dict #[] } } : Shared).heap.objs.size = s1.heap.objs.size + 1 from Heap.size_push ..]
  refine wpAny_bind ?_
  rw [List.forIn_nil]
  refine wpAny_pure (wpAny_pure ?_)
  generalize hC : s1.heap.objs.size = C at S2 back nsf hfL hDC hlt'
  show codeAny (model G.prog G.w) A (.compStart (.ListComp elt [⟨.Name x px, iter, [], 0⟩] scope pos) 0 (.ref it) (.ref D) (cEnv scope cl C env)) (RR (.ref D) C) _
  have hcell : ∀ p ∈ cellLed (C + 1) scope.names, C + 1 ≤ p.1 := fun p hp => by
    have z := pushCells_led scope.names (s1.heap.push { cls := .type "dict", data := .dict #[] }) p (by rw [show (s1.heap.push { cls := .type "dict", data := .dict #[] }).objs.size = s1.heap.objs.size + 1 from Heap.size_push .., hC]; exact hp)
    rw [show (s1.heap.push { cls := .type "dict", data := .dict #[] }).objs.size = s1.heap.objs.size + 1 from Heap.size_push .., hC] at z
    exact z.2
  have hne : ∀ n', Sub n' (cellLed (C + 1) scope.names ++ n) → ∀ p ∈ n', p.1 ≠ it ∧ p.1 ≠ D := fun n' hsub p hp => by
    obtain ⟨q, hq, e⟩ := hsub p hp
    rcases List.mem_append.mp hq with hq | hq
    · have h1 := Nat.lt_of_lt_of_le hDC (Nat.le_of_succ_le (hcell q hq))
      rw [← e]; exact ⟨Nat.ne_of_gt (Nat.lt_trans hit h1), Nat.ne_of_gt h1⟩
    · have h1 := hlt q hq
      rw [← e]; exact ⟨Nat.ne_of_lt h1, Nat.ne_of_lt (Nat.lt_trans h1 hit)⟩
  have hltC : ∀ p ∈ n, p.1 < C := fun p hp => Nat.lt_trans (hlt p hp) (Nat.lt_trans hit hDC)
  have S2' := S2.sub (n' := (it, o0) :: (D, Lst []) :: (cellLed (C + 1) scope.names ++ n)) fun p hp => by
    simp only [List.mem_cons, List.mem_append] at hp ⊢
    rcases hp with h | h | h | h <;> simp [h]
  generalize ({ s1 with heap := pushCells (s1.heap.push { cls := .type "dict", data := .dict #[] }) scope.names } : Shared) = s2 at S2'
  have loop : ∀ s2, St G ⟨g, C, ns⟩ (List.replicate ns.length none) ((it, o0) :: (D, Lst []) :: (cellLed (C + 1) scope.names ++ n)) s2 →
      codeAny (model G.prog G.w) A (.compLoop (.ListComp elt [⟨.Name x px, iter, [], 0⟩] scope pos) 0 (.ref it) (.ref D) (cEnv scope cl C env)) (RR (.ref D) C) s2 := fun s2 S2' => by
    refine codeAny_compLoop_list (fun k s => ∃ i ws vs' n' o, k = N - i ∧ i ≤ N ∧ MK i o ∧ ws.length = i ∧ St G ⟨g, C, ns⟩ vs' ((it, o) :: (D, Lst ws i) :: n') s ∧ I C i ws vs' n') (fun k s ⟨i, ws, vs1, n2, oi, hk, hi, hm, hwl, Sx, hI⟩ => ?_) N
      ⟨0, [], _, _, o0, rfl, Nat.zero_le _, hmk, rfl, S2', h0 C hltC⟩
    have hsub := CI.sub _ _ _ _ _ hI
    have hnn := hne n2 hsub
    have hit2 : ∀ p ∈ (D, Lst ws i) :: n2, p.1 ≠ it := fun p hp => by
      rcases List.mem_cons.mp hp with e | hp
      · rw [e]; exact Nat.ne_of_gt hit
      · exact (hnn p hp).1
    have hsr : ∀ p ∈ src, p ∈ (D, Lst ws i) :: n2 := fun p hp => .tail _ (CI.src _ _ _ _ _ hI p hp)
    by_cases hi' : i < N
    · refine wpAny_mono ((T.nx _ i oi vs1 _ hm hi' hsr hit2).run s Sx) (fun r s3 ⟨vs2, n3, S3, v, o', e, hv, e1, e2, hm'⟩ => ?_) fun _ _ x => x.elim
      subst e e1 e2
      refine wpAny_assign_Name (wpAny_mono ((CI.turn g C D it o' i v ws _ n2 hlt hit hDC hi' hv hI hnn).run s3 S3) (fun _ s4 ⟨vs4, n4, S4, q⟩ => ?_) fun _ _ x => x.elim)
      refine wpAny_mono (q.run s4 S4) (fun y s5 ⟨vs5, n5, S5, n6, hs6, hI'⟩ => ?_) fun _ _ x => x.elim
      have S6 := S5.sub hs6
      have hz : ws.length ≤ 1000000 := by omega
      refine wpAny_mono ((Wp.append (Q := fun _ vs7 n7 => vs7 = vs5 ∧ n7 = upd ((it, o') :: (D, Lst ws i) :: n6) D (Lst (ws ++ [y]) (i + 1))) (E := Bot) (.tail _ (.head _)) hz ⟨rfl, rfl⟩).run s5 S6) (fun _ s7 ⟨vs7, n7, S7, e1, e2⟩ => ?_) fun _ _ x => x.elim
      subst e1 e2
      have hsub' := CI.sub _ _ _ _ _ hI'
      have e7 : upd ((it, o') :: (D, Lst ws i) :: n6) D (Lst (ws ++ [y]) (i + 1)) = (it, o') :: (D, Lst (ws ++ [y]) (i + 1)) :: n6 := by
        rw [upd_cons_ne (Nat.ne_of_lt hit), upd_cons, upd_id fun p hp => (hne n6 hsub' p hp).2]
      rw [e7] at S7
      exact ⟨N - (i + 1), by omega, i + 1, ws ++ [y], _, n6, o', rfl, hi', hm', by simp [hwl], S7, hI'⟩
    · have : i = N := by omega
      subst this
      refine wpAny_mono ((T.en _ oi vs1 _ hm hsr hit2).run s Sx) (fun r s3 ⟨vs2, n3, S3, e, e1, e2⟩ => ?_) fun _ _ x => x.elim
      subst e e1 e2
      exact hRR g D C ws _ n2 s3 (fun p hp => Nat.lt_trans (hlt p hp) hit) hDC hI hwl S3 hfL (nsf _ _ _ S3) fun h' k vs2 hns hs => back s3 _ _ h' k vs2 S3 hns hs
  refine codeAny_compStart_list (loop _ S2') ?_
  refine wpAny_mono ((T.slf _ 0 o0 _ _ Bot (fun v vs' n' => v = .ref it ∧ vs' = List.replicate ns.length none ∧ n' = (it, o0) :: (D, Lst []) :: (cellLed (C + 1) scope.names ++ n)) hmk ⟨rfl, rfl, rfl⟩).run s2 S2') (fun v s3 ⟨vs3, n3, S3, e, e1, e2⟩ => ?_) fun _ _ x => x.elim
  subst e e1 e2
  exact loop _ S3

/-- [elt for x in iter] -/
theorem Wp.comp {elt iter : Expr} {x : Str} {px : Pos} {scope : Scope} {cl : List (Str × Addr)} {pos : Pos} {Q : Value → Vals → Led → Prop} (item : Nat → Value → Prop) (N : Nat) (src : Led) (ns : List Str) (I : Addr → Nat → List Value → Vals → Led → Prop)
    (hclos : closureFor scope env = Pure.pure cl) (hkind : scope.kind = .function) (hnames : ∀ y ∈ scope.names, y.2 = .local → scope.names.lookup y.1 = some .local) (hN : N ≤ 1000000)
    (h : Wp G f A (eval iter env) vs n (fun v vs1 n1 => ItrOf G f A v n1 item N src ∧ CompI G A env scope cl x elt n1 ns item N src I ∧
      (∀ C, (∀ p ∈ n1, p.1 < C) → I C 0 [] (List.replicate ns.length none) (cellLed (C + 1) scope.names ++ n1)) ∧
      (∀ D C ws vs' n', (∀ p ∈ n1, p.1 < D) → I C N ws vs' n' → ws.length = N → ∃ n5, (∀ p ∈ n5, p ∈ (D, Lst ws N) :: n') ∧ Q (.ref D) vs1 n5)) E)
    (hs : ∀ x, foldedSetIterable iter env x = Pure.pure x := by intro _; rfl) :
    Wp G f A (eval (.ListComp elt [⟨.Name x px, iter, [], 0⟩] scope pos) env) vs n Q E := by
  constructor; intro s S
  rw [eval_ListComp]
  refine wpAny_comprehension_free (use := none) rfl hs hclos hkind hnames (wpAny_mono (h.run s S) (fun v s1 ⟨vs1, n1, S1, hit, CI, h0, fin⟩ => ?_) fun _ _ x => x)
  refine wpAny_mono ((hit vs1 E (fun itv vs2 n2 => ∃ it o MK, itv = .ref it ∧ vs2 = vs1 ∧ n2 = (it, o) :: n1 ∧ (∀ p ∈ n1, p.1 < it) ∧ Itr G A it MK item N src ∧ MK 0 o) (fun it o MK hl T hm => ⟨it, o, MK, rfl, rfl, rfl, hl, T, hm⟩)).run s1 S1) (fun itv s2 ⟨vs2, n2, S2, it, o, MK, e, e1, e2, hl, T, hm⟩ => ?_) fun _ _ x => x
  subst e e1 e2
  refine compCore (RR := fun acc C => compPost (model G.prog G.w) A E none _ acc C) S2 T hm CI hl hN h0 fun g D C ws vs' n' s' hlD hDC hI hwl S' hfL nsf back => ?_
  obtain ⟨n5, hs5, q⟩ := fin D C ws vs' n' hlD hI hwl
  exact ⟨_, S'.F.ns, fun h' hsb => ⟨_, _, (back h' s'.toks _ (nsf.sameBut hsb (Nat.ne_of_lt hfL)) fun b o h1 _ e => (hsb.2 b h1).trans e).sub hs5, q⟩⟩

/-- y = [elt for x in iter], the stores exchanged -/
theorem Wp.conC {elt iter : Expr} {x y : Str} {px py : Pos} {scope : Scope} {cl : List (Str × Addr)} {pos spos : Pos} {rest : List Stmt} {Q : Flow → Vals → Led → Prop} {R : List (Str × Slot)} {j : Nat} (item : Nat → Value → Prop) (N : Nat) (src : Led) (ns : List Str) (I : Addr → Nat → List Value → Vals → Led → Prop)
    (r : Res G f env R) (hy : (y, Slot.loc j) ∈ R)
    (hsw : swapsWith (.ListComp elt [⟨.Name x px, iter, [], 0⟩] scope pos) (some (.Name y py)) spos.line env = Pure.pure true)
    (hclos : closureFor scope env = Pure.pure cl) (hkind : scope.kind = .function) (hnames : ∀ y ∈ scope.names, y.2 = .local → scope.names.lookup y.1 = some .local) (hN : N ≤ 1000000)
    (h : Wp G f A (eval iter env) vs n (fun v vs1 n1 => j < vs1.length ∧ ItrOf G f A v n1 item N src ∧ CompI G A env scope cl x elt n1 ns item N src I ∧
      (∀ C, (∀ p ∈ n1, p.1 < C) → I C 0 [] (List.replicate ns.length none) (cellLed (C + 1) scope.names ++ n1)) ∧
      (∀ D C ws vs' n', (∀ p ∈ n1, p.1 < D) → I C N ws vs' n' → ws.length = N → ∃ n5, (∀ p ∈ n5, p ∈ (D, Lst ws N) :: n') ∧ Wp G f A (execs rest env) (vs1.set j (some (.ref D))) n5 Q E)) E)
    (hs : ∀ x, foldedSetIterable iter env x = Pure.pure x := by intro _; rfl) :
    Wp G f A (execs (.Assign [.Name y py] (.ListComp elt [⟨.Name x px, iter, [], 0⟩] scope pos) spos :: rest) env) vs n Q E := by
  refine Wp.cons ⟨fun s S => ?_⟩
  rw [exec_Assign_Name_used _ _ _ _ hsw]
  refine wpAny_bind (wpAny_standAt (wpAny_bind ?_))
  show wpAny _ A (do let _ ← comprehension (.ListComp elt [⟨.Name x px, iter, [], 0⟩] scope pos) scope env _ (PySem.newList []) false (eval iter env) (some (assign (.Name y py) env))) _ _ s
  refine wpAny_bind (wpAny_comprehension_free (use := some (assign (.Name y py) env)) rfl hs hclos hkind hnames (wpAny_mono (h.run s S) (fun v s1 ⟨vs1, n1, S1, hj, hit, CI, h0, fin⟩ => ?_) fun _ _ x => x))
  refine wpAny_mono ((hit vs1 E (fun itv vs2 n2 => ∃ it o MK, itv = .ref it ∧ vs2 = vs1 ∧ n2 = (it, o) :: n1 ∧ (∀ p ∈ n1, p.1 < it) ∧ Itr G A it MK item N src ∧ MK 0 o) (fun it o MK hl T hm => ⟨it, o, MK, rfl, rfl, rfl, hl, T, hm⟩)).run s1 S1) (fun itv s2 ⟨vs2, n2, S2, it, o, MK, e, e1, e2, hl, T, hm⟩ => ?_) fun _ _ x => x
  subst e e1 e2
  refine compCore (RR := fun acc C => compPost (model G.prog G.w) A E (some (assign (.Name y py) env)) _ acc C) S2 T hm CI hl hN h0 fun g D C ws vs' n' s' hlD hDC hI hwl S' hfL nsf back => ?_
  obtain ⟨n5, hs5, q⟩ := fin D C ws vs' n' hlD hI hwl
  obtain ⟨k, hn, _⟩ := r.ok _ _ hy
  have hCL : C ≠ f.L := Nat.ne_of_gt hfL
  refine wpAny_assign_Name (wpAny_storeName_local k (r.loc ▸ nsf) (fun h' hn' hs' => ?_) ?_)
  · rw [r.loc] at hn' hs'
    rw [look_set r.nd hn hj] at hn'
    refine ⟨_, S'.F.ns.sameBut hs' hCL, fun h'' hsb => ?_⟩
    have SF := (back h'' (s'.toks + 1) _ (hn'.sameBut hsb hCL.symm) fun b o h1 h2 e => (hsb.2 b h1).trans ((hs'.2 b h2).trans e)).sub hs5
    exact wpAny_pure (wpAny_pure ⟨_, _, SF, q⟩)
  · rw [r.kind]; rfl
end
end

section
open PySem PySem.Spec PySem.Calls PyProof.Rows PySem.W Builtin
theorem slot_join : PySem.Slot "bytes" "join" "bytes.join" :=
  .of (owner := "bytes") (n := "join") (by rw [typeLookup_type, builtinLookup_eq_fast]; kernel_rfl) (by decide +kernel) (by decide +kernel) (by decide +kernel)
    (by first | exact .inl (by decide +kernel) | exact .inr (by decide +kernel)) (by rw [isSubtype_type]; kernel_rfl)
theorem type_join : typeOf (.builtin "bytes.join") = pure (.type "method_descriptor") := by show builtinType _ = _; rw [builtinType_eq_fast]; kernel_rfl
theorem entry_join : entryFor table "bytes.join" = some Builtin.«bytes.join» := entryFor_of_tree (by kernel_rfl)
theorem args_join_2 (a b : Value) : argsOk "bytes.join" ⟨[a, b], []⟩ := by
  unfold argsOk; rw [signature?_of (id := "bytes.join") (n := ['n', 'i', 'o', 'j']) (o := ['s', 'e', 't', 'y', 'b']) (by kernel_rfl) FB.owner_bytes]; kernel_rfl
theorem take_buf (id : String) (b : Array UInt8) (t : Tok) : Bytes.takeBufferQuiet? id (.bytes b t) 0 = pure (some (b, none)) := by kernel_rfl
theorem self_one (v : Value) (b : Array UInt8) (t : Tok) (id : String) : selfAndOne id ⟨[.bytes b t, v], []⟩ = pure (.bytes b t, v) := by first | rfl | kernel_rfl
theorem args_decode_2 (a b : Value) : argsOk "bytes.decode" ⟨[a, b], []⟩ := by
  unfold argsOk; rw [signature?_of (id := "bytes.decode") (n := ['e', 'd', 'o', 'c', 'e', 'd']) (o := ['s', 'e', 't', 'y', 'b']) (by kernel_rfl) FB.owner_bytes]; kernel_rfl
abbrev JSt := Array (Array UInt8) × List (Value × Option Value)
def TkOk (tk : List (Value × Option Value)) : Prop := ∀ y ∈ tk, y.2 = none ∧ ∃ b t, y.1 = .bytes b t
def byVal (p : List UInt8 × Tok) : Value := .bytes p.1.toArray p.2
section
variable {prog : Program} {w : World} {M : Model} {A : Around} {E : Value → Shared → Prop} {s : Shared}
theorem forIn_collect (bs : List (List UInt8 × Tok)) (F : Nat → JSt → Sem (ForInStep JSt))
    (hF : ∀ i p tk, (h : i < bs.length) → TkOk tk → ∀ Q : ForInStep JSt → Shared → Prop, Q (.yield (p.push bs[i].1.toArray, tk ++ [(byVal bs[i], none)])) s → wpAny M A (F i (p, tk)) Q E s) :
    ∀ (k j : Nat) (p : Array (Array UInt8)) (tk : List (Value × Option Value)) (Q : JSt → Shared → Prop), j + k = bs.length → TkOk tk → (∀ tk', TkOk tk' → Q (p ++ ((bs.drop j).map (·.1.toArray)).toArray, tk') s) → wpAny M A (forIn (List.range' j k) (p, tk) F) Q E s := by
  intro k
  induction k with
  | zero =>
    intro j p tk Q hjk htk hQ
    have := hQ tk htk
    rw [List.drop_of_length_le (by omega)] at this
    exact wpAny_pure (by simpa using this)
  | succ k ih =>
    intro j p tk Q hjk htk hQ
    have hj : j < bs.length := by omega
    rw [List.range'_succ, List.forIn_cons]
    refine wpAny_bind (hF j p tk hj htk _ ?_)
    refine ih (j + 1) _ _ Q (by omega) (fun y hy => ?_) fun tk' htk' => ?_
    · rcases List.mem_append.mp hy with hy | hy
      · exact htk y hy
      · rw [List.mem_singleton.mp hy]; exact ⟨rfl, _, _, rfl⟩
    · have := hQ tk' htk'
      rw [List.drop_eq_getElem_cons hj, List.map_cons] at this
      simpa [-List.map_drop] using this
theorem joinLetGo_ok (keep : List Value) : ∀ (tk : List (Value × Option Value)), TkOk tk → ∀ {Q : Unit → Shared → Prop}, Q () s → wpAny M A (Bytes.joinLetGo tk keep) Q E s
  | [], _, _, h => wpAny_pure h
  | (x, u) :: r, htk, Q, h => by
    obtain ⟨e, _⟩ := htk _ (.head _)
    simp only at e
    subst e
    unfold Bytes.joinLetGo
    refine wpAny_bind (wpAny_letGo ?_)
    exact joinLetGo_ok keep r (fun y hy => htk y (.tail _ hy)) h
theorem joined_eq (l : List (Array UInt8)) : Bytes.joined #[] l = ((l.map (·.toList)).flatten).toArray := by
  unfold Bytes.joined
  have h : ∀ (l : List (Array UInt8)) (k : Nat) (acc : Array UInt8), (l.zipIdx k).foldl (fun out (x : Array UInt8 × Nat) => (if x.2 > 0 then out ++ #[] else out) ++ x.1) acc = acc ++ ((l.map (·.toList)).flatten).toArray := by
    intro l
    induction l with
    | nil => intro k acc; simp
    | cons a l ih => intro k acc; rw [List.zipIdx_cons, List.foldl_cons, ih]; apply Array.toList_inj.mp; simp
  have := h l 0 #[]
  simpa using this
theorem join_call {l : Addr} {t : Tok} {bs : List (List UInt8 × Tok)} {Q : Value → Shared → Prop} (hl : s.heap.IsList l (bs.map byVal).toArray) (hz : (bs.map (·.1)).flatten.length ≤ 1000000)
    (h : ∀ t' k, Q (.bytes ((bs.map (·.1)).flatten).toArray t') { s with toks := k }) :
    wpAny (model prog w) A (call (.builtin "bytes.join") [.bytes #[] t, .ref l]) Q E s := by
  refine wpAny_call_entry slot_join (typeIs_bytes _ _ _) entry_join ?_ (args_join_2 _ _)
  unfold Builtin.«bytes.join» Bytes.joinM
  refine wpAny_bind (wpAny_of_eq (self_one _ _ _ _) ?_)
  refine bm_if_true rfl ?_
  refine wpAny_bind ?_
  unfold Bytes.joinItems
  refine wpAny_bind (wpAny_typeOf hl.typeIs ?_)
  refine bm_if_true rfl ?_
  refine wpAny_pure ?_
  obtain ⟨o, ho, hc, ne, hd⟩ := id hl
  refine wpAny_bind (wpAny_seqItems ho hd ?_)
  refine bm_if_true rfl ?_
  have gen : ∀ (F : Nat → JSt → Sem (ForInStep JSt)) (K : JSt → Sem PySem.Fin) (P : PySem.Fin → Shared → Prop) (E' : Value → Shared → Prop),
    (∀ i p tk, (h : i < bs.length) → TkOk tk → ∀ Q : ForInStep JSt → Shared → Prop, Q (.yield (p.push bs[i].1.toArray, tk ++ [(byVal bs[i], none)])) s → wpAny (model prog w) A.in1 (F i (p, tk)) Q E' s) →
    (∀ tk, TkOk tk → wpAny (model prog w) A.in1 (K ((bs.map (·.1.toArray)).toArray, tk)) P E' s) →
    wpAny (model prog w) A.in1 (forIn [:(bs.map byVal).toArray.size] ((#[], []) : JSt) F >>= K) P E' s := fun F K P E' hF hK => by
    refine wpAny_bind ?_
    rw [Std.Legacy.Range.forIn_eq_forIn_range']
    refine forIn_collect bs F hF _ 0 _ _ _ (by simp [Std.Legacy.Range.size]) (fun y hy => by cases hy) fun tk' htk' => ?_
    simpa using hK tk' htk'
  have szeq : ((((bs.map (·.1.toArray)).toArray).toList.map (·.toList)).flatten).toArray.size = (bs.map (·.1)).flatten.length := by simp [List.map_map, Function.comp_def]
  have catEq : (((bs.map (·.1.toArray)).toArray).toList.map (·.toList)).flatten = (bs.map (·.1)).flatten := by simp [List.map_map, Function.comp_def]
  have fsum : ∀ (l : List (List UInt8 × Tok)) (k : Nat), (l.map (·.1.toArray)).foldl (fun x1 x2 => x1 + x2.size) k = k + (l.map (·.1)).flatten.length := by
    intro l
    induction l with
    | nil => intro k; simp
    | cons a l ih => intro k; rw [List.map_cons, List.foldl_cons, ih]; simp; omega
  have toolong : Bytes.tooLong (Array.foldl (fun x1 x2 => x1 + x2.size) ((#[] : Array UInt8).size * ((bs.map (·.1.toArray)).toArray.size - 1)) (bs.map (·.1.toArray)).toArray) = false := by
    unfold Bytes.tooLong
    rw [List.foldl_toArray, fsum]
    simp only [decide_eq_false_iff_not, sizeLine]
    simp
    simp at hz
    omega
  have fin : ∀ (tk : List (Value × Option Value)), TkOk tk → wpAny (model prog w) A.in1 (do
      let sep ← Bytes.payload (Value.bytes #[] t)
      let __do_jp : Unit → Sem PySem.Fin := fun __r => do
        let result ← Bytes.Kind.bytes.new (Bytes.joined sep ((bs.map (·.1.toArray)).toArray).toList)
        holding (result :: List.flatMap (fun x : Value × Option Value => match x with | (y, u) => y :: u.toList) tk) point
        Bytes.joinLetGo tk [result]
        ret result
      if Bytes.tooLong (Array.foldl (fun x1 x2 => x1 + x2.size) (sep.size * ((bs.map (·.1.toArray)).toArray.size - 1)) (bs.map (·.1.toArray)).toArray) = true then do
        let __r ← unsupported (toString (toString Bytes.Kind.bytes.name ++ toString ".join") ++ toString ":memory")
        __do_jp __r
      else __do_jp ()) (fun fin s' => ∃ v, fin = Fin.done (Flow.ret v) ∧ Q v s') E s := fun tk htk => by
    refine wpAny_bind (wpAny_of_eq (a := #[]) rfl ?_)
    refine bm_if_false toolong ?_
    refine wpAny_bind (m := Bytes.Kind.bytes.new _) ?_
    refine wpAny_mkBytes ?_ (by rw [joined_eq, szeq]; unfold sizeLine; omega)
    refine wpAny_bind (wpAny_holding (wpAny_point ?_))
    refine wpAny_bind (joinLetGo_ok _ _ htk ?_)
    rw [joined_eq, catEq]
    exact wpAny_pure ⟨_, rfl, h _ _⟩
  have heap : ∀ (tk : List (Value × Option Value)), TkOk tk → (tk.any fun x => x.1.onHeap) = false := fun tk htk => by
    rw [List.any_eq_false]
    intro y hy
    obtain ⟨_, b, t, e⟩ := htk y hy
    rw [e]; simp [Value.onHeap]
  have get : ∀ i (h : i < bs.length), (bs.map byVal).toArray.getD i .none = byVal bs[i] := fun i h => by simp [Array.getD, h]
  match bs, hl, hz, h, hd, gen, fin, get with
  | [], hl, hz, h, hd, gen, fin, get =>
    refine gen _ _ _ _ (fun i p tk h => by cases h) fun tk htk => fin tk htk
  | [x], hl, hz, h, hd, gen, fin, get =>
    refine wpAny_bind (wpAny_typeOf (T := "bytes") (typeIs_bytes _ _ _) ?_)
    refine bm_if_true rfl ?_
    refine wpAny_bind (wpAny_rule ?_)
    have h' := h x.2 s.toks
    simp only [List.map_cons, List.map_nil, List.flatten_cons, List.flatten_nil, List.append_nil] at h'
    exact wpAny_pure ⟨_, rfl, h'⟩
  | x :: y :: r, hl, hz, h, hd, gen, fin, get =>
    refine gen _ _ _ _ (fun i p tk hi htk Q' hQ' => ?_) fun tk htk => fin tk htk
    refine wpAny_bind (wpAny_seqItems ho hd ?_)
    refine bm_if_false (by rw [heap tk htk]; rfl) ?_
    rw [get i hi]
    refine wpAny_bind (wpAny_holding (wpAny_of_eq (take_buf _ _ _) ?_))
    refine wpAny_bind (wpAny_seqItems ho hd ?_)
    refine bm_if_false (by simp) ?_
    exact wpAny_pure hQ'
end
section
variable {prog : Program} {w : World} {A : Around} {E : Value → Shared → Prop} {s : Shared}
theorem dec_entry (c : UInt8) (cs : List UInt8) (t u : Tok) : «bytes.decode» ⟨[.bytes (c :: cs).toArray t, .str (Str.ofString "ascii") u], []⟩ = (mkStr (PySem.Str.ofString "utf-8") >>= fun _ => mkStr (PySem.Str.ofString "ascii") >>= fun e => mkStr (PySem.Str.ofString "bytes.decode") >>= fun d =>
    call (.builtin "_codecs.decode.text") [.bytes (c :: cs).toArray t, e, .none, d] >>= fun v => ret v) := by kernel_rfl
theorem dec_road {id : String} {b : Array UInt8} : _codecs.decodeRoad id b (PySem.Str.ofString "ascii") none [] = (_codecs.runDecoder id _codecs.asciiDecoder none true b 0 [] >>= fun r => mkStr ⟨r.1⟩) := by kernel_rfl
theorem dec_text {b : Array UInt8} {x : PySem.Str} {n : Nat} {t t1 t2 : Tok} {d : PySem.Str} (hd : ∀ id, _codecs.runDecoder id _codecs.asciiDecoder none true b 0 [] = pure (x.cps, n)) :
    Meets («_codecs.decode.text» ⟨[.bytes b t, .str (PySem.Str.ofString "ascii") t1, .none, .str d t2], []⟩) (fun _ R s => x.length ≤ sizeLine ∧ R (.ok (.ret (.str x s.toks))) { s with toks := s.toks + 1 }) := by
  refine .of_wp fun prog w A R s hS => ?_
  obtain ⟨hsz, h⟩ := hS
  show wpAny _ _ (Bytes.bytesLike _ (.bytes b t) >>= fun r => _) _ _ s
  refine wpAny_bind (wpAny_of_eq KBd.like_eq ?_)
  show wpAny _ _ (_codecs.dataHeld _ (.bytes b t) >>= fun r => _) _ _ s
  refine wpAny_bind (wpAny_of_eq KBd.held_eq ?_)
  refine wpAny_bind ?_
  rw [dec_road, hd]
  refine wpAny_bind (wpAny_pure ?_)
  exact wpAny_mkStr (wpAny_pure ⟨_, rfl, h⟩) hsz
theorem dec_call {c : UInt8} {cs : List UInt8} {x : PySem.Str} {n : Nat} {t u : Tok} {Q : Value → Shared → Prop} (hd : ∀ id, _codecs.runDecoder id _codecs.asciiDecoder none true (c :: cs).toArray 0 [] = pure (x.cps, n)) (hsz : x.length ≤ sizeLine) (h : ∀ t' k, Q (.str x t') { s with toks := k }) :
    wpAny (model prog w) A (call (.builtin "bytes.decode") [.bytes (c :: cs).toArray t, .str (Str.ofString "ascii") u]) Q E s := by
  refine wpAny_call_entry FB.slot_bytes_decode (typeIs_bytes _ _ _) FB.entry_bytes_decode ?_ (args_decode_2 _ _)
  rw [dec_entry]
  refine wpAny_bind (wpAny_mkStr ?_ (by decide))
  refine wpAny_bind (wpAny_mkStr ?_ (by decide))
  refine wpAny_bind (wpAny_mkStr ?_ (by decide))
  exact wpAny_bind (call_function_meets KBd.kind_text KBd.plain_text KBd.entry_text (KBd.args_text _ _ _ _) (dec_text hd) ⟨hsz, wpAny_pure ⟨_, rfl, h _ _⟩⟩)
theorem enc_call {x : PySem.Str} {b : Array UInt8} {t u : Tok} {Q : Value → Shared → Prop} (hd : «str.encode» ⟨[.str x t, .str (Str.ofString "ascii") u], []⟩ = (do ret (← mkBytes b))) (hsz : b.size ≤ sizeLine) (h : ∀ t' k, Q (.bytes b t') { s with toks := k }) :
    wpAny (model prog w) A (call (.builtin "str.encode") [.str x t, .str (Str.ofString "ascii") u]) Q E s := by
  refine wpAny_call_entry PySem.F.slot_str_encode (typeIs_str _ _ _) PySem.F.entry_str_encode ?_ (PySem.F.args_str_encode_2 _ _)
  rw [hd]
  exact wpAny_bind (wpAny_mkBytes (wpAny_pure ⟨_, rfl, h _ _⟩) hsz)
end
section
variable {prog : Program} {w : World} {A : Around} {E : Value → Shared → Prop} {s : Shared}
theorem bb_bytes : typeLookup (.type "bytes") "__bytes__" = pure (some (.builtin "bytes.__bytes__")) := by rw [typeLookup_type, builtinLookup_eq_fast]; kernel_rfl
theorem bb_newCall (b : Array UInt8) (t : Tok) : checkBuiltinCall "bytes.__new__" ⟨[.type "bytes", .bytes b t], []⟩ = pure () := by kernel_rfl
theorem bb_typeCall (b : Array UInt8) (t : Tok) : checkTypeCall "bytes" ⟨[.bytes b t], []⟩ = pure () := by kernel_rfl
theorem bb_bind (b : Array UInt8) (t : Tok) : Builtin.Bytes.bindOptional "bytes.__new__" "bytes" ["source", "encoding", "errors"] [.bytes b t] [] = pure [some (.bytes b t), none, none] := by first | rfl | kernel_rfl
theorem bb_new {b : Array UInt8} {t : Tok} {Q : Value → Shared → Prop} (hQ : Q (.bytes b t) s) :
    codeAny (model prog w) A (.call (.builtin "bytes.__new__") ⟨[.type "bytes", .bytes b t], []⟩) (wants Q E) s := by
  refine codeAny_of_tree ?_
  show wpAny _ A.in1 (do checkBuiltinCall "bytes.__new__" ⟨[.type "bytes", .bytes b t], []⟩; again (.builtin "bytes.__new__" ⟨[.type "bytes", .bytes b t], []⟩)) _ _ s
  refine wpAny_bind (wpAny_of_eq (bb_newCall b t) (wpAny_pure ⟨plainId_quiet F.bm_plain _, codeAny_builtin F.bm_entry ?_⟩))
  rw [Around.under_plainId F.bm_plain _]
  have hT : s.TypeIs (.bytes b t) "bytes" := typeIs_bytes s b t
  unfold Builtin.«bytes.__new__»
  refine wpAny_bind (wpAny_of_eq (a := true) rfl ?_)
  refine bm_if_false rfl ?_
  refine wpAny_bind (wpAny_of_eq F.bm_sub ?_)
  refine bm_if_false rfl ?_
  refine wpAny_bind (wpAny_of_eq (bb_bind b t) ?_)
  refine wpAny_bind (wpAny_of_eq (a := ()) rfl ?_)
  refine wpAny_bind (wpAny_of_eq (a := ()) rfl ?_)
  refine bm_if_false rfl ?_
  refine wpAny_bind (wpAny_specialOf hT bb_bytes ?_)
  refine wpAny_bind (wpAny_rule ?_)
  refine wpAny_bind (wpAny_typeOf hT ?_)
  refine bm_if_true rfl ?_
  exact wpAny_of_eq (a := Fin.done (.ret (.bytes b t))) (by first | rfl | kernel_rfl) hQ
theorem call_bytes_bytes {b : Array UInt8} {t : Tok} {Q : Value → Shared → Prop} (hQ : Q (.bytes b t) s) : wpAny (model prog w) A (call (.type "bytes") [.bytes b t]) Q E s := by
  refine callType_codes (Q₁ := fun obj s₁ => s₁.TypeIs obj "bytes" ∧ Q obj s₁) F.bm_called (bb_typeCall b t) F.entry_object_init
    (bb_new ⟨typeIs_bytes _ _ _, hQ⟩) fun obj s₁ h₁ => ?_
  exact ⟨h₁.1, F.args_object_init_2 obj _, object_init_meets F.bm_called.init.lookup F.bm_called.made (by decide) prog w A.in1 _ s₁ ⟨h₁.1, rfl, h₁.2⟩⟩
end
end

section
open PySem PySem.Spec PySem.Calls PyProof.Rows PySem.W Builtin
def bnd (a : Addr) : Obj := { cls := .type "builtin_function_or_method", data := .fields #[.builtin "list.append", .ref a] }
theorem md_slot : PySem.Slot "method_descriptor" "__get__" "method_descriptor.__get__" :=
  .of (owner := "method_descriptor") (n := "__get__") (by rw [typeLookup_type, builtinLookup_eq_fast]; kernel_rfl) (by decide +kernel) (by decide +kernel) (by decide +kernel)
    (by first | exact .inl (by decide +kernel) | exact .inr (by decide +kernel)) (by rw [isSubtype_type]; kernel_rfl)
theorem md_entry : entryFor table "method_descriptor.__get__" = some Builtin.«method_descriptor.__get__» := entryFor_of_tree (by kernel_rfl)
theorem md_args (a b c : Value) : argsOk "method_descriptor.__get__" ⟨[a, b, c], []⟩ := by unfold argsOk; kernel_rfl
section
variable {prog : Program} {w : World} {M : Model} {A : Around} {E : Value → Shared → Prop} {s : Shared}
theorem run_md {P : PySem.Fin → Shared → Prop} {a : Addr} {o : Obj} (ho : s.heap.get? a = some o) (hc : o.cls = .type "list") (h : P (.done (.ret (.ref s.heap.objs.size))) { s with heap := s.heap.push (bnd a) }) :
    wpAny M A (Builtin.«method_descriptor.__get__» ⟨[.builtin "list.append", .ref a, .type "list"], []⟩) P E s := by
  unfold Builtin.«method_descriptor.__get__»
  refine wpAny_bind (wpAny_of_eq (a := (.builtin "list.append", some (.ref a), some (.type "list"))) (by first | rfl | kernel_rfl) ?_)
  refine bm_if_false (by decide +kernel) ?_
  refine wpAny_bind ?_
  refine wpAny_bind (wpAny_of_eq (a := (Str.ofString "append", .type "list")) (by first | rfl | kernel_rfl) ?_)
  refine wpAny_bind (wpAny_isInstance (T := "list") (b := true) ⟨_, ho, hc⟩ F.bm_sub_list ?_)
  refine bm_if_false rfl ?_
  refine wpAny_pure ?_
  exact wpAny_bind (wpAny_newObj_type (wpAny_pure h))
theorem meets_getattr_append (a : Addr) (xs : Array Value) (k : Nat) (u : Tok) :
    Meets (Builtin.«object.__getattribute__» ⟨[.ref a, .str (Str.ofString "append") u], []⟩) (fun A R s => s.heap.get? a = some { cls := .type "list", data := .seq xs k } ∧ R (.ok (.ret (.ref s.heap.objs.size))) { s with heap := s.heap.push (bnd a) }) :=
  Meets.of_wp fun prog w A R s hs => by
    obtain ⟨hp, g, d, tk, os⟩ := s
    obtain ⟨hx, hs⟩ := hs
    have hT : (⟨hp, g, d, tk, os⟩ : Shared).TypeIs (.ref a) "list" := ⟨_, hx, rfl⟩
    have e1 : typeLookup (.type "list") (Str.ofString "append") = pure (some (.builtin "list.append")) := slot_list_append.lookup
    have e2 : typeOf (.builtin "list.append") = pure (.type "method_descriptor") := type_list_append
    have e3 : typeLookup (.type "method_descriptor") "__get__" = pure (some (.builtin "method_descriptor.__get__")) := md_slot.lookup
    have e4 : typeLookup (.type "method_descriptor") "__set__" = pure none := by rw [typeLookup_type, builtinLookup_eq_fast]; kernel_rfl
    have e5 : typeLookup (.type "method_descriptor") "__delete__" = pure none := by rw [typeLookup_type, builtinLookup_eq_fast]; kernel_rfl
    unfold Builtin.«object.__getattribute__»
    repeat (any_goals (first | assumption | ((with_reducible show wpAny _ _ (call (Value.builtin "method_descriptor.__get__") _ _) _ _ _); refine wpAny_call_entry md_slot e2 md_entry (run_md hx rfl ⟨_, rfl, ?_⟩) (md_args _ _ _)) | wp_step))
    exact ⟨_, rfl, hs⟩
theorem getAttr_append {a : Addr} {xs : Array Value} {k : Nat} {Q : Value → Shared → Prop} (hx : s.heap.get? a = some { cls := .type "list", data := .seq xs k })
    (h : Q (.ref s.heap.objs.size) { s with heap := s.heap.push (bnd a), toks := s.toks + 1 }) : wpAny (model prog w) A (getAttr (.ref a) (Str.ofString "append") true) Q E s := by
  obtain ⟨hp, g, d, tk, os⟩ := s
  have hT : ∀ tk', (⟨hp, g, d, tk', os⟩ : Shared).TypeIs (.ref a) "list" := fun _ => ⟨_, hx, rfl⟩
  have f3 := F.slot_list_getattribute.lookup
  have f4 := F.slot_list_getattribute.bind (.ref a)
  have f5 := am_list_getattr_none
  unfold getAttr getAttrBy
  repeat (any_goals (first | assumption | exact hT _ | ((with_reducible show wpAny _ _ (call (Value.builtin "list.__getattribute__") _ _) _ _ _); refine call_meets F.slot_list_getattribute (hT _) am_entry_list_getattribute (F.args_list_getattribute_2 _ _) (meets_getattr_append a xs k _) ⟨hx, ?_⟩) | wp_step))
  show wpAny (model prog w) A (handedOut (.ref hp.objs.size)) Q E _
  have hb : (hp.push (bnd a)).get? hp.objs.size = some (bnd a) := Heap.get?_push_size _ rfl
  unfold handedOut
  repeat (any_goals (first | assumption | wp_step))


theorem bnd_call {b l : Addr} {its : List Value} {ep : Nat} {x : Value} {Q : Value → Shared → Prop} (ho : s.heap.get? b = some (bnd l)) (hl : s.heap.get? l = some (Lst its ep)) (hz : its.length ≤ 1000000)
    (h : ∀ h', Heap.SameBut l s.heap h' → h'.get? l = some (Lst (its ++ [x]) (ep + 1)) → Q .none { s with heap := h' }) : wpAny (model prog w) A (call (.ref b) [x]) Q E s := by
  refine wpAny_call (codeAny_of_tree ?_)
  show wpAny _ A.in1 (callAny (.ref b) ⟨[x], []⟩) _ _ s
  simp only [callAny]
  refine wpAny_bind (wpAny_load ho ?_)
  refine KFB.if_so rfl ?_
  refine KFB.if_so rfl ?_
  have hT : s.TypeIs (.ref l) "list" := ⟨_, hl, rfl⟩
  have sub_m : isSubtype (.type "list") (.type "module") = pure false := by rw [isSubtype_type]; kernel_rfl
  have chk : ∀ {Q' : Unit → Shared → Prop} {E' : Value → Shared → Prop}, Q' () s → wpAny (model prog w) A.in1 (checkBoundCall "list.append" ⟨[.ref l, x], []⟩) Q' E' s := fun {Q' E'} hq => by
    unfold checkBoundCall
    have hs : Manifest.signature? "list.append" = some ⟨.oneArg, "list.append", "append", .self, [⟨"object", .posOnly, true⟩]⟩ := by rw [signature?_of (id := "list.append") (n := ['d', 'n', 'e', 'p', 'p', 'a']) (o := ['t', 's', 'i', 'l']) (by kernel_rfl) F.owner_list]; kernel_rfl
    rw [hs]
    have hk : builtinKind "list.append" = some .method := by decide +kernel
    simp only [hk]
    refine bm_if_false (by decide) ?_
    refine wpAny_bind (wpAny_isInstance hT sub_m ?_)
    refine bm_if_false (by decide +kernel) ?_
    refine wpAny_bind (m := PySem.isType (.ref l)) ?_
    unfold PySem.isType
    have hc : (Lst its ep).cls = .type "list" := rfl
    repeat (any_goals (first | assumption | wp_step))
  refine wpAny_bind (chk ?_)
  refine wpAny_pure ⟨Code.quiet_builtin _ (by decide +kernel), codeAny_builtin entry_list_append ?_⟩
  show wpAny _ _ (updateSeq l (·.push x) >>= fun _ => ret .none) _ _ s
  refine wpAny_bind ?_
  refine wpAny_updateSeq hl rfl (wpAny_pure (h _ (Heap.SameBut.update ..) ?_)) (by rw [List.size_toArray]; unfold sizeLine; omega)
  unfold Lst at hl ⊢
  rw [Heap.get?_update_self _ hl (by rw [mapSeq_push]; rfl), mapSeq_push]
  simp
end

section
variable {G : Gl} {f : Fk} {A : Around} {vs : Vals} {n : Led} {E : Value → Shared → Prop} {env : Env}
theorem bnd_tm (a : Addr) : Tm (bnd a) := ⟨fun e => (by cases e), fun _ e => by cases e⟩
theorem bnd_mth (a : Addr) : MthO (bnd a) := ⟨_, rfl⟩
section
variable {Q : Value → Vals → Led → Prop}
/-- name.append, as a value -/
theorem Wp.attrApp {x : Str} {p pos : Pos} (h : Wp G f A (eval (.Name x p) env) vs n (fun v vs1 n1 => ∃ l its ep, v = .ref l ∧ (l, Lst its ep) ∈ n1 ∧ ∀ b, (∀ p ∈ n1, p.1 < b) → Q (.ref b) vs1 ((b, bnd l) :: n1)) E)
    (ht : ∀ o r, letTemporaryGo (.Name x p) o r = Pure.pure () := by intro _ _; rfl) (hb : attributeBase (.Name x p) (Str.ofString "append") env (eval (.Name x p) env) = eval (.Name x p) env := by rfl) :
    Wp G f A (eval (.Attribute (.Name x p) (Str.ofString "append") pos) env) vs n Q E := by
  constructor; intro s S
  rw [arm_eval_Attribute, hb]
  refine wpAny_bind (wpAny_mono (h.run s S) (fun v s1 ⟨vs1, n1, S1, l, its, ep, e, hm, q⟩ => ?_) fun _ _ x => x)
  subst e
  refine wpAny_bind (wpAny_standAt (wpAny_bind (wpAny_holding (getAttr_append (S1.get hm) ?_))))
  rw [ht]
  exact wpAny_bind (wpAny_pure (wpAny_pure ⟨_, _, S1.push (bnd_tm l) rfl _, q _ S1.lt⟩))
theorem Wp.callBnd {b l : Addr} {its : List Value} {ep : Nat} {x : Value} (hb : (b, bnd l) ∈ n) (hl : (l, Lst its ep) ∈ n) (hz : its.length ≤ 1000000) (h : Q .none vs (upd n l (Lst (its ++ [x]) (ep + 1)))) : Wp G f A (PySem.call (.ref b) [x]) vs n Q E :=
  ⟨fun s S => bnd_call (S.get hb) (S.get hl) hz fun h' hs hg => ⟨_, _, S.updE hl (Lst_pc _ _) (Lst_tm _ _) hs.extBut hg s.toks, h⟩⟩
theorem Wp.mkB {l : Addr} {ws : List Value} {ks : List Int} {ep : Nat} (hh : A.handled = none) (hm : (l, Lst ws ep) ∈ n) (hi : IntsAre ws ks) (hr : ∀ k ∈ ks, 0 ≤ k ∧ k < 256) (hz : ws.length ≤ 1000000) (h : ∀ t, Q (.bytes (byteArr ks) t) vs n) : Wp G f A (PySem.call (.type "bytes") [.ref l]) vs n Q E :=
  ⟨fun s S => call_bytes_ints (S.list hm) hi hr (by unfold sizeLine; omega) hh fun h' t k hk => ⟨_, _, S.keep hk k, h t⟩⟩
theorem Wp.bytesB {b : Array UInt8} {t : Tok} (h : Q (.bytes b t) vs n) : Wp G f A (PySem.call (.type "bytes") [.bytes b t]) vs n Q E := ⟨fun s S => call_bytes_bytes ⟨_, _, S, h⟩⟩
theorem Wp.joinB {l : Addr} {t : Tok} {bs : List (List UInt8 × Tok)} {ep : Nat} (hm : (l, Lst (bs.map byVal) ep) ∈ n) (hz : (bs.map (·.1)).flatten.length ≤ 1000000) (h : ∀ t, Q (.bytes ((bs.map (·.1)).flatten).toArray t) vs n) : Wp G f A (PySem.call (.builtin "bytes.join") [.bytes #[] t, .ref l]) vs n Q E :=
  ⟨fun s S => join_call (S.list hm) hz fun t' k => ⟨_, _, S.tok k, h t'⟩⟩
theorem Wp.enc {x : Str} {b : Array UInt8} {t u : Tok} (hd : «str.encode» ⟨[.str x t, .str (Str.ofString "ascii") u], []⟩ = (mkBytes b >>= fun v => PySem.ret v)) (hsz : b.size ≤ 1000000) (h : ∀ t, Q (.bytes b t) vs n) : Wp G f A (PySem.call (.builtin "str.encode") [.str x t, .str (Str.ofString "ascii") u]) vs n Q E :=
  ⟨fun s S => enc_call hd (by unfold sizeLine; omega) fun t' k => ⟨_, _, S.tok k, h t'⟩⟩
theorem Wp.dec {c : UInt8} {cs : List UInt8} {x : Str} {m : Nat} {t u : Tok} (hd : ∀ id, _codecs.runDecoder id _codecs.asciiDecoder none true (c :: cs).toArray 0 [] = Pure.pure (x.cps, m)) (hsz : x.length ≤ 1000000) (h : ∀ t, Q (.str x t) vs n) : Wp G f A (PySem.call (.builtin "bytes.decode") [.bytes (c :: cs).toArray t, .str (Str.ofString "ascii") u]) vs n Q E :=
  ⟨fun s S => dec_call hd (by unfold sizeLine; omega) fun t' k => ⟨_, _, S.tok k, h t'⟩⟩
theorem Wp.strI {a : Int} {t : Tok} (ha : a.natAbs.log2 < 1920) (h : ∀ t, Q (.str (toString a) t) vs n) : Wp G f A (PySem.call (.type "str") [.int a t]) vs n Q E := ⟨fun s S => PySem.P.str_of_int ha ⟨_, _, S.tok _, h _⟩⟩
theorem Wp.intS {a : Int} {t : Tok} (h0 : 0 ≤ a) (h1 : a < 10 ^ 10) (h : ∀ t, Q (.int a t) vs n) : Wp G f A (PySem.call (.type "int") [.str (Str.ofString (toString a)) t]) vs n Q E := ⟨fun s S => KIN.call_num h0 h1 ⟨_, _, S.tok _, h _⟩⟩
theorem Wp.lenS {x : Str} {t : Tok} (hz : x.length ≤ 1000000) (h : ∀ t, Q (.int x.length t) vs n) : Wp G f A (PySem.call (.builtin "len") [.str x t]) vs n Q E := ⟨fun s S => len_str (by omega) ⟨_, _, S.tok _, h _⟩⟩
theorem Wp.eqS {x y : Str} {t u : Tok} (h : Q (.bool (x == y)) vs n) : Wp G f A (compareOp .Eq (.str x t) (.str y u)) vs n Q E := ⟨fun s S => PyProof.Rows.eq_str ⟨_, _, S, h⟩⟩
theorem Wp.isNN (h : Q (.bool true) vs n) : Wp G f A (compareOp .Is .none .none) vs n Q E := ⟨fun s S => wpAny_is_self rfl ⟨_, _, S, h⟩⟩
theorem Wp.neL {a b : Addr} {xs ys : List Value} {ks ms : List Int} {e1 e2 : Nat} (hu : A.units + 64 < cLine) (ha : (a, Lst xs e1) ∈ n) (hb : (b, Lst ys e2) ∈ n) (hi : IntsAre xs ks) (hj : IntsAre ys ms) (h : Q (.bool (!decide (ks = ms))) vs n) : Wp G f A (compareOp .NotEq (.ref a) (.ref b)) vs n Q E :=
  ⟨fun s S => ke_ne_ints (S.list ha) (S.list hb) hi hj hu ⟨_, _, S, h⟩⟩
end

/-! list stores -/
theorem Wp.setL {D : Addr} {its : List Value} {ep : Nat} {k : Int} {t : Tok} {v : Value} {Q : Unit → Vals → Led → Prop} (hm : (D, Lst its ep) ∈ n) (h0 : 0 ≤ k) (h1 : k < its.length) (hz : its.length ≤ 1000000) (h : Q () vs (upd n D (Lst (its.set k.toNat v) ep))) : Wp G f A (setItem (.ref D) (.int k t) v) vs n Q E := by
  constructor; intro s S
  have g := S.get hm
  refine ki_setAt g h0 (by omega) (by rw [List.size_toArray]; exact h1) ⟨_, _, S.updE hm (Lst_pc _ _) (Lst_tm (its.set k.toNat v) ep) (Heap.SameBut.update ..).extBut ?_ s.toks, h⟩
  have q := PySem.IsL.update g (fun a => a.setIfInBounds k.toNat v)
  rw [if_pos (by simp)] at q
  exact q.trans (by simp [Lst])
theorem Wp.delL {D : Addr} {its : List Value} {ep : Nat} {i : Int} {u : Tok} {k : Nat} {Q : Unit → Vals → Led → Prop} (hm : (D, Lst its ep) ∈ n) (hf : Builtin.List.listFitsIndex i = true) (hk : seqIndex? i its.length = some k) (hz : its.length ≤ 1000000) (h : Q () vs (upd n D (Lst (its.eraseIdx k) (ep + 1)))) : Wp G f A (delItem (.ref D) (.int i u)) vs n Q E := by
  constructor; intro s S
  have g := S.get hm
  unfold Lst at g
  exact delItem_at g hf (by rw [List.size_toArray]; exact hk) (fun h' hs hg => ⟨_, _, S.updE hm (Lst_pc _ _) (Lst_tm _ _) hs.extBut hg s.toks, h⟩) (by rw [List.size_toArray]; unfold sizeLine; omega)

/-! dicts -/
abbrev DicO (G : Gl) (o : Obj) (kvs : List (Str × Value)) : Prop := o.IsDictOf (strKind G.prog G.w) kvs
theorem DicO.tm {o : Obj} {kvs : List (Str × Value)} (h : DicO G o kvs) : Tm o := let ⟨_, _, ⟨a, _⟩, d, _⟩ := h; ⟨(by rw [a]; intro e; cases e), fun fd e => (by rw [d] at e; cases e)⟩
theorem DicO.pc {o : Obj} {kvs : List (Str × Value)} (h : DicO G o kvs) : Pc o := let ⟨_, _, ⟨a, _⟩, _⟩ := h; by rw [Pc, a]; exact ⟨(fun e => by cases e), fun e => by simp at e⟩
theorem DicO.at_ {s : Shared} {d : Addr} {o : Obj} {kvs : List (Str × Value)} (h : DicO G o kvs) (S : St G f vs n s) (hm : (d, o) ∈ n) : s.heap.DictOf (strKind G.prog G.w) d kvs := Heap.dictOf_iff.mpr ⟨o, S.get hm, h⟩
section
variable {Q : Value → Vals → Led → Prop}
theorem St.notMod {s : Shared} (S : St G f vs n s) : (s.heap.objs.size == sysModules) = false := S.F.notModules (modules_low S.T.nolimit)
theorem dic_new : DicO G { cls := .type "dict", data := .dict #[] } [] := by
  obtain ⟨o, ho, hd⟩ := Heap.dictOf_iff.mp (Heap.DictOf.new (knd := strKind G.prog G.w) (default : Heap))
  rw [Heap.get?_push_size _ rfl] at ho
  exact (Option.some.inj ho) ▸ hd
theorem Wp.dict0 {pos : Pos} (h : ∀ d o, (∀ p ∈ n, p.1 < d) → (d == sysModules) = false → DicO G o [] → Q (.ref d) vs ((d, o) :: n)) : Wp G f A (eval (.Dict [] [] pos) env) vs n Q E :=
  ⟨fun s S => wpAny_Dict_empty ⟨_, _, S.push (o := { cls := .type "dict", data := .dict #[] }) (dic_new (G := G)).tm rfl s.toks, h _ _ S.lt S.notMod dic_new⟩⟩
theorem Wp.getNone {d : Addr} {o : Obj} {x : Str} {t : Tok} (hm : (d, o) ∈ n) (hd : DicO G o []) (lo : (d == sysModules) = false) (h : Q .none vs n) : Wp G f A (PySem.call (.builtin "dict.get") [.ref d, .str x t]) vs n Q E :=
  ⟨fun s S => kt_get1_noneS (D := []) ⟨lo, [], hd.at_ S hm, .nil⟩ rfl ⟨_, _, S.tok _, h⟩⟩
theorem Wp.setdef {d : Addr} {o : Obj} {x : Str} {t : Tok} {v : Value} (hm : (d, o) ∈ n) (hd : DicO G o []) (lo : (d == sysModules) = false) (h : ∀ o', DicO G o' [(x, v)] → Q v vs (upd n d o')) : Wp G f A (PySem.call (.builtin "dict.setdefault") [.ref d, .str x t, v]) vs n Q E := by
  constructor; intro s S
  have hD := hd.at_ S hm
  refine call_meetsIn PySem.F.slot_dict_setdefault hD.typeIs PySem.F.entry_dict_setdefault (PySem.F.args_dict_setdefault_3 _ _ _) (kt_meets_setdefault (strKind G.prog G.w) d (strKind_is _ _ x t) lo v) ⟨[], hD, Nat.zero_le _, (fun v hv' => by cases hv'), fun _ h' hmm hs => ?_⟩
  obtain ⟨o', ho', hd'⟩ := Heap.dictOf_iff.mp hmm
  have hd2 : DicO G o' [(x, v)] := hd'
  exact ⟨_, _, S.updE hm hd.pc hd2.tm hs.extBut ho' _, h o' hd2⟩
theorem Wp.setD {d : Addr} {o : Obj} {x : Str} {t : Tok} {v : Value} {Q : Unit → Vals → Led → Prop} (hm : (d, o) ∈ n) (hd : DicO G o []) (h : ∀ o', DicO G o' [(x, v)] → Q () vs (upd n d o')) : Wp G f A (setItem (.ref d) (.str x t) v) vs n Q E := by
  constructor; intro s S
  refine wpAny_setItem_pairs (hsz := Nat.zero_le _) (strKind_is _ _ x t) (hd.at_ S hm) fun h' hmm hs => ?_
  obtain ⟨o', ho', hd'⟩ := Heap.dictOf_iff.mp hmm
  have hd2 : DicO G o' [(x, v)] := hd'
  exact ⟨_, _, S.updE hm hd.pc hd2.tm hs.extBut ho' _, h o' hd2⟩
end

/-! through a text, through a range -/
theorem itr_str {x : Str} {t : Tok} (hh : A.handled = none) (ha : x.cps.all (· < 128) = true) : ItrOf G f A (.str x t) n (fun i v => ∃ c u, x.cps[i]? = some c ∧ v = .str ⟨#[c]⟩ u) x.cps.size [] := by
  intro vs E Q h
  constructor; intro s S
  have tmI : ∀ i (o : Obj), o.cls = .type "str_ascii_iterator" → o.data = .fields #[.str x t, .int i 0] → Tm o ∧ Pc o := fun i o e1 e2 => ⟨⟨by rw [e1]; (intro e; cases e), fun fd e => by rw [e2] at e; cases e⟩, by rw [Pc, e1]; exact ⟨(fun e => by cases e), fun e => by simp at e⟩⟩
  refine wpAny_pyIter_ascii ha ⟨_, _, S.push (o := { cls := .type "str_ascii_iterator", data := .fields #[.str x t, .int 0 0] }) (tmI 0 _ rfl rfl).1 rfl s.toks, h _ _ (fun i o => o.cls = .type "str_ascii_iterator" ∧ o.data = .fields #[.str x t, .int i 0]) S.lt ⟨?_, ?_, ?_⟩ ⟨rfl, rfl⟩⟩
  · intro f i o vs n hk hi hsrc hne
    constructor; intro s1 S1
    have hi2 : x.cps[i]? = some x.cps[i] := by simp [hi]
    refine wpAny_pyNext_ascii_item ⟨_, S1.get (.head _), hk.1, hk.2⟩ hi2 fun h' ⟨o', ho', hc', hd'⟩ hs => ?_
    have tI := tmI _ o' hc' hd'
    exact ⟨_, _, S1.headU (tmI _ o hk.1 hk.2).2 tI.1 hne hs.extBut ho' _, _, o', rfl, ⟨_, _, hi2, rfl⟩, rfl, rfl, hc', hd'⟩
  · intro f o vs n hk hsrc hne
    constructor; intro s1 S1
    refine wpAny_pyNext_ascii_end hh ⟨_, S1.get (.head _), hk.1, hk.2⟩ (by simp) fun h' he => ?_
    exact ⟨_, _, S1.fall (tmI _ o hk.1 hk.2).2 hne he s1.toks, rfl, rfl, rfl⟩
  · intro f i o vs n E Q hk q
    exact ⟨fun s1 S1 => wpAny_pyIter_striter_ascii ⟨_, S1.get (.head _), hk.1, hk.2⟩ ⟨_, _, S1, q⟩⟩

def RngO (k : Int) (t u v : Tok) : Obj := { cls := .type "range", data := .fields #[.int 0 t, .int k u, .int 1 v] }
theorem Wp.range {k : Int} {t : Tok} {Q : Value → Vals → Led → Prop} (h : ∀ a u v, (∀ p ∈ n, p.1 < a) → Q (.ref a) vs ((a, RngO k u t v) :: n)) : Wp G f A (PySem.call (.type "range") [.int k t]) vs n Q E :=
  ⟨fun s S => call_range_1 ⟨_, _, S.push (o := RngO k s.toks t (s.toks + 1)) ⟨fun e => (by cases e), fun _ e => by cases e⟩ rfl _, h _ _ _ S.lt⟩⟩
theorem itr_range {a : Addr} {k : Nat} {t u v : Tok} (hh : A.handled = none) (hk : k ≤ 1000000) (hm : (a, RngO k t u v) ∈ n) : ItrOf G f A (.ref a) n (fun i w => ∃ t, w = .int i t) k [] := by
  intro vs E Q h
  constructor; intro s S
  have hsz : Builtin.Range.rangeSize 0 (k : Int) 1 = (k : Int) := by
    rw [rangeSize_pos (by decide) (by omega), Int.ediv_one]; omega
  have hsm : Builtin.Range.small 0 (k : Int) 1 = true := small_one (by decide) (by decide) (by omega) (by omega)
  let itO : Int → Int → Obj := fun x left => { cls := .type "range_iterator", dict := none, data := .fields #[rawInt x, rawInt left, rawInt 1], slots := #[] }
  have tm : ∀ x l, Tm (itO x l) := fun x l => ⟨fun e => (by cases e), fun _ e => by cases e⟩
  have pc : ∀ x l, Pc (itO x l) := fun x l => ⟨fun e => (by cases e), fun e => by simp [itO] at e⟩
  refine wpAny_pyIter_range (S.get hm) hsm ?_
  rw [hsz]
  refine ⟨_, _, S.push (o := itO 0 k) (tm _ _) rfl s.toks, h _ _ (fun i o => i ≤ k ∧ o = itO i ((k : Int) - i)) S.lt ⟨?_, ?_, ?_⟩ ⟨Nat.zero_le _, by simp [itO]⟩⟩
  · intro f i o vs n ⟨_, ho⟩ hi hsrc hne
    subst ho
    constructor; intro s1 S1
    refine wpAny_pyNext_range_item (x := i) (left := (k : Int) - i) (step := 1) (S1.get (.head _)) (by omega) fun h' ho' hs => ?_
    exact ⟨_, _, S1.headU (o' := itO (i + 1) ((k : Int) - i - 1)) (pc _ _) (tm _ _) hne hs.extBut ho' _, _, _, rfl, ⟨_, rfl⟩, rfl, rfl, hi, by rw [show ((i + 1 : Nat) : Int) = (i : Int) + 1 from by omega, show (k : Int) - ((i : Int) + 1) = (k : Int) - i - 1 from by omega]⟩
  · intro f o vs n ⟨_, ho⟩ hsrc hne
    subst ho
    constructor; intro s1 S1
    refine wpAny_pyNext_range_end hh (x := k) (left := (k : Int) - k) (step := 1) (S1.get (.head _)) (by omega) fun h' he => ?_
    exact ⟨_, _, S1.fall (pc _ _) hne he s1.toks, rfl, rfl, rfl⟩
  · intro f i o vs n E Q ⟨_, ho⟩ q
    subst ho
    exact ⟨fun s1 S1 => wpAny_pyIter_rangeiter (x := i) (left := (k : Int) - i) (step := 1) (S1.get (.head _)) ⟨_, _, S1, q⟩⟩
end
end

section
open PySem PySem.Spec PySem.Calls PyProof.Rows PySem.W

section
variable {G : Gl} {f : Fk} {A : Around} {vs : Vals} {n : Led} {E : Value → Shared → Prop} {env : Env}

/-- how names stand -/
def SlotsOk (K : Frag) (f : Fk) (env : Env) : List (Str × Slot) → Prop
  | [] => True
  | (x, sl) :: r => SlotOk K f env x sl ∧ SlotsOk K f env r
theorem SlotsOk.all {K : Frag} {f : Fk} {env : Env} : ∀ {R : List (Str × Slot)}, SlotsOk K f env R → ∀ x sl, (x, sl) ∈ R → SlotOk K f env x sl
  | _ :: _, h, _, _, .head _ => h.1
  | _ :: _, h, _, _, .tail _ m => h.2.all _ _ m

theorem clo_fn {fa : Addr} {name qual : Str} {params : Arguments} {body : FuncBody} {scope : Scope} {cl : List (Str × Addr)} {dV : Value} {o : Obj} (hm : (fa, o) ∈ n) (hc : Clo name qual params body scope cl dV o) : KP G n (.ref fa) := by
  obtain ⟨doc, pm, cv, ctv, rfl⟩ := hc
  exact .fnN hm ⟨_, _, _, _, rfl⟩

/-- a call of a closure that may raise -/
theorem Wp.callNE {fa : Addr} {name qual : Str} {params : Arguments} {body : List Stmt} {scope : Scope} {cl : List (Str × Addr)} {dV : Value} {o : Obj} {args : List Value} {kw : List (Str × Value)} {binds : List (Str × Value)} {ns : List Str} {Q : Value → Vals → Led → Prop} {k : Nat}
    (hm : (fa, o) ∈ n) (hc : Clo name qual params (.stmts body) scope cl dV o) (rm : Rm A (k + 1))
    (hb : ∀ s doc pm cv ctv, St G f vs n s → BindsTo s (kdv_fn name qual params (.stmts body) scope cl dV doc pm cv ctv) ⟨args, kw⟩ binds) (hnd : ns.Nodup) (hk : scope.kind = .function)
    (h : ∀ g L A' env c, env = envX qual scope L fa (.ref c) (cellsFrom (L + 1) scope.names cl) → CodeIn G n c → (∀ p ∈ n, p.1 < L) → Rm A' k →
      ∃ R vs' n', SlotsOk G.K ⟨g, L, ns⟩ env R ∧ Pl ⟨g, L, ns⟩ env R binds (List.replicate ns.length none) (cellLed (L + 1) scope.names ++ n) vs' n' ∧
        (Res G ⟨g, L, ns⟩ env R → Wp G ⟨g, L, ns⟩ A' (execs body env) vs' n' (fun fl _ n'' => ∃ n₃, (∀ p ∈ n₃, p ∈ n'') ∧ Q (retOf fl) vs n₃) (callE A env E (model G.prog G.w))))
    (hco : scope.isCoroutine = false := by rfl) (hgen : scope.isGenerator = false := by rfl) : Wp G f A (PySem.call (.ref fa) args kw) vs n Q E := by
  constructor; intro s S
  obtain ⟨doc, pm, cv, ctv, rfl⟩ := hc
  obtain ⟨c, hcv, hin⟩ : ∃ c, cv = .ref c ∧ CodeIn G n c := by
    obtain ⟨_, _, _, _, _, nJ, N, ⟨S0, J⟩, _⟩ := S
    obtain ⟨c', _, e, _⟩ := J.fn _ _ _ _ _ hm
    exact ⟨c', e, .inr ⟨_, _, _, _, _, hm, e⟩⟩
  subst hcv
  refine (Wp.callFn (ns := ns) rm.room (fun s S => FnIs.ofN S hm) rfl (fun s S => hb s doc pm _ ctv S) (fun g L env he hlt => ?_) hco hgen).run s S
  obtain ⟨R, vs', n', so, P, W⟩ := h g L (A.deeper env) env c he hin hlt rm.deeper
  have r : Res G ⟨g, L, ns⟩ env R := by subst he; exact ⟨hk, rfl, rfl, rfl, hnd, so.all⟩
  exact ⟨R, vs', n', r, P, W r⟩
/-- a call of a closure -/
theorem Wp.callN {fa : Addr} {name qual : Str} {params : Arguments} {body : List Stmt} {scope : Scope} {cl : List (Str × Addr)} {dV : Value} {o : Obj} {args : List Value} {kw : List (Str × Value)} {binds : List (Str × Value)} {ns : List Str} {Q : Value → Vals → Led → Prop} {k : Nat}
    (hm : (fa, o) ∈ n) (hc : Clo name qual params (.stmts body) scope cl dV o) (rm : Rm A (k + 1))
    (hb : ∀ s doc pm cv ctv, St G f vs n s → BindsTo s (kdv_fn name qual params (.stmts body) scope cl dV doc pm cv ctv) ⟨args, kw⟩ binds) (hnd : ns.Nodup) (hk : scope.kind = .function)
    (h : ∀ g L A' env c, env = envX qual scope L fa (.ref c) (cellsFrom (L + 1) scope.names cl) → CodeIn G n c → (∀ p ∈ n, p.1 < L) → Rm A' k →
      ∃ R vs' n', SlotsOk G.K ⟨g, L, ns⟩ env R ∧ Pl ⟨g, L, ns⟩ env R binds (List.replicate ns.length none) (cellLed (L + 1) scope.names ++ n) vs' n' ∧
        (Res G ⟨g, L, ns⟩ env R → Wp G ⟨g, L, ns⟩ A' (execs body env) vs' n' (fun fl _ n'' => ∃ n₃, (∀ p ∈ n₃, p ∈ n'') ∧ Q (retOf fl) vs n₃) Bot))
    (hco : scope.isCoroutine = false := by rfl) (hgen : scope.isGenerator = false := by rfl) : Wp G f A (PySem.call (.ref fa) args kw) vs n Q E :=
  Wp.callNE hm hc rm hb hnd hk (fun g L A' env c he hin hlt rm' => let ⟨R, vs', n', so, P, W⟩ := h g L A' env c he hin hlt rm'; ⟨R, vs', n', so, P, fun r => (W r).bot⟩) hco hgen

/-- a call of a lambda -/
theorem Wp.callX {fa : Addr} {name qual : Str} {params : Arguments} {body : Expr} {scope : Scope} {cl : List (Str × Addr)} {dV : Value} {o : Obj} {args : List Value} {kw : List (Str × Value)} {binds : List (Str × Value)} {ns : List Str} {Q : Value → Vals → Led → Prop} {k : Nat}
    (hm : (fa, o) ∈ n) (hc : Clo name qual params (.expr body) scope cl dV o) (rm : Rm A (k + 1))
    (hb : ∀ s doc pm cv ctv, St G f vs n s → BindsTo s (kdv_fn name qual params (.expr body) scope cl dV doc pm cv ctv) ⟨args, kw⟩ binds) (hnd : ns.Nodup) (hk : scope.kind = .function)
    (h : ∀ g L A' env c, env = envX qual scope L fa (.ref c) (cellsFrom (L + 1) scope.names cl) → CodeIn G n c → (∀ p ∈ n, p.1 < L) → Rm A' k →
      ∃ R vs' n', SlotsOk G.K ⟨g, L, ns⟩ env R ∧ Pl ⟨g, L, ns⟩ env R binds (List.replicate ns.length none) (cellLed (L + 1) scope.names ++ n) vs' n' ∧
        (Res G ⟨g, L, ns⟩ env R → Wp G ⟨g, L, ns⟩ A' (eval body env) vs' n' (fun v _ n'' => ∃ n₃, (∀ p ∈ n₃, p ∈ n'') ∧ Q v vs n₃) Bot))
    (hco : scope.isCoroutine = false := by rfl) (hgen : scope.isGenerator = false := by rfl) : Wp G f A (PySem.call (.ref fa) args kw) vs n Q E := by
  constructor; intro s S
  obtain ⟨doc, pm, cv, ctv, rfl⟩ := hc
  obtain ⟨c, hcv, hin⟩ : ∃ c, cv = .ref c ∧ CodeIn G n c := by
    obtain ⟨_, _, _, _, _, nJ, N, ⟨S0, J⟩, _⟩ := S
    obtain ⟨c', _, e, _⟩ := J.fn _ _ _ _ _ hm
    exact ⟨c', e, .inr ⟨_, _, _, _, _, hm, e⟩⟩
  subst hcv
  obtain ⟨⟨oc, od, sl, ho⟩, hrc⟩ := FnIs.ofN S hm
  obtain ⟨g, st, hlt, S', _, nsf, back⟩ := newEnv_St S scope.names ns (.type "frame")
  obtain ⟨R, vs', n', so, P, W⟩ := h g s.heap.objs.size (A.deeper _) _ c rfl hin hlt rm.deeper
  have r : Res G ⟨g, s.heap.objs.size, ns⟩ (envX qual scope s.heap.objs.size fa (.ref c) (cellsFrom (s.heap.objs.size + 1) scope.names cl)) R := ⟨hk, rfl, rfl, rfl, hnd, so.all⟩
  refine wpAny_call (kla_callFunE rm.room ho rfl hco hgen rfl hrc (hb s doc pm _ ctv S _ _ _ _ ?_))
  unfold newFunctionEnv
  simp only [Option.isSome_none, Bool.false_eq_true, if_false]
  refine wpAny_bind (wpAny_alloc ?_)
  refine wpAny_bind (wpAny_layCells _ (fun name kind cells => by cases hkc : kind == NameKind.cell <;> simp) _ _ _ _ ?_)
  rw [show ({ s with heap := s.heap.push { cls := .type "frame", data := .dict #[] } } : Shared).heap.objs.size = s.heap.objs.size + 1 from Heap.size_push ..]
  refine wpAny_bind (wpAny_mono ((Wp.binds (A := A.in1) (E := fun e s' => match (Except.error e : Result) with | .ok (.ret v) => ∃ vs' n', St G f vs' n' s' ∧ Q v vs' n' | .ok _ => False | .error e => E e s') r _ (fun _ _ _ => rfl) P (Q := fun _ v m => v = vs' ∧ m = n') ⟨rfl, rfl⟩).run _ S') (fun _ s₂ ⟨v₂, n₂, S₂, e1, e2⟩ => ?_) fun _ _ x => x)
  subst e1 e2
  refine wpAny_pure ⟨S₂.T.nolimit.keeps S₂.F.keep, kla_codeExpr (wpAny_mono ((W r).run s₂ S₂) (fun v s₃ ⟨v₃, n₃, S₃, m, hs, q⟩ => ?_) fun _ _ x => x.elim)⟩
  exact ⟨_, _, back s₃ _ _ _ s₃.toks vs (S₃.sub hs) (nsf _ _ _ S₃) fun _ _ _ _ e => e, q⟩
end
end

section
open PySem PySem.Spec PySem.Calls PyProof.Rows PySem.W
set_option maxHeartbeats 0 in
open_top hd for PySem.Challenge.rw_au6045_01
end

section
open PySem PySem.Spec PySem.Calls PyProof.Rows PySem.W

noncomputable abbrev hdK (w : World) : Frag := Au.hd.heap_39 w.params

/-! parts of the program's form, named by where they stand -/
def sAt : List Stmt → Nat → Stmt
  | s :: _, 0 => s
  | _ :: r, i + 1 => sAt r i
  | [], _ => .Pass ⟨0, 0, 0, 0⟩
def dBody : Stmt → List Stmt
  | .FunctionDef _ _ b _ _ _ _ _ _ _ => b
  | .If _ b _ _ => b
  | _ => []
def dElse : Stmt → List Stmt
  | .If _ _ o _ => o
  | _ => []
def dPar : Stmt → Arguments
  | .FunctionDef _ p _ _ _ _ _ _ _ _ => p
  | _ => ⟨[], [], none, [], [], none, []⟩
def dName : Stmt → Str
  | .FunctionDef x _ _ _ _ _ _ _ _ _ => x
  | _ => ""
def dScope : Stmt → Scope
  | .FunctionDef _ _ _ _ _ _ s _ _ _ => s
  | _ => default
/-- a closure made by the def d -/
def CloD (d : Stmt) (qual : Str) (cl : List (Str × Addr)) (dV : Value) (o : Obj) : Prop := Clo (dName d) qual (dPar d) (.stmts (dBody d)) (dScope d) cl dV o
abbrev pTop : List Stmt := PySem.Challenge.pw_au6045_01.main.body

/-- the names of the inner defs, by where they stand -/
def quals : List ((Nat × Nat) × Str) := [
  ((64, 4), "_SimpleSizer.<locals>.SpecificSizer"),
  ((69, 12), "_SimpleSizer.<locals>.SpecificSizer.<locals>.PackedFieldSize"),
  ((77, 12), "_SimpleSizer.<locals>.SpecificSizer.<locals>.RepeatedFieldSize"),
  ((85, 12), "_SimpleSizer.<locals>.SpecificSizer.<locals>.FieldSize"),
  ((91, 4), "_ModifiedSizer.<locals>.SpecificSizer"),
  ((96, 12), "_ModifiedSizer.<locals>.SpecificSizer.<locals>.PackedFieldSize"),
  ((104, 12), "_ModifiedSizer.<locals>.SpecificSizer.<locals>.RepeatedFieldSize"),
  ((112, 12), "_ModifiedSizer.<locals>.SpecificSizer.<locals>.FieldSize"),
  ((118, 4), "_FixedSizer.<locals>.SpecificSizer"),
  ((123, 12), "_FixedSizer.<locals>.SpecificSizer.<locals>.PackedFieldSize"),
  ((130, 12), "_FixedSizer.<locals>.SpecificSizer.<locals>.RepeatedFieldSize"),
  ((136, 12), "_FixedSizer.<locals>.SpecificSizer.<locals>.FieldSize"),
  ((156, 4), "_SimpleEncoder.<locals>.SpecificEncoder"),
  ((161, 12), "_SimpleEncoder.<locals>.SpecificEncoder.<locals>.EncodePackedField"),
  ((173, 12), "_SimpleEncoder.<locals>.SpecificEncoder.<locals>.EncodeRepeatedField"),
  ((181, 12), "_SimpleEncoder.<locals>.SpecificEncoder.<locals>.EncodeField"),
  ((188, 4), "_ModifiedEncoder.<locals>.SpecificEncoder"),
  ((193, 12), "_ModifiedEncoder.<locals>.SpecificEncoder.<locals>.EncodePackedField"),
  ((205, 12), "_ModifiedEncoder.<locals>.SpecificEncoder.<locals>.EncodeRepeatedField"),
  ((213, 12), "_ModifiedEncoder.<locals>.SpecificEncoder.<locals>.EncodeField"),
  ((221, 4), "_StructPackEncoder.<locals>.SpecificEncoder"),
  ((227, 12), "_StructPackEncoder.<locals>.SpecificEncoder.<locals>.EncodePackedField"),
  ((236, 12), "_StructPackEncoder.<locals>.SpecificEncoder.<locals>.EncodeRepeatedField"),
  ((244, 12), "_StructPackEncoder.<locals>.SpecificEncoder.<locals>.EncodeField"),
  ((254, 4), "_VarintDecoder.<locals>.DecodeVarint"),
  ((272, 4), "_SimpleDecoder.<locals>.SpecificDecoder"),
  ((276, 12), "_SimpleDecoder.<locals>.SpecificDecoder.<locals>.DecodePackedField"),
  ((296, 12), "_SimpleDecoder.<locals>.SpecificDecoder.<locals>.DecodeRepeatedField"),
  ((311, 12), "_SimpleDecoder.<locals>.SpecificDecoder.<locals>.DecodeField"),
  ((324, 4), "_ModifiedDecoder.<locals>.InnerDecode"),
  ((332, 4), "_StructPackDecoder.<locals>.InnerDecode"),
  ((150, 18), "_VarintBytes.<locals>.<lambda>")]
def auQual (l c : Nat) : Str := (quals.lookup (l, c)).getD ""
structure Ok (G : Gl) : Prop where
  K : G.K = hdK G.w
  q : G.qualAt = auQual
  codes : G.codes = [112, 119, 126, 141, 155, 162, 169, 183, 197, 204, 211]

section
variable {G : Gl} {f : Fk} {A : Around} {vs : Vals} {n : Led} {E : Value → Shared → Prop} {env : Env}
/-- a call of a def of the text -/
theorem Wp.callK (hG : Ok G) {fa : Addr} {name qual : Str} {params : Arguments} {body : List Stmt} {scope : Scope} {dV kV doc pm cdv ct oc : Value} {an od : Option Addr} {osl : Array (Option Value)}
    {args : List Value} {kw : List (Str × Value)} {binds : List (Str × Value)} {ns : List Str} {Q : Value → Vals → Led → Prop} {k : Nat} (rm : Rm A (k + 1))
    (ho : (hdK G.w).lookup fa = some ⟨oc, od, .func (fnX name qual params body scope [] dV kV doc pm an cdv ct), osl⟩) (hcd : codeIn (hdK G.w) cdv qual = true)
    (hb : ∀ s, St G f vs n s → BindsTo s (fnX name qual params body scope [] dV kV doc pm an cdv ct) ⟨args, kw⟩ binds) (hnd : ns.Nodup) (hk : scope.kind = .function)
    (h : ∀ g L A' env, env = envX qual scope L fa cdv (cellsFrom (L + 1) scope.names []) → (∀ p ∈ n, p.1 < L) → Rm A' k →
      ∃ R vs' n', SlotsOk (hdK G.w) ⟨g, L, ns⟩ env R ∧ Pl ⟨g, L, ns⟩ env R binds (List.replicate ns.length none) (cellLed (L + 1) scope.names ++ n) vs' n' ∧
        (Res G ⟨g, L, ns⟩ env R → Wp G ⟨g, L, ns⟩ A' (execs body env) vs' n' (fun fl _ n'' => ∃ n₃, (∀ p ∈ n₃, p ∈ n'') ∧ Q (retOf fl) vs n₃) Bot))
    (hco : scope.isCoroutine = false := by rfl) (hgen : scope.isGenerator = false := by rfl) : Wp G f A (PySem.call (.ref fa) args kw) vs n Q E := by
  have hK := hG.K
  refine Wp.callFn (ns := ns) (fd := fnX name qual params body scope [] dV kV doc pm an cdv ct) rm.room (fun s S => FnIs.ofK S (by rw [hK]; exact ho) (by rw [hK]; exact hcd)) rfl hb (fun g L env he hlt => ?_) hco hgen
  obtain ⟨R, vs', n', so, P, W⟩ := h g L (A.deeper env) env he hlt rm.deeper
  have r : Res G ⟨g, L, ns⟩ env R := by subst he; exact ⟨hk, rfl, rfl, rfl, hnd, by rw [hK]; exact so.all⟩
  exact ⟨R, vs', n', r, P, (W r).bot⟩
theorem KP.k (hG : Ok G) {a : Addr} {o : Obj} (h : (hdK G.w).lookup a = some o) (ho : FnO o) : KP G n (.ref a) := .fnK (by rw [hG.K]; exact h) ho
end
end

local macro_rules | `(tactic| walk_at "au_m") => `(tactic| repeat (first | exact List.Mem.head _ | apply List.Mem.tail))
local macro_rules | `(tactic| walk_at "au_l") => `(tactic| first | exact List.Mem.head _ | assumption | (refine List.Mem.tail _ ?_; walk_at "au_l"))
local macro_rules | `(tactic| walk_at "au_sl") => `(tactic| (repeat' (first | trivial | (refine And.intro ?_ ?_); with_unfolding_all kernel_rfl)))
local macro_rules | `(tactic| walk_at "au_slots") => `(tactic| ((repeat (refine ⟨?_, ?_⟩; first | exact ⟨by kernel_rfl, by rfl, by kernel_rfl⟩ | exact ⟨by kernel_rfl, by kernel_rfl, by kernel_rfl⟩ | exact ⟨by kernel_rfl, by kernel_rfl, by rfl, by kernel_rfl, by kernel_rfl⟩ | exact ⟨.inl (by rfl), by rfl, by kernel_rfl, by kernel_rfl⟩ | exact ⟨.inr (by rfl), by rfl, by kernel_rfl, by kernel_rfl⟩)); exact trivial))
local macro_rules | `(tactic| walk_at "au") => `(tactic| first
  | ((with_reducible show Wp _ _ _ (eval (.Name _ _) _) _ _ _ _); first
    | refine Wp.nml (by assumption) (by walk_at "au_m") (by rfl) ?_
    | refine Wp.nmg (by assumption) (by walk_at "au_m") ?_
    | refine Wp.nmb (by assumption) (by walk_at "au_m") ?_
    | refine Wp.nmc (by assumption) (by walk_at "au_m") (by walk_at "au_l") (by rfl) ?_)
  | ((with_reducible show Wp _ _ _ (eval (.Constant (.int _) _ _) _) _ _ _ _); refine Wp.cint fun _ => ?_)
  | ((with_reducible show Wp _ _ _ (eval (.Constant (.str _) _ _) _) _ _ _ _); refine Wp.cstr fun _ => ?_)
  | ((with_reducible show Wp _ _ _ (eval (.Constant (.bytes _) _ _) _) _ _ _ _); refine Wp.cbytes fun _ => ?_)
  | ((with_reducible show Wp _ _ _ (eval (.Constant (.bool _) _ _) _) _ _ _ _); refine Wp.cbool ?_)
  | ((with_reducible show Wp _ _ _ (eval (.Constant .none _ _) _) _ _ _ _); refine Wp.cnone ?_)
  | ((with_reducible show Wp _ _ _ (eval (.BinOp _ _ _ _) _) _ _ _ _); refine Wp.bin ?_)
  | ((with_reducible show Wp _ _ _ (eval (.Compare _ [_] [_] _) _) _ _ _ _); refine Wp.cmp ?_)
  | ((with_reducible show Wp _ _ _ (eval (.IfExp _ _ _ _) _) _ _ _ _); refine Wp.ifExp ?_)
  | ((with_reducible show Wp _ _ _ (eval (.Subscript _ _ _) _) _ _ _ _); refine Wp.subs ?_)
  | ((with_reducible show Wp _ _ _ (eval (.Tuple _ _ _) _) _ _ _ _); refine Wp.tuple ?_)
  | ((with_reducible show Wp _ _ _ (eval (.List _ _) _) _ _ _ _); refine Wp.list ?_)
  | ((with_reducible show Wp _ _ _ (eval (.Slice _ _ none _) _) _ _ _ _); refine Wp.slc ?_)
  | ((with_reducible show Wp _ _ _ (eval (.Call (.Attribute _ _ _) _ [] _) _) _ _ _ _); refine Wp.meth ?_)
  | ((with_reducible show Wp _ _ _ (eval (.Call _ _ [] _) _) _ _ _ _); refine Wp.call ?_)
  | ((with_reducible show Wp _ _ _ (evalPart none _) _ _ _ _); refine Wp.part0 ?_)
  | ((with_reducible show Wp _ _ _ (evalPart (some _) _) _ _ _ _); refine Wp.part1 ?_)
  | ((with_reducible show Wp _ _ _ (spliced (backTo _ (starEach [] _))) _ _ _ _); refine Wp.spl0 ?_)
  | ((with_reducible show Wp _ _ _ (spliced (backTo _ (starEach (_ :: _) _))) _ _ _ _); refine Wp.spl ?_)
  | ((with_reducible show Wp _ _ _ (callWith _ _ _ (backTo _ (starEach [] _)) _) _ _ _ _); refine Wp.callW0 (by assumption) ?_)
  | ((with_reducible show Wp _ _ _ (callWith _ _ _ (backTo _ (starEach (_ :: _) _)) _) _ _ _ _); refine Wp.callW ?_)
  | ((with_reducible show Wp _ _ _ (binaryOp .Add (.int _ _) (.int _ _)) _ _ _ _); refine Wp.add fun _ => ?_)
  | ((with_reducible show Wp _ _ _ (binaryOp .Sub (.int _ _) (.int _ _)) _ _ _ _); refine Wp.sub fun _ => ?_)
  | ((with_reducible show Wp _ _ _ (binaryOp .BitAnd (.int _ _) (.int _ _)) _ _ _ _); refine Wp.band fun _ => ?_)
  | ((with_reducible show Wp _ _ _ (binaryOp .BitOr (.int _ _) (.int _ _)) _ _ _ _); refine Wp.bor fun _ => ?_)
  | ((with_reducible show Wp _ _ _ (inplaceOp .Add (.int _ _) (.int _ _)) _ _ _ _); refine Wp.iadd fun _ => ?_)
  | ((with_reducible show Wp _ _ _ (inplaceOp .BitOr (.int _ _) (.int _ _)) _ _ _ _); refine Wp.ibor fun _ => ?_)
  | ((with_reducible show Wp _ _ _ (inplaceOp .BitAnd (.int _ _) (.int _ _)) _ _ _ _); refine Wp.iband fun _ => ?_)
  | ((with_reducible show Wp _ _ _ (compareOp .Lt (.int _ _) (.int _ _)) _ _ _ _); refine Wp.lt ?_)
  | ((with_reducible show Wp _ _ _ (compareOp .LtE (.int _ _) (.int _ _)) _ _ _ _); refine Wp.le ?_)
  | ((with_reducible show Wp _ _ _ (compareOp .Gt (.int _ _) (.int _ _)) _ _ _ _); refine Wp.gt ?_)
  | ((with_reducible show Wp _ _ _ (compareOp .GtE (.int _ _) (.int _ _)) _ _ _ _); refine Wp.ge ?_)
  | ((with_reducible show Wp _ _ _ (compareOp .Eq (.int _ _) (.int _ _)) _ _ _ _); refine Wp.eq ?_)
  | ((with_reducible show Wp _ _ _ (compareOp .NotEq (.int _ _) (.int _ _)) _ _ _ _); refine Wp.ne ?_)
  | ((with_reducible show Wp _ _ _ (compareOp .Eq (.str _ _) (.str _ _)) _ _ _ _); refine Wp.eqS ?_)
  | ((with_reducible show Wp _ _ _ (compareOp .NotEq (.bytes _ _) (.bytes _ _)) _ _ _ _); refine Wp.neB ?_)
  | ((with_reducible show Wp _ _ _ (truthy (.bool _)) _ _ _ _); refine Wp.trb ?_)
  | ((with_reducible show Wp _ _ _ (truthy (.int _ _)) _ _ _ _); refine Wp.tri ?_)
  | ((with_reducible show Wp _ _ _ (isTrue (.Compare _ [_] [_] _) _ _) _ _ _ _); refine Wp.tcmp ?_)
  | ((with_reducible show Wp _ _ _ (isTrue (.Compare _ [_, _] [_, _] _) _ _) _ _ _ _); refine Wp.tchain ?_)
  | ((with_reducible show Wp _ _ _ (isTrue (.UnaryOp .Not _ _) _ _) _ _ _ _); refine Wp.tnot ?_)
  | ((with_reducible show Wp _ _ _ (isTrue (.BoolOp .Or [] _) _ _) _ _ _ _); refine Wp.tor0 ?_)
  | ((with_reducible show Wp _ _ _ (isTrue (.BoolOp .Or (_ :: _) _) _ _) _ _ _ _); refine Wp.tor ?_)
  | ((with_reducible show Wp _ _ _ (isTrue (.BoolOp .And [] _) _ _) _ _ _ _); refine Wp.tand0 ?_)
  | ((with_reducible show Wp _ _ _ (isTrue (.BoolOp .And (_ :: _) _) _ _) _ _ _ _); refine Wp.tand ?_)
  | ((with_reducible show Wp _ _ _ (isTrue (.Name _ _) _ _) _ _ _ _); refine Wp.tplain ?_)
  | ((with_reducible show Wp _ _ _ (isTrue (.Constant _ _ _) _ _) _ _ _ _); refine Wp.tplain ?_)
  | ((with_reducible show Wp _ _ _ (isTrue (.BinOp _ _ _ _) _ _) _ _ _ _); refine Wp.tplain ?_)
  | ((with_reducible show Wp _ _ _ (isTrue (.Call _ _ _ _) _ _) _ _ _ _); refine Wp.tplain ?_)
  | ((with_reducible show Wp _ _ _ (loadName _ _) _ _ _ _); first | refine Wp.ldl (by assumption) (by walk_at "au_m") (by rfl) ?_ | refine Wp.ldc (by assumption) (by walk_at "au_m") (by walk_at "au_l") (by rfl) ?_)
  | ((with_reducible show Wp _ _ _ (storeName _ _ _) _ _ _ _); first | refine Wp.stl (by assumption) (by walk_at "au_m") (by first | decide | simp) ?_ | refine Wp.stc (by assumption) (by walk_at "au_m") (by subst_vars; kernel_rfl) (by walk_at "au_l") ?_)
  | ((with_reducible show Wp _ _ _ (execs [] _) _ _ _ _); first | refine Wp.nilT ?_ | refine Wp.nil ?_)
  | ((with_reducible show Wp _ _ _ (execs (.Assign [.Name _ _] _ _ :: _) _) _ _ _ _); refine Wp.conA ?_)
  | ((with_reducible show Wp _ _ _ (execs (.AugAssign (.Name _ _) _ _ _ :: _) _) _ _ _ _); refine Wp.conU ?_)
  | ((with_reducible show Wp _ _ _ (execs (.Return (some _) _ :: _) _) _ _ _ _); refine Wp.conR ?_)
  | ((with_reducible show Wp _ _ _ (execs (.Expr _ _ :: _) _) _ _ _ _); refine Wp.conE ?_ (hi := by first | rfl | (subst_vars; rfl)))
  | ((with_reducible show Wp _ _ _ (execs (.If _ _ [] _ :: _) _) _ _ _ _); refine Wp.conI1 ?_)
  | ((with_reducible show Wp _ _ _ (execs (.If _ _ (_ :: _) _ :: _) _) _ _ _ _); refine Wp.conI ?_))
local macro_rules | `(tactic| walk_at "aus") => `(tactic| repeat (walk_at "au"))
local macro_rules | `(tactic| walk_at "au_pl") => `(tactic| ((repeat (refine Pl.loc (by walk_at "au_m") (by simp) ?_)); exact Pl.nil))

section
open PySem PySem.Spec PySem.Calls PyProof.Rows PySem.W

theorem iT {P1 P2 : Prop} {b : Bool} (hb : b = true) (h : P1) : (b = true → P1) ∧ (b = false → P2) := ⟨fun _ => h, fun e => by rw [hb] at e; cases e⟩
theorem iF {P1 P2 : Prop} {b : Bool} (hb : b = false) (h : P2) : (b = true → P1) ∧ (b = false → P2) := ⟨fun e => (by rw [hb] at e; cases e), fun _ => h⟩
theorem iB {P1 P2 : Prop} {p : Prop} [Decidable p] (h1 : p → P1) (h2 : ¬ p → P2) : (decide p = true → P1) ∧ (decide p = false → P2) := ⟨fun e => h1 (of_decide_eq_true e), fun e => h2 (of_decide_eq_false e)⟩

/-! figures of seven bits, the least first -/
def vint (n : Nat) : List UInt8 := if _h : n < 128 then [n.toUInt8] else (n % 128 + 128).toUInt8 :: vint (n / 128)
termination_by n
decreasing_by omega
theorem vint_lt {n : Nat} (h : n < 128) : vint n = [n.toUInt8] := by rw [vint, dif_pos h]
theorem vint_ge {n : Nat} (h : ¬ n < 128) : vint n = (n % 128 + 128).toUInt8 :: vint (n / 128) := by rw [vint, dif_neg h]
theorem vint_len1 {n : Nat} (h : n ≤ 127) : (vint n).length = 1 := by rw [vint_lt (by omega)]; rfl
theorem vint_lenS {n : Nat} (h : 127 < n) : (vint n).length = (vint (n / 128)).length + 1 := by rw [vint_ge (by omega)]; rfl
theorem vint_pos (n : Nat) : 0 < (vint n).length := by
  by_cases h : n < 128
  · rw [vint_lt h]; simp
  · rw [vint_ge h]; simp

section
variable {G : Gl} {f : Fk} {A : Around} {vs : Vals} {n : Led} {E : Value → Shared → Prop} {Q : Value → Vals → Led → Prop}
theorem size_run (hG : Ok G) (rm : Rm A 1) {x : Int} {t : Tok} (h : ∀ t, Q (.int (x + 1) t) vs n) : Wp G f A (PySem.call (.ref 259) [.int x t]) vs n Q E := by
  refine Wp.callK hG (ns := ["value"]) rm (by rfl) (by kernel_rfl) (fun s _ => BindsTo.of_eq (by rfl)) (by decide +kernel) (by rfl) (fun g L A' env he hlt rm' => ⟨[("value", .loc 0)], [some (.int x t)], n, ?_, ?_, fun r => ?_⟩)
  · subst he; walk_at "au_slots"
  · exact .loc (.head _) (by decide) .nil
  · walk_at "aus"
    exact ⟨n, fun _ hp => hp, h _⟩
theorem twice (hG : Ok G) (rm : Rm A 1) {x : Int} {t : Tok} (hx : 0 ≤ x) (hx2 : x ≤ 1000000) (h : ∀ t, Q (.int (2 * x) t) vs n) : Wp G f A (PySem.call (.ref 294) [.int x t]) vs n Q E := by
  refine Wp.callK hG (ns := ["value"]) rm (by rfl) (by kernel_rfl) (fun s _ => BindsTo.of_eq (by rfl)) (by decide +kernel) (by rfl) (fun g L A' env he hlt rm' => ⟨[("value", .loc 0)], [some (.int x t)], n, ?_, ?_, fun r => ?_⟩)
  · subst he; walk_at "au_slots"
  · exact .loc (.head _) (by decide) .nil
  · walk_at "aus"
    refine Wp.mul (IntMulOk.of_left (by decide)) fun _ => ?_
    · exact ⟨n, fun _ hp => hp, h _⟩
theorem half (hG : Ok G) (rm : Rm A 1) {x : Int} {t : Tok} (hx : 0 ≤ x) (hx2 : x ≤ 1000000) (h : ∀ t, Q (.int (x / 2) t) vs n) : Wp G f A (PySem.call (.ref 301) [.int x t]) vs n Q E := by
  refine Wp.callK hG (ns := ["value"]) rm (by rfl) (by kernel_rfl) (fun s _ => BindsTo.of_eq (by rfl)) (by decide +kernel) (by rfl) (fun g L A' env he hlt rm' => ⟨[("value", .loc 0)], [some (.int x t)], n, ?_, ?_, fun r => ?_⟩)
  · subst he; walk_at "au_slots"
  · exact .loc (.head _) (by decide) .nil
  · walk_at "aus"
    refine Wp.fdv (by decide) (PyProof.noPylong_small (by omega)) fun _ => ?_
    exact ⟨n, fun _ hp => hp, h _⟩
theorem new_ (hG : Ok G) (rm : Rm A 1) {x : Value} (h : ∀ a, (∀ p ∈ n, p.1 < a) → Q (.ref a) vs ((a, Lst []) :: n)) : Wp G f A (PySem.call (.ref 245) [x]) vs n Q E := by
  refine Wp.callK hG (ns := ["message"]) rm (by rfl) (by kernel_rfl) (fun s _ => BindsTo.of_eq (by rfl)) (by decide +kernel) (by rfl) (fun g L A' env he hlt rm' => ⟨[("message", .loc 0)], [some x], n, ?_, ?_, fun r => ?_⟩)
  · subst he; walk_at "au_slots"
  · exact .loc (.head _) (by decide) .nil
  · walk_at "aus"
    exact Wp.newList (by decide) fun a ha => ⟨_, fun _ hp => hp, h a ha⟩
def FmtOk (x : Str) (sz : Nat) : Prop := (x = "<I" ∧ sz = 4) ∨ (x = "<Q" ∧ sz = 8)
theorem calcsize (hG : Ok G) (rm : Rm A 1) {x : Str} {sz : Nat} {t : Tok} (hx : FmtOk x sz) (h : ∀ t, Q (.int sz t) vs n) : Wp G f A (PySem.call (.ref 71) [.str x t]) vs n Q E := by
  refine Wp.callK hG (ns := ["format"]) rm (by rfl) (by kernel_rfl) (fun s _ => BindsTo.of_eq (by rfl)) (by decide +kernel) (by rfl) (fun g L A' env he hlt rm' => ⟨[("format", .loc 0)], [some (.str x t)], n, ?_, ?_, fun r => ?_⟩)
  · subst he; walk_at "au_slots"
  · exact .loc (.head _) (by decide) .nil
  · rcases hx with ⟨rfl, rfl⟩ | ⟨rfl, rfl⟩
    · walk_at "aus"
      refine iT (by decide +kernel) (iT rfl ?_)
      walk_at "aus"
      exact ⟨n, fun _ hp => hp, h _⟩
    · walk_at "aus"
      refine iF (by decide +kernel) ?_
      walk_at "aus"
      refine iF (by decide +kernel) ?_
      walk_at "aus"
      refine iF rfl ?_
      walk_at "aus"
      exact ⟨n, fun _ hp => hp, h _⟩
theorem varintSize (hG : Ok G) (rm : Rm A 1) {x : Nat} {t : Tok} (hx : x < 34359738368) (h : ∀ t, Q (.int (vint x).length t) vs n) : Wp G f A (PySem.call (.ref 99) [.int x t]) vs n Q E := by
  refine Wp.callK hG (ns := ["value"]) rm (by rfl) (by kernel_rfl) (fun s _ => BindsTo.of_eq (by rfl)) (by decide +kernel) (by rfl) (fun g L A' env he hlt rm' => ⟨[("value", .loc 0)], [some (.int x t)], n, ?_, ?_, fun r => ?_⟩)
  · subst he; walk_at "au_slots"
  · exact .loc (.head _) (by decide) .nil
  · walk_at "aus"
    refine iB (fun c1 => ?_) (fun c1 => ?_)
    · walk_at "aus"
      refine ⟨n, fun _ hp => hp, ?_⟩
      have := h
      rw [vint_len1 (by omega)] at this
      exact this _
    walk_at "aus"
    refine iB (fun c2 => ?_) (fun c2 => ?_)
    · walk_at "aus"
      refine ⟨n, fun _ hp => hp, ?_⟩
      have := h
      rw [vint_lenS (by omega), vint_len1 (by omega)] at this
      exact this _
    walk_at "aus"
    refine iB (fun c3 => ?_) (fun c3 => ?_)
    · walk_at "aus"
      refine ⟨n, fun _ hp => hp, ?_⟩
      have := h
      rw [vint_lenS (by omega), vint_lenS (by omega), vint_len1 (by omega)] at this
      exact this _
    walk_at "aus"
    refine iB (fun c4 => ?_) (fun c4 => ?_)
    · walk_at "aus"
      refine ⟨n, fun _ hp => hp, ?_⟩
      have := h
      rw [vint_lenS (by omega), vint_lenS (by omega), vint_lenS (by omega), vint_len1 (by omega)] at this
      exact this _
    walk_at "aus"
    refine iB (fun c5 => ?_) (fun c5 => ?_)
    · walk_at "aus"
      refine ⟨n, fun _ hp => hp, ?_⟩
      have := h
      rw [vint_lenS (by omega), vint_lenS (by omega), vint_lenS (by omega), vint_lenS (by omega), vint_len1 (by omega)] at this
      exact this _
    omega
end
end

section
open PySem PySem.Spec PySem.Calls PyProof.Rows PySem.W

theorem or_low {a b i : Nat} (hb : b < 2 ^ i) : Builtin.bitOr ((a * 2 ^ i : Nat) : Int) (b : Nat) = ((a * 2 ^ i + b : Nat) : Int) := by
  rw [bitOr_and, bitAnd_pp (by omega) (by omega)]
  simp only [Int.toNat_natCast]
  have h1 := Nat.two_pow_add_eq_or_of_lt hb a
  have h2 : (2 ^ i * a) &&& b = 0 := by
    have := Nat.and_or_distrib_left
    apply Nat.eq_of_testBit_eq
    intro j
    simp only [Nat.testBit_and, Nat.zero_testBit]
    by_cases hj : j < i
    · simp [Nat.testBit_two_pow_mul, hj, Nat.not_le.mpr hj]
    · have : b.testBit j = false := Nat.testBit_lt_two_pow (Nat.lt_of_lt_of_le hb (Nat.pow_le_pow_right (by decide) (by omega)))
      simp [this]
  rw [Nat.mul_comm a, h2]
  simp
theorem or128 {b : Nat} (hb : b < 128) : Builtin.bitOr 128 (b : Int) = ((128 + b : Nat) : Int) := by
  have := or_low (a := 1) (b := b) (i := 7) hb
  simpa using this

theorem vint_len_le (x : Nat) (hx : x < 2 ^ 60) : (vint x).length ≤ 60 := by
  have : ∀ k x, x < 2 ^ k → (vint x).length ≤ k + 1 := by
    intro k
    induction k with
    | zero => intro x h; rw [vint_len1 (by omega)]; omega
    | succ k ih =>
      intro x h
      by_cases h2 : x ≤ 127
      · rw [vint_len1 h2]; omega
      · rw [vint_lenS (by omega)]
        have := ih (x / 128) (by rw [Nat.pow_succ] at h; omega)
        omega
  have h59 := this 59
  by_cases h : x < 2 ^ 59
  · exact h59 x h
  · rw [vint_lenS (by omega)]
    have := this 53 (x / 128) (by omega)
    omega
theorem mem_upd_more {p x : Addr × Obj} {n : Led} {c : Addr} {o o' : Obj} (h : p ∈ upd n c o') : p ∈ upd (x :: upd n c o) c o' := by
  show p ∈ _ :: upd (upd n c o) c o'
  rw [upd_upd]; exact .tail _ h
/-- what writes: each call adds a piece to the list at P -/
structure Writer (G : Gl) (wv : Value) (P : Addr) (src : Led) (k : Nat) : Prop where
  kp : ∀ n, (∀ p ∈ src, p ∈ n) → KP G n wv
  ne : ∀ p ∈ src, p.1 ≠ P
  run : ∀ (f : Fk) (A : Around) vs n (bs : List (List UInt8 × Tok)) ep b t E (Q : Value → Vals → Led → Prop), (∀ p ∈ src, p ∈ n) → (P, Lst (bs.map byVal) ep) ∈ n → Rm A k → bs.length ≤ 900000 →
    Q .none vs (upd n P (Lst ((bs ++ [(b, t)]).map byVal) (ep + 1))) → Wp G f A (PySem.call wv [.bytes b.toArray t]) vs n Q E
theorem Writer.src {G : Gl} {wv : Value} {P : Addr} {src : Led} {k : Nat} (W : Writer G wv P src k) {n : Led} {o : Obj} (h : ∀ p ∈ src, p ∈ n) : ∀ p ∈ src, p ∈ upd n P o := fun p hp => mem_upd_ne (a := p.1) (o := p.2) (h p hp) (W.ne p hp)

theorem writer_bnd {G : Gl} {b P : Addr} (h : b ≠ P) : Writer G (.ref b) P [(b, bnd P)] 0 where
  kp := fun n hs => .mth (hs _ (.head _)) (bnd_mth P)
  ne := fun p hp => by rw [List.mem_singleton.mp hp]; exact h
  run := fun f A vs n bs ep c t E Q hs hP rm hz q => Wp.callBnd (hs _ (.head _)) hP (by simp; omega) (by rw [List.map_append] at q; exact q)

section
variable {G : Gl} {f : Fk} {A : Around} {vs : Vals} {n : Led} {E : Value → Shared → Prop} {Q : Value → Vals → Led → Prop}
theorem packTag (hG : Ok G) (rm : Rm A 1) {num wire : Nat} {t u : Tok} (h1 : num < 2 ^ 40) (h2 : wire ≤ 5) (h : ∀ t, Q (.int ((8 * num + wire : Nat) : Int) t) vs n) : Wp G f A (PySem.call (.ref 92) [.int num t, .int wire u]) vs n Q E := by
  refine Wp.callK hG (ns := ["field_number", "wire_type"]) rm (by rfl) (by kernel_rfl) (fun s _ => BindsTo.of_eq (by rfl)) (by decide +kernel) (by rfl) (fun g L A' env he hlt rm' => ⟨[("field_number", .loc 0), ("wire_type", .loc 1), ("_WIRETYPE_MAX", .glo (.int 5 293)), ("EncodeError", .glo (.ref 49)), ("TAG_TYPE_BITS", .glo (.int 3 289))], [some (.int num t), some (.int wire u)], n, ?_, ?_, fun r => ?_⟩)
  · subst he; walk_at "au_slots"
  · walk_at "au_pl"
  · walk_at "aus"
    refine iT (by simp) ?_
    walk_at "aus"
    refine iF (by simp; omega) ?_
    walk_at "aus"
    refine Wp.shl (by decide) (by decide) (by omega) fun _ => ?_
    walk_at "aus"
    have e : Builtin.bitOr ((num : Int) * 2 ^ (3 : Int).toNat) (wire : Int) = ((8 * num + wire : Nat) : Int) := by
      have := or_low (a := num) (b := wire) (i := 3) (by omega)
      rw [show 8 * num + wire = num * 2 ^ 3 + wire by omega, ← this]
      rfl
    rw [e]
    exact ⟨n, fun _ hp => hp, h _⟩

theorem encodeVarint (hG : Ok G) {wv det : Value} {P : Addr} {src : Led} {k : Nat} (W : Writer G wv P src k) (hs : ∀ p ∈ src, p ∈ n) {bs : List (List UInt8 × Tok)} {ep : Nat} (hP : (P, Lst (bs.map byVal) ep) ∈ n) (rm : Rm A (k + 1)) (hb : bs.length ≤ 800000)
    {x : Nat} {t : Tok} (hx : x < 2 ^ 60) (h : ∀ bs' ep', (bs'.map (·.1)).flatten = vint x → bs'.length = (vint x).length → Q .none vs (upd n P (Lst ((bs ++ bs').map byVal) ep'))) :
    Wp G f A (PySem.call (.ref 135) [wv, .int x t, det]) vs n Q E := by
  refine Wp.callK hG (ns := ["write", "value", "unused_deterministic", "bits"]) rm (by rfl) (by kernel_rfl) (fun s S => BindsTo.of_defaults (T := 128) rfl (S.F.keep _ _ (S.X _ _ (by rw [hG.K]; rfl))) (by rfl) (by rfl) (by rfl)) (by decide +kernel) (by rfl) (fun g L A' env he hlt rm' => ⟨[("write", .loc 0), ("value", .loc 1), ("unused_deterministic", .loc 2), ("bits", .loc 3), ("bytes", .bui (.type "bytes"))], [some wv, some (.int x t), some det, none], n, ?_, ?_, fun r => ?_⟩)
  · subst he; walk_at "au_slots"
  · walk_at "au_pl"
  · have kb : ∀ n, KP G n (.type "bytes") := fun _ => .typ _
    have e1 : ∀ x : Nat, ((x : Int) / 2 ^ (7 : Int).toNat) = ((x / 128 : Nat) : Int) := fun x => by rw [show ((2 : Int) ^ (7 : Int).toNat) = 128 by decide]; omega
    have e2 : ∀ x : Nat, Builtin.bitAnd (x : Int) 127 = ((x % 128 : Nat) : Int) := fun x => by rw [bitAnd_m7]; omega
    refine Wp.norm hP (Lst_tm _ _) ?_
    walk_at "aus"
    refine Wp.ishr (by decide) fun _ => ?_
    walk_at "aus"
    refine Wp.conW (fun m vs' n' => ∃ (v b : Nat) (t1 t2 : Tok) (bs' : List (List UInt8 × Tok)) (ep' : Nat), m = v ∧ b < 128 ∧ v < 2 ^ 60 ∧ vs' = [some wv, some (.int v t1), some det, some (.int b t2)] ∧ n' = upd n P (Lst ((bs ++ bs').map byVal) ep') ∧
      (bs'.map (·.1)).flatten ++ vint (v * 128 + b) = vint x ∧ bs'.length + (vint (v * 128 + b)).length = (vint x).length) (x / 128) ⟨x / 128, x % 128, _, _, [], ep, rfl, by omega, by omega, by rw [e1, e2]; rfl, by simp, by rw [show x / 128 * 128 + x % 128 = x by omega]; rfl, by rw [show x / 128 * 128 + x % 128 = x by omega]; simp⟩ ?_
    · rintro v vs' n' ⟨_, b, t1, t2, bs', ep', rfl, hb', hv, rfl, rfl, hfl, hln⟩
      have hPm : (P, Lst ((bs ++ bs').map byVal) ep') ∈ upd n P (Lst ((bs ++ bs').map byVal) ep') := mem_upd_self hP
      walk_at "aus"
      refine ⟨fun hv0 => ?_, fun hv0 => ?_⟩
      · have hv1 : 0 < v := by
          rcases Nat.eq_zero_or_pos v with h | h
          · subst h; simp at hv0
          · exact h
        have ev : vint (v * 128 + b) = [(b + 128).toUInt8] ++ vint v := by
          rw [vint_ge (by omega), show (v * 128 + b) % 128 = b by omega, show (v * 128 + b) / 128 = v by omega]; rfl
        walk_at "aus"
        refine Wp.newList (by simp) fun a ha => ?_
        walk_at "aus"
        refine ⟨.typ _, ?_⟩
        rw [or128 hb']
        refine Wp.mkB (ks := [((128 + b : Nat) : Int)]) rm'.hh (.head _) (.cons _ _ .nil) (by intro k hk; rw [List.mem_singleton.mp hk]; omega) (by simp) fun tb => ?_
        walk_at "aus"
        generalize hl : Lst [Value.int ((128 + b : Nat) : Int) _] = lo
        have hs2 : ∀ p ∈ src, p ∈ (a, lo) :: upd n P (Lst ((bs ++ bs').map byVal) ep') := fun p hp => .tail _ (W.src hs p hp)
        refine ⟨W.kp _ hs2, ?_⟩
        refine W.run _ _ _ _ (bs ++ bs') ep' [(128 + b).toUInt8] tb _ _ hs2 (.tail _ hPm) (rm'.le (Nat.le_refl _)) ?_ ?_
        · have h8 := vint_len_le x hx
          rw [List.length_append]; omega
        · refine ⟨rfl, ?_⟩
          walk_at "aus"
          refine Wp.ishr (by decide) fun _ => ?_
          walk_at "aus"
          refine ⟨v / 128, upd n P (Lst ((bs ++ (bs' ++ [([(128 + b).toUInt8], tb)])).map byVal) (ep' + 1)), by omega, fun p hp => ?_, v / 128, v % 128, _, _, bs' ++ [([(128 + b).toUInt8], tb)], ep' + 1, rfl, by omega, by omega, by rw [e1, e2]; rfl, rfl, ?_, ?_⟩
          · rw [← List.append_assoc] at hp
            exact mem_upd_more hp
          · rw [show v / 128 * 128 + v % 128 = v by omega, ← hfl, ev, Nat.add_comm 128 b]; simp
          · rw [show v / 128 * 128 + v % 128 = v by omega, ← hln, ev]; simp; omega
      · have hv1 : v = 0 := by
          rcases Nat.eq_zero_or_pos v with h | h
          · exact h
          · have h2 : ((v : Int) != 0) = true := by rw [bne_iff_ne]; omega
            rw [h2] at hv0; cases hv0
        subst hv1
        walk_at "aus"
        refine Wp.newList (by simp) fun a ha => ?_
        walk_at "aus"
        refine ⟨.typ _, ?_⟩
        refine Wp.mkB (ks := [(b : Int)]) rm'.hh (.head _) (.cons _ _ .nil) (by intro k hk; rw [List.mem_singleton.mp hk]; omega) (by simp) fun tb => ?_
        walk_at "aus"
        generalize hl : Lst [Value.int (b : Int) _] = lo
        have hs2 : ∀ p ∈ src, p ∈ (a, lo) :: upd n P (Lst ((bs ++ bs').map byVal) ep') := fun p hp => .tail _ (W.src hs p hp)
        refine ⟨W.kp _ hs2, ?_⟩
        refine W.run _ _ _ _ (bs ++ bs') ep' [b.toUInt8] tb _ _ hs2 (.tail _ hPm) (rm'.le (Nat.le_refl _)) ?_ ?_
        · have h8 := vint_len_le x hx
          rw [List.length_append]; omega
        · have h' := h (bs' ++ [([b.toUInt8], tb)]) (ep' + 1) (by rw [← hfl, show 0 * 128 + b = b by omega, vint_lt hb']; simp) (by rw [← hln, show 0 * 128 + b = b by omega, vint_lt hb']; simp)
          rw [← List.append_assoc] at h'
          exact ⟨_, fun p hp => mem_upd_more hp, h'⟩
end
end

section
open PySem PySem.Spec PySem.Calls PyProof.Rows PySem.W

section
variable {G : Gl} {f : Fk} {A : Around} {vs : Vals} {n : Led} {E : Value → Shared → Prop} {Q : Value → Vals → Led → Prop}
theorem tagSize (hG : Ok G) (rm : Rm A 2) {num : Nat} {t : Tok} (h1 : num < 4294967296) (h : ∀ t, Q (.int (vint (8 * num)).length t) vs n) : Wp G f A (PySem.call (.ref 106) [.int num t]) vs n Q E := by
  refine Wp.callK hG (ns := ["field_number"]) rm (by rfl) (by kernel_rfl) (fun s _ => BindsTo.of_eq (by rfl)) (by decide +kernel) (by rfl) (fun g L A' env he hlt rm' => ⟨[("field_number", .loc 0), ("_VarintSize", .glo (.ref 99)), ("PackTag", .glo (.ref 92))], [some (.int num t)], n, ?_, ?_, fun r => ?_⟩)
  · subst he; walk_at "au_slots"
  · walk_at "au_pl"
  · have k1 : KP G n (.ref 92) := .k hG (by rfl) ⟨_, _, _, _, rfl⟩
    have k2 : KP G n (.ref 99) := .k hG (by rfl) ⟨_, _, _, _, rfl⟩
    walk_at "aus"
    refine ⟨k1, ?_⟩
    refine packTag hG rm' (num := num) (wire := 0) (by omega) (by omega) fun _ => ?_
    walk_at "aus"
    refine ⟨k2, ?_⟩
    refine varintSize hG rm' (by omega) fun _ => ?_
    exact ⟨n, fun _ hp => hp, h _⟩
theorem listAppend {P : Addr} {bs : List (List UInt8 × Tok)} {ep : Nat} {b : List UInt8} {t : Tok} (hP : (P, Lst (bs.map byVal) ep) ∈ n) (hz : bs.length ≤ 900000) (h : Q .none vs (upd n P (Lst ((bs ++ [(b, t)]).map byVal) (ep + 1)))) :
    Wp G f A (PySem.call (.builtin "list.append") [.ref P, .bytes b.toArray t]) vs n Q E := Wp.append hP (by simp; omega) (by rw [List.map_append] at h; exact h)
end

def exFirst : Stmt → Expr
  | .Expr (.Call _ (e :: _) _ _) _ => e
  | _ => .Constant .none 0 ⟨0, 0, 0, 0⟩
def lPar : Expr → Arguments
  | .Lambda p _ _ _ => p
  | _ => ⟨[], [], none, [], [], none, []⟩
def lBody : Expr → Expr
  | .Lambda _ b _ _ => b
  | e => e
def lScope : Expr → Scope
  | .Lambda _ _ s _ => s
  | _ => default
def lamE : Expr := exFirst (sAt (dBody (sAt pTop 19)) 1)
theorem writer_lam {G : Gl} {la c P : Addr} {o : Obj} (hc : Clo "<lambda>" "_VarintBytes.<locals>.<lambda>" (lPar lamE) (.expr (lBody lamE)) (lScope lamE) [("pieces", c)] .none o) (h1 : la ≠ P) (h2 : c ≠ P) :
    Writer G (.ref la) P [(la, o), (c, cellObj (some (.ref P)))] 1 where
  kp := fun n hs => clo_fn (hs _ (.head _)) hc
  ne := fun p hp => by
    rcases List.mem_cons.mp hp with e | hp
    · rw [e]; exact h1
    · rw [List.mem_singleton.mp hp]; exact h2
  run := fun f A vs n bs ep b t E Q hs hP rm hz q => by
    refine Wp.callX (hs _ (.head _)) hc rm (ns := ["piece"]) (binds := [("piece", .bytes b.toArray t)]) (fun s doc pm cv ctv _ => BindsTo.of_eq (by kernel_rfl)) (by decide +kernel) (by kernel_rfl) (fun g L A' env cc he hin hlt rm' => ⟨[("piece", .loc 0), ("pieces", .cel c)], [some (.bytes b.toArray t)], n, ?_, ?_, fun r => ?_⟩)
    · subst he; walk_at "au_slots"
    · walk_at "au_pl"
    · have hcm : (c, cellObj (some (.ref P))) ∈ n := hs _ (.tail _ (.head _))
      refine Wp.meth ?_
      refine Wp.nmc r (.tail _ (.head _)) hcm rfl ?_
      refine Wp.gm hP PySem.F.plainAttrs_list slot_list_append type_list_append ?_
      walk_at "aus"
      refine ⟨.bui _, ?_⟩
      exact listAppend hP hz ⟨_, fun _ hp => hp, q⟩

section
variable {G : Gl} {f : Fk} {A : Around} {vs : Vals} {n : Led} {E : Value → Shared → Prop} {Q : Value → Vals → Led → Prop}
theorem varintBytes (hG : Ok G) (rm : Rm A 3) {x : Nat} {t : Tok} (hx : x < 2 ^ 60) (h : ∀ t, Q (.bytes (vint x).toArray t) vs n) : Wp G f A (PySem.call (.ref 142) [.int x t]) vs n Q E := by
  refine Wp.callK hG (ns := ["value"]) rm (by rfl) (by kernel_rfl) (fun s _ => BindsTo.of_eq (by rfl)) (by decide +kernel) (by rfl) (fun g L A' env he hlt rm' => ⟨[("value", .loc 0), ("pieces", .cel (L + 1)), ("_EncodeVarint", .glo (.ref 135))], [some (.int x t)], (L + 1, cellObj none) :: n, ?_, ?_, fun r => ?_⟩)
  · subst he; walk_at "au_slots"
  · walk_at "au_pl"
  · have k1 : ∀ n, KP G n (.ref 135) := fun _ => .k hG (by rfl) ⟨_, _, _, _, rfl⟩
    walk_at "aus"
    refine Wp.newList (by simp) fun P hP => ?_
    have hc1 : L + 1 ≠ P := Nat.ne_of_lt (hP (L + 1, cellObj none) (.head _))
    walk_at "aus"
    rw [upd_cons_ne hc1.symm, upd_cons, upd_id fun p hp => Nat.ne_of_lt (Nat.lt_succ_of_lt (hlt p hp))]
    walk_at "aus"
    refine Wp.lam (clos := [("pieces", L + 1)]) (by subst he; rfl) (by subst he; rfl) (by subst he; rfl) (.inl (by rw [hG.codes]; simp)) (by subst he; rfl) (by rw [hG.q]; rfl) rfl rfl fun la o hc hla => ?_
    walk_at "aus"
    refine ⟨k1 _, ?_⟩
    have W : Writer G (.ref la) P [(la, o), (L + 1, cellObj (some (.ref P)))] 1 := writer_lam hc (Nat.ne_of_gt (hla (P, Lst []) (.head _))) hc1
    refine encodeVarint hG W (by simp) (bs := []) (ep := 0) (.tail _ (.head _)) rm' (by simp) hx fun bs' ep' hfl hln => ?_
    refine ⟨rfl, ?_⟩
    walk_at "aus"
    refine Wp.gmBy slot_join type_join ?_
    rw [upd_cons_ne (Nat.ne_of_gt (hla (P, Lst []) (.head _))), upd_cons, upd_cons_ne hc1, upd_id fun p hp => Nat.ne_of_lt (hP p (.tail _ hp)), List.nil_append]
    walk_at "aus"
    refine ⟨.bui _, ?_⟩
    refine Wp.joinB (.tail _ (.head _)) (by rw [hfl]; have := vint_len_le x hx; omega) fun tj => ?_
    rw [hfl]
    exact ⟨n, fun p hp => .tail _ (.tail _ (.tail _ hp)), h _⟩
theorem tagBytes (hG : Ok G) (rm : Rm A 4) {num wire : Nat} {t u : Tok} (h1 : num < 4294967296) (h2 : wire ≤ 5) (h : ∀ t, Q (.bytes (vint (8 * num + wire)).toArray t) vs n) : Wp G f A (PySem.call (.ref 149) [.int num t, .int wire u]) vs n Q E := by
  refine Wp.callK hG (ns := ["field_number", "wire_type"]) rm (by rfl) (by kernel_rfl) (fun s _ => BindsTo.of_eq (by rfl)) (by decide +kernel) (by rfl) (fun g L A' env he hlt rm' => ⟨[("field_number", .loc 0), ("wire_type", .loc 1), ("bytes", .bui (.type "bytes")), ("_VarintBytes", .glo (.ref 142)), ("PackTag", .glo (.ref 92))], [some (.int num t), some (.int wire u)], n, ?_, ?_, fun r => ?_⟩)
  · subst he; walk_at "au_slots"
  · walk_at "au_pl"
  · have k1 : KP G n (.ref 142) := .k hG (by rfl) ⟨_, _, _, _, rfl⟩
    have k2 : KP G n (.ref 92) := .k hG (by rfl) ⟨_, _, _, _, rfl⟩
    walk_at "aus"
    refine ⟨k2, ?_⟩
    refine packTag hG (rm'.le (by decide)) (by omega) h2 fun _ => ?_
    walk_at "aus"
    refine ⟨k1, ?_⟩
    refine varintBytes hG rm' (by omega) fun _ => ?_
    walk_at "aus"
    refine ⟨.typ _, ?_⟩
    refine Wp.bytesB ?_
    exact ⟨n, fun _ hp => hp, h _⟩
end
end

section
open PySem PySem.Spec PySem.Calls PyProof.Rows PySem.W

/-- writes numbers -/
structure EncV (G : Gl) (ev : Value) (enc : Nat → List UInt8) (B : Nat → Prop) (k : Nat) : Prop where
  kp : ∀ n, KP G n ev
  run : ∀ (wv : Value) (P : Addr) (src : Led) (kw : Nat), Writer G wv P src kw → ∀ (f : Fk) (A : Around) vs n (bs : List (List UInt8 × Tok)) ep v t det E (Q : Value → Vals → Led → Prop), (∀ p ∈ src, p ∈ n) → (P, Lst (bs.map byVal) ep) ∈ n → Rm A (k + kw) → bs.length ≤ 500000 → B v →
    (∀ bs' ep', (bs'.map (·.1)).flatten = enc v → bs'.length ≤ 100 → Q .none vs (upd n P (Lst ((bs ++ bs').map byVal) ep'))) → Wp G f A (PySem.call ev [wv, .int (v : Nat) t, det]) vs n Q E
/-- tells how many octets -/
structure SizeV (G : Gl) (sv : Value) (enc : Nat → List UInt8) (B : Nat → Prop) (k : Nat) : Prop where
  kp : ∀ n, KP G n sv
  run : ∀ (f : Fk) (A : Around) vs n (v : Nat) t E (Q : Value → Vals → Led → Prop), Rm A k → B v → (∀ t, Q (.int (enc v).length t) vs n) → Wp G f A (PySem.call sv [.int v t]) vs n Q E
/-- reads numbers -/
structure DecV (G : Gl) (dv : Value) (nd : Led) (enc : Nat → List UInt8) (res : Nat → Nat) (B : Nat → Prop) (k : Nat) : Prop where
  kp : ∀ n, (∀ p ∈ nd, p ∈ n) → KP G n dv
  run : ∀ (f : Fk) (A : Around) vs n (pre post : List UInt8) (v : Nat) t u E (Q : Value → Vals → Led → Prop), (∀ p ∈ nd, p ∈ n) → Rm A k → B v → (pre ++ (enc v ++ post)).length ≤ 100000 →
    (∀ a t1 t2, (∀ p ∈ n, p.1 < a) → Q (.ref a) vs ((a, Tup [.int (res v) t1, .int ((pre.length + (enc v).length : Nat) : Int) t2]) :: n)) →
    Wp G f A (PySem.call dv [.bytes (pre ++ (enc v ++ post)).toArray t, .int pre.length u]) vs n Q E

def runB (v : Nat) : List UInt8 := List.replicate v 7 ++ [0]
theorem runB_len (v : Nat) : (runB v).length = v + 1 := by simp [runB]
theorem runB_at {pre post : List UInt8} {v j : Nat} (h : j < v) : (pre ++ (runB v ++ post)).getD (pre.length + j) 0 = 7 := by
  rw [List.getD_eq_getElem?_getD, List.getElem?_append_right (by omega), show pre.length + j - pre.length = j by omega, List.getElem?_append_left (by rw [runB_len]; omega), runB, List.getElem?_append_left (by simp; exact h)]
  simp [h]
theorem runB_end {pre post : List UInt8} {v : Nat} : (pre ++ (runB v ++ post)).getD (pre.length + v) 0 = 0 := by
  rw [List.getD_eq_getElem?_getD, List.getElem?_append_right (by omega), show pre.length + v - pre.length = v by omega, List.getElem?_append_left (by rw [runB_len]; omega), runB, List.getElem?_append_right (by simp)]
  simp
theorem sevens (v : Nat) : (List.replicate (v : Int).toNat ([7] : List UInt8)).flatten = List.replicate v 7 := by
  rw [Int.toNat_natCast]
  induction v with
  | zero => rfl
  | succ v ih => rw [List.replicate_succ, List.flatten_cons, ih]; rfl

section
variable {G : Gl} {f : Fk} {A : Around} {vs : Vals} {n : Led} {E : Value → Shared → Prop} {Q : Value → Vals → Led → Prop}
theorem write_run (hG : Ok G) : EncV G (.ref 252) runB (fun v => v ≤ 1000) 1 where
  kp := fun n => .k hG (by rfl) ⟨_, _, _, _, rfl⟩
  run := fun wv P src kw W f A vs n bs ep v t det E Q hs hP rm hz hv h => by
    refine Wp.callK hG (ns := ["put", "value", "unused"]) (k := kw) (by rw [Nat.add_comm]; exact rm) (by rfl) (by kernel_rfl) (fun s _ => BindsTo.of_eq (by rfl)) (by decide +kernel) (by rfl) (fun g L A' env he hlt rm' => ⟨[("put", .loc 0), ("value", .loc 1), ("unused", .loc 2)], [some wv, some (.int v t), some det], n, ?_, ?_, fun r => ?_⟩)
    · subst he; walk_at "au_slots"
    · walk_at "au_pl"
    · walk_at "aus"
      refine Wp.mulB (by simp) (by omega) (by omega) (by simp) fun _ => ?_
      walk_at "aus"
      refine Wp.addB (by simp; omega) fun tb => ?_
      walk_at "aus"
      refine ⟨W.kp _ hs, ?_⟩
      rw [sevens, List.append_toArray]
      refine W.run _ _ _ _ bs ep (runB v) tb _ _ hs hP rm' (by omega) ⟨rfl, ?_⟩
      walk_at "aus"
      exact ⟨_, fun _ hp => hp, h [(runB v, tb)] _ (by simp) (by simp)⟩
theorem size_runV (hG : Ok G) : SizeV G (.ref 259) runB (fun v => v ≤ 1000) 1 where
  kp := fun n => .k hG (by rfl) ⟨_, _, _, _, rfl⟩
  run := fun f A vs n v t E Q rm hv h => size_run hG rm (by intro t; have := h t; rw [runB_len] at this; exact this)
theorem read_run (hG : Ok G) : DecV G (.ref 266) [] runB id (fun v => v ≤ 1000) 1 where
  kp := fun n _ => .k hG (by rfl) ⟨_, _, _, _, rfl⟩
  run := fun f A vs n pre post v t u E Q _ rm hv hz h => by
    refine Wp.callK hG (ns := ["buffer", "at", "first"]) rm (by rfl) (by kernel_rfl) (fun s _ => BindsTo.of_eq (by rfl)) (by decide +kernel) (by rfl) (fun g L A' env he hlt rm' => ⟨[("buffer", .loc 0), ("at", .loc 1), ("first", .loc 2)], [some (.bytes (pre ++ (runB v ++ post)).toArray t), some (.int pre.length u), none], n, ?_, ?_, fun r => ?_⟩)
    · subst he; walk_at "au_slots"
    · walk_at "au_pl"
    · walk_at "aus"
      refine Wp.conW (fun m vs' n' => ∃ (j : Nat) (t1 : Tok), m = v - j ∧ j ≤ v ∧ vs' = [some (.bytes (pre ++ (runB v ++ post)).toArray t), some (.int ((pre.length + j : Nat) : Int) t1), some (.int pre.length u)] ∧ n' = n) v ⟨0, u, by omega, by omega, by simp, rfl⟩ ?_
      rintro m vs' n' ⟨j, t1, rfl, hj, rfl, rfl⟩
      have hl : (pre ++ (runB v ++ post)).length = pre.length + (v + 1) + post.length := by rw [List.length_append, List.length_append, runB_len]; omega
      walk_at "aus"
      refine Wp.itemB (by omega) (by omega) (by omega) fun _ => ?_
      rw [show ((pre.length + j : Nat) : Int).toNat = pre.length + j by omega]
      walk_at "aus"
      by_cases hjv : j < v
      · rw [runB_at hjv]
        refine iT (by decide) ?_
        walk_at "aus"
        exact ⟨v - (j + 1), _, by omega, fun _ hp => hp, j + 1, _, rfl, by omega, by rw [show ((pre.length + j : Nat) : Int) + 1 = ((pre.length + (j + 1) : Nat) : Int) by omega]; rfl, rfl⟩
      · have e : j = v := by omega
        subst e
        rw [runB_end]
        refine iF (by decide) ?_
        walk_at "aus"
        refine Wp.newTuple (by simp) fun a ha => ?_
        rw [show ((pre.length + j : Nat) : Int) - (pre.length : Int) = (j : Int) by omega, show ((pre.length + j : Nat) : Int) + 1 = ((pre.length + (runB j).length : Nat) : Int) by rw [runB_len]; omega]
        exact ⟨_, fun _ hp => hp, h a _ _ ha⟩
end
end

section
open PySem PySem.Spec PySem.Calls PyProof.Rows PySem.W

theorem mem_skip {x y : Addr × Obj} {n : Led} : ∀ p ∈ x :: n, p ∈ x :: y :: n := fun p hp => (List.mem_cons.mp hp).elim (fun e => e ▸ .head _) fun h => .tail _ (.tail _ h)

/-! a number's figures -/
def txt (v : Nat) : Str := Str.ofString (toString (v : Int))
def digs (v : Nat) : List UInt8 := (txt v).cps.toList.map (·.toUInt8)
def figB (v : Nat) : List UInt8 := digs v ++ [59]
theorem le13 {P : Nat → Prop} (h : P 0 ∧ P 1 ∧ P 2 ∧ P 3 ∧ P 4 ∧ P 5 ∧ P 6 ∧ P 7 ∧ P 8 ∧ P 9 ∧ P 10 ∧ P 11 ∧ P 12 ∧ P 13) : ∀ v, v ≤ 13 → P v := by
  obtain ⟨h0, h1, h2, h3, h4, h5, h6, h7, h8, h9, h10, h11, h12, h13⟩ := h
  intro v hv
  match v, hv with
  | 0, _ => exact h0
  | 1, _ => exact h1
  | 2, _ => exact h2
  | 3, _ => exact h3
  | 4, _ => exact h4
  | 5, _ => exact h5
  | 6, _ => exact h6
  | 7, _ => exact h7
  | 8, _ => exact h8
  | 9, _ => exact h9
  | 10, _ => exact h10
  | 11, _ => exact h11
  | 12, _ => exact h12
  | 13, _ => exact h13
  | n + 14, h => omega
theorem txt_ascii : ∀ v, v ≤ 13 → (txt v).cps.all (· < 128) = true := le13 (by decide +kernel)
theorem txt_sign : ∀ v, v ≤ 13 → ∀ c ∈ (txt v).cps.toList, 48 ≤ c ∧ c ≤ 57 := le13 (by decide +kernel)
theorem txt_len : ∀ v, v ≤ 13 → 1 ≤ (txt v).cps.size ∧ (txt v).cps.size ≤ 2 := le13 (by decide +kernel)
theorem digs_no : ∀ v, v ≤ 13 → ∀ c ∈ digs v, c ≠ 59 ∧ c ≠ 0 := le13 (by decide +kernel)
theorem digs_cons : ∀ v, v ≤ 13 → ∃ c cs, digs v = c :: cs := le13 (by refine ⟨?_, ?_, ?_, ?_, ?_, ?_, ?_, ?_, ?_, ?_, ?_, ?_, ?_, ?_⟩ <;> exact ⟨_, _, rfl⟩)
theorem digs_len (v : Nat) : (digs v).length = (txt v).cps.size := by simp [digs]
theorem enc_sign (c : Nat) (h : 48 ≤ c ∧ c ≤ 57) (t u : Tok) : Builtin.«str.encode» ⟨[.str ⟨#[c]⟩ t, .str (Str.ofString "ascii") u], []⟩ = (mkBytes [c.toUInt8].toArray >>= fun v => PySem.ret v) := by
  obtain ⟨h1, h2⟩ := h
  have : c = 48 ∨ c = 49 ∨ c = 50 ∨ c = 51 ∨ c = 52 ∨ c = 53 ∨ c = 54 ∨ c = 55 ∨ c = 56 ∨ c = 57 := by omega
  rcases this with rfl | rfl | rfl | rfl | rfl | rfl | rfl | rfl | rfl | rfl <;> kernel_rfl
theorem enc_txt (t u : Tok) : ∀ v, v ≤ 13 → Builtin.«str.encode» ⟨[.str (txt v) t, .str (Str.ofString "ascii") u], []⟩ = (mkBytes (digs v).toArray >>= fun v => PySem.ret v) :=
  le13 (by refine ⟨?_, ?_, ?_, ?_, ?_, ?_, ?_, ?_, ?_, ?_, ?_, ?_, ?_, ?_⟩ <;> kernel_rfl)
theorem dec_txt (id : String) : ∀ v, v ≤ 13 → Builtin._codecs.runDecoder id Builtin._codecs.asciiDecoder none true (digs v).toArray 0 [] = Pure.pure ((txt v).cps, (txt v).cps.size) :=
  le13 (by refine ⟨?_, ?_, ?_, ?_, ?_, ?_, ?_, ?_, ?_, ?_, ?_, ?_, ?_, ?_⟩ <;> kernel_rfl)
theorem log_small {v : Nat} (hv : v ≤ 13) : (v : Int).natAbs.log2 < 1920 := by
  rw [Int.natAbs_natCast]
  exact Nat.lt_of_le_of_lt (Nat.log2_le_self v) (by omega)
theorem figB_len (v : Nat) : (figB v).length = (txt v).cps.size + 1 := by simp [figB, digs_len]
theorem figB_at {pre post : List UInt8} {v j : Nat} (h : j < (digs v).length) : ∃ c ∈ digs v, (pre ++ (figB v ++ post)).getD (pre.length + j) 0 = c := by
  refine ⟨(digs v)[j], List.getElem_mem h, ?_⟩
  rw [List.getD_eq_getElem?_getD, List.getElem?_append_right (by omega), show pre.length + j - pre.length = j by omega, List.getElem?_append_left (by simp [figB]; omega), figB, List.getElem?_append_left h]
  simp [h]
theorem figB_end {pre post : List UInt8} {v : Nat} : (pre ++ (figB v ++ post)).getD (pre.length + (digs v).length) 0 = 59 := by
  rw [List.getD_eq_getElem?_getD, List.getElem?_append_right (by omega), show pre.length + (digs v).length - pre.length = (digs v).length by omega, List.getElem?_append_left (by simp [figB]), figB, List.getElem?_append_right (by simp)]
  simp
theorem cut_mid {pre mid post : List UInt8} : KBy.picked (pre ++ (mid ++ post)).toArray (some (pre.length : Int)) (some ((pre.length + mid.length : Nat) : Int)) = mid.toArray := by
  rw [KBc.picked_eq]
  simp only [Option.elim, List.size_toArray]
  rw [clipAt_nat, clipAt_nat, Nat.min_eq_left (by simp), Nat.min_eq_left (by simp only [List.length_append]; omega)]
  congr 1
  rw [List.drop_left, show pre.length + mid.length - pre.length = mid.length by omega, List.take_left]

section
variable {G : Gl} {f : Fk} {A : Around} {vs : Vals} {n : Led} {E : Value → Shared → Prop} {Q : Value → Vals → Led → Prop}
theorem size_figures (hG : Ok G) : SizeV G (.ref 280) figB (fun v => v ≤ 13) 1 where
  kp := fun n => .k hG (by rfl) ⟨_, _, _, _, rfl⟩
  run := fun f A vs n v t E Q rm hv h => by
    refine Wp.callK hG (ns := ["value"]) rm (by rfl) (by kernel_rfl) (fun s _ => BindsTo.of_eq (by rfl)) (by decide +kernel) (by rfl) (fun g L A' env he hlt rm' => ⟨[("value", .loc 0), ("len", .bui (.builtin "len")), ("str", .bui (.type "str"))], [some (.int v t)], n, ?_, ?_, fun r => ?_⟩)
    · subst he; walk_at "au_slots"
    · walk_at "au_pl"
    · walk_at "aus"
      refine ⟨.typ _, Wp.strI (log_small hv) fun _ => ?_⟩
      walk_at "aus"
      have hl := (txt_len v hv).2
      refine ⟨.bui _, Wp.lenS (x := txt v) (Nat.le_trans hl (by decide)) fun _ => ?_⟩
      walk_at "aus"
      refine ⟨n, fun _ hp => hp, ?_⟩
      have := h
      rw [figB_len] at this
      exact this _
theorem read_figures (hG : Ok G) : DecV G (.ref 287) [] figB id (fun v => v ≤ 13) 1 where
  kp := fun n _ => .k hG (by rfl) ⟨_, _, _, _, rfl⟩
  run := fun f A vs n pre post v t u E Q _ rm hv hz h => by
    refine Wp.callK hG (ns := ["buffer", "at", "first"]) rm (by rfl) (by kernel_rfl) (fun s _ => BindsTo.of_eq (by rfl)) (by decide +kernel) (by rfl) (fun g L A' env he hlt rm' => ⟨[("buffer", .loc 0), ("at", .loc 1), ("first", .loc 2), ("int", .bui (.type "int"))], [some (.bytes (pre ++ (figB v ++ post)).toArray t), some (.int pre.length u), none], n, ?_, ?_, fun r => ?_⟩)
    · subst he; walk_at "au_slots"
    · walk_at "au_pl"
    · walk_at "aus"
      refine Wp.conW (fun m vs' n' => ∃ (j : Nat) (t1 : Tok), m = (digs v).length - j ∧ j ≤ (digs v).length ∧ vs' = [some (.bytes (pre ++ (figB v ++ post)).toArray t), some (.int ((pre.length + j : Nat) : Int) t1), some (.int pre.length u)] ∧ n' = n) (digs v).length ⟨0, u, by omega, by omega, by simp, rfl⟩ ?_
      rintro m vs' n' ⟨j, t1, rfl, hj, rfl, rfl⟩
      have hl : (pre ++ (figB v ++ post)).length = pre.length + ((digs v).length + 1) + post.length := by rw [List.length_append, List.length_append, figB_len, digs_len]; omega
      walk_at "aus"
      refine Wp.itemB (by omega) (by omega) (by omega) fun _ => ?_
      rw [show ((pre.length + j : Nat) : Int).toNat = pre.length + j by omega]
      walk_at "aus"
      by_cases hjv : j < (digs v).length
      · obtain ⟨c, hc, e⟩ := figB_at (pre := pre) (post := post) hjv
        rw [e]
        have hne := (digs_no v hv c hc).1
        refine iT ?_ ?_
        · rw [bne_iff_ne]
          intro e2
          apply hne
          apply UInt8.toNat_inj.mp
          have : (59 : UInt8).toNat = 59 := rfl
          omega
        walk_at "aus"
        exact ⟨(digs v).length - (j + 1), _, by omega, fun _ hp => hp, j + 1, _, rfl, by omega, by rw [show ((pre.length + j : Nat) : Int) + 1 = ((pre.length + (j + 1) : Nat) : Int) by omega]; rfl, rfl⟩
      · have e : j = (digs v).length := by omega
        subst e
        rw [figB_end]
        refine iF (by decide) ?_
        walk_at "aus"
        intro a ha
        refine Wp.cutB (.head _) (.int _ _) (.int _ _) (by rw [List.size_toArray]; omega) fun tb => ?_
        rw [show figB v ++ post = digs v ++ (59 :: post) by simp [figB], cut_mid]
        refine Wp.gmBy FB.slot_bytes_decode FB.type_bytes_decode ?_
        walk_at "aus"
        refine ⟨.bui _, ?_⟩
        obtain ⟨c, cs, e⟩ := digs_cons v hv
        have hd := fun id => dec_txt id v hv
        rw [e] at hd ⊢
        refine Wp.dec (x := txt v) hd (Nat.le_trans (txt_len v hv).2 (by decide)) fun _ => ?_
        walk_at "aus"
        refine ⟨.typ _, ?_⟩
        refine Wp.intS (a := (v : Int)) (by omega) (by omega) fun _ => ?_
        walk_at "aus"
        refine Wp.newTuple (by simp) fun a2 ha2 => ?_
        have h' := fun t1 t2 => h a2 t1 t2 (fun p hp => ha2 p (.tail _ hp))
        simp only [figB_len, ← digs_len, e] at h'
        rw [show ((pre.length + (c :: cs).length : Nat) : Int) + 1 = ((pre.length + ((c :: cs).length + 1) : Nat) : Int) by omega]
        exact ⟨_, mem_skip, h' _ _⟩
theorem write_figures (hG : Ok G) : EncV G (.ref 273) figB (fun v => v ≤ 13) 1 where
  kp := fun n => .k hG (by rfl) ⟨_, _, _, _, rfl⟩
  run := fun wv P src kw W f A vs n bs ep v t det E Q hs hP rm hz hv h => by
    refine Wp.callK hG (ns := ["put", "value", "unused", "sign"]) (k := kw) (by rw [Nat.add_comm]; exact rm) (by rfl) (by kernel_rfl) (fun s _ => BindsTo.of_eq (by rfl)) (by decide +kernel) (by rfl) (fun g L A' env he hlt rm' => ⟨[("put", .loc 0), ("value", .loc 1), ("unused", .loc 2), ("sign", .loc 3), ("str", .bui (.type "str"))], [some wv, some (.int v t), some det, none], n, ?_, ?_, fun r => ?_⟩)
    · subst he; walk_at "au_slots"
    · walk_at "au_pl"
    · refine Wp.norm hP (Lst_tm _ _) ?_
      have hdl := txt_len v hv
      refine Wp.conF (fun i v' => ∃ c u, (txt v).cps[i]? = some c ∧ v' = .str ⟨#[c]⟩ u) (txt v).cps.size [] (fun i vs' n' => ∃ (bs' : List (List UInt8 × Tok)) (ep' : Nat) (o : Option Value), vs' = [some wv, some (.int v t), some det, o] ∧ n' = upd n P (Lst ((bs ++ bs').map byVal) ep') ∧ (bs'.map (·.1)).flatten = (digs v).take i ∧ bs'.length = i) ?_
      walk_at "aus"
      refine ⟨.typ _, Wp.strI (log_small hv) fun _ => ?_⟩
      refine ⟨itr_str (x := txt v) rm'.hh (txt_ascii v hv), ⟨[], ep, none, rfl, by simp, rfl, rfl⟩, ⟨fun _ _ _ _ p hp => (by cases hp), fun i vs' n' ⟨_, _, _, _, e, _⟩ => (by subst e; rw [show upd n P _ = upd (upd n P (Lst (bs.map byVal) ep)) P _ from (upd_upd ..).symm]; exact Sub.rfl'.upd)⟩, ?_, ?_⟩
      · rintro it o i v' vs' n' hit _ hi ⟨c, u, hc, rfl⟩ ⟨bs', ep', o', rfl, rfl, hfl, hln⟩
        walk_at "aus"
        refine Wp.gmStr PySem.F.slot_str_encode PySem.F.type_str_encode ?_
        walk_at "aus"
        have hcm : c ∈ (txt v).cps.toList := by
          obtain ⟨h1, h2⟩ := Array.getElem?_eq_some_iff.mp hc
          rw [← h2]; exact Array.getElem_mem_toList h1
        refine ⟨.bui _, Wp.enc (enc_sign c (txt_sign v hv c hcm) _ _) (by simp) fun tb => ?_⟩
        have hPu : (P, Lst ((bs ++ bs').map byVal) ep') ∈ upd n P (Lst ((bs ++ bs').map byVal) ep') := mem_upd_self hP
        have hs2 : ∀ p ∈ src, p ∈ (it, o) :: upd n P (Lst ((bs ++ bs').map byVal) ep') := fun p hp => .tail _ (W.src hs p hp)
        walk_at "aus"
        refine ⟨W.kp _ hs2, ?_⟩
        refine W.run _ _ _ _ (bs ++ bs') ep' [c.toUInt8] tb _ _ hs2 (.tail _ hPu) rm' (by simp; omega) ⟨rfl, ?_⟩
        walk_at "aus"
        have hPit : P ≠ it := Nat.ne_of_lt (hit (P, _) (mem_upd_self hP))
        rw [upd_cons_ne hPit.symm, upd_upd, List.append_assoc]
        refine ⟨_, fun p hp => hp, bs' ++ [([c.toUInt8], tb)], ep' + 1, _, rfl, rfl, ?_, by simp [hln]⟩
        rw [List.map_append, List.flatten_append, hfl, List.take_add_one]
        simp [digs, hc]
      · rintro vs' n' ⟨bs', ep', o', rfl, rfl, hfl, hln⟩
        walk_at "aus"
        have hPu : (P, Lst ((bs ++ bs').map byVal) ep') ∈ upd n P (Lst ((bs ++ bs').map byVal) ep') := mem_upd_self hP
        refine ⟨W.kp _ (W.src hs), ?_⟩
        refine W.run _ _ _ _ (bs ++ bs') ep' [59] _ _ _ (W.src hs) hPu rm' (by simp; omega) ⟨rfl, ?_⟩
        walk_at "aus"
        rw [upd_upd, List.append_assoc]
        refine ⟨_, fun _ hp => hp, h (bs' ++ [([59], _)]) _ ?_ (by simp; omega)⟩
        rw [List.map_append, List.flatten_append, hfl, ← digs_len, List.take_length]
        rfl
end
end

section
open PySem PySem.Spec PySem.Calls PyProof.Rows PySem.W

section
variable {G : Gl} {f : Fk} {A : Around} {vs : Vals} {n : Led} {E : Value → Shared → Prop} {Q : Value → Vals → Led → Prop}
theorem intsAre_snoc {ws : List Value} {ks : List Int} (h : IntsAre ws ks) (k : Int) (t : Tok) : IntsAre (ws ++ [.int k t]) (ks ++ [k]) := by
  induction h with
  | nil => exact .cons _ _ .nil
  | cons a b _ ih => exact .cons _ _ ih
theorem law_varint (hG : Ok G) (rm : Rm A 1) {x : Nat} {t : Tok} (hx : x < 2 ^ 60) (h : ∀ t, Q (.bytes (vint x).toArray t) vs n) : Wp G f A (PySem.call (.ref 231) [.int x t]) vs n Q E := by
  refine Wp.callK hG (ns := ["number", "row"]) rm (by rfl) (by kernel_rfl) (fun s _ => BindsTo.of_eq (by rfl)) (by decide +kernel) (by rfl) (fun g L A' env he hlt rm' => ⟨[("number", .loc 0), ("row", .loc 1), ("bytes", .bui (.type "bytes"))], [some (.int x t), none], n, ?_, ?_, fun r => ?_⟩)
  · subst he; walk_at "au_slots"
  · walk_at "au_pl"
  · walk_at "aus"
    refine Wp.newList (by simp) fun P hP => ?_
    walk_at "aus"
    refine Wp.conW (fun m vs' n' => ∃ (y : Nat) (t1 : Tok) (ws : List Value) (ks : List Int) (ep : Nat), m = y ∧ vs' = [some (.int y t1), some (.ref P)] ∧ n' = (P, Lst ws ep) :: n ∧ IntsAre ws ks ∧ (∀ k ∈ ks, 0 ≤ k ∧ k < 256) ∧ ks.map (fun k => k.toNat.toUInt8) ++ vint y = vint x ∧ ws.length + (vint y).length = (vint x).length ∧ y < 2 ^ 60) x
      ⟨x, t, [], [], 0, rfl, rfl, rfl, .nil, (fun k hk => by cases hk), rfl, by simp, hx⟩ ?_
    rintro m vs' n' ⟨y, t1, ws, ks, ep, rfl, rfl, rfl, hi, hk, hfl, hln, hy⟩
    have hlen := vint_len_le x hx
    have hself : ∀ o : Obj, upd ((P, Lst ws ep) :: n) P o = (P, o) :: n := fun o => by rw [upd_cons, upd_id fun p hp => Nat.ne_of_lt (hP p hp)]
    walk_at "aus"
    refine iB (fun c1 => ?_) (fun c1 => ?_)
    · walk_at "aus"
      refine Wp.gm (.head _) PySem.F.plainAttrs_list slot_list_append type_list_append ?_
      walk_at "aus"
      refine Wp.mod (by decide) fun _ => ?_
      walk_at "aus"
      refine ⟨.bui _, Wp.append (.head _) (by omega) ⟨rfl, ?_⟩⟩
      rw [hself, show ((m : Int) % 128 + 128) = ((m % 128 + 128 : Nat) : Int) by omega]
      walk_at "aus"
      refine Wp.fdv (by decide) (PyProof.noPylong_small (by omega)) fun _ => ?_
      rw [show ((m : Int) / 128) = ((m / 128 : Nat) : Int) by omega]
      walk_at "aus"
      have hv := vint_ge (n := m) (by omega)
      rw [hv] at hfl hln
      refine ⟨m / 128, _, by omega, fun _ hp => hp, m / 128, _, _, ks ++ [((m % 128 + 128 : Nat) : Int)], _, rfl, rfl, rfl, intsAre_snoc hi _ _, ?_, ?_, ?_, by omega⟩
      · intro k hk'
        rcases List.mem_append.mp hk' with hk' | hk'
        · exact hk k hk'
        · rw [List.mem_singleton.mp hk']; omega
      · rw [← hfl, List.map_append, List.append_assoc]; rfl
      · rw [← hln]; simp; omega
    · walk_at "aus"
      refine Wp.gm (.head _) PySem.F.plainAttrs_list slot_list_append type_list_append ?_
      walk_at "aus"
      refine ⟨.bui _, Wp.append (.head _) (by omega) ⟨rfl, ?_⟩⟩
      rw [hself]
      walk_at "aus"
      refine ⟨.typ _, ?_⟩
      refine Wp.mkB (ks := ks ++ [(m : Int)]) rm'.hh (.head _) (intsAre_snoc hi _ _) ?_ (by simp; omega) fun tb => ?_
      · intro k hk'
        rcases List.mem_append.mp hk' with hk' | hk'
        · exact hk k hk'
        · rw [List.mem_singleton.mp hk']; omega
      · have e : byteArr (ks ++ [(m : Int)]) = (vint x).toArray := by
          rw [← hfl, vint_lt (by omega)]; simp [byteArr]
        rw [e]
        exact ⟨n, fun p hp => .tail _ hp, h _⟩
/-- what a value's octets are, in a code -/
def octs (code v : Nat) : List UInt8 := if code = 1 then figB v else if code = 0 then runB v else runB (2 * v)
theorem law_octets (hG : Ok G) (rm : Rm A 1) {code v : Nat} {t u : Tok} (hc : code ≤ 2) (hv : v ≤ 13) (h : ∀ t, Q (.bytes (octs code v).toArray t) vs n) : Wp G f A (PySem.call (.ref 308) [.int code t, .int v u]) vs n Q E := by
  refine Wp.callK hG (ns := ["code", "value"]) rm (by rfl) (by kernel_rfl) (fun s _ => BindsTo.of_eq (by rfl)) (by decide +kernel) (by rfl) (fun g L A' env he hlt rm' => ⟨[("code", .loc 0), ("value", .loc 1), ("str", .bui (.type "str"))], [some (.int code t), some (.int v u)], n, ?_, ?_, fun r => ?_⟩)
  · subst he; walk_at "au_slots"
  · walk_at "au_pl"
  · walk_at "aus"
    by_cases h1 : code = 1
    · subst h1
      refine iT (by decide) ?_
      walk_at "aus"
      refine ⟨.typ _, Wp.strI (log_small hv) fun _ => ?_⟩
      refine Wp.gmStr PySem.F.slot_str_encode PySem.F.type_str_encode ?_
      walk_at "aus"
      refine ⟨.bui _, Wp.enc (enc_txt _ _ v hv) (by have := (txt_len v hv).2; rw [List.size_toArray, digs_len]; omega) fun tb => ?_⟩
      walk_at "aus"
      refine Wp.addB (by have := (txt_len v hv).2; rw [List.size_toArray, digs_len, List.size_toArray]; show (txt v).cps.size + 1 ≤ _; omega) fun tb => ?_
      rw [List.append_toArray]
      exact ⟨n, fun _ hp => hp, h _⟩
    · refine iF (by simp; omega) ?_
      walk_at "aus"
      by_cases h0 : code = 0
      · subst h0
        refine iT (by decide) ?_
        walk_at "aus"
        refine Wp.mulB (by simp) (by omega) (by omega) (by simp) fun _ => ?_
        walk_at "aus"
        refine Wp.addB (by simp; omega) fun tb => ?_
        rw [sevens, List.append_toArray]
        exact ⟨n, fun _ hp => hp, h _⟩
      · have : code = 2 := by omega
        subst this
        refine iF (by decide) ?_
        walk_at "aus"
        refine Wp.mul (IntMulOk.of_left (by decide)) fun _ => ?_
        refine Wp.mulB (by simp) (by omega) (by omega) (by simp) fun _ => ?_
        walk_at "aus"
        refine Wp.addB (by simp; omega) fun tb => ?_
        rw [show (2 * (v : Int)) = ((2 * v : Nat) : Int) by omega, sevens, List.append_toArray]
        exact ⟨n, fun _ hp => hp, h _⟩
end
end

section
open PySem PySem.Spec PySem.Calls PyProof.Rows PySem.W

section
variable {G : Gl} {f : Fk} {A : Around} {vs : Vals} {n : Led} {E : Value → Shared → Prop} {env : Env} {rest : List Stmt} {Q : Flow → Vals → Led → Prop}
theorem Wp.conS {o i value : Expr} {p pos : Pos} (h : Wp G f A (eval value env) vs n (fun v vs1 n1 => Wp G f A (eval o env) vs1 n1 (fun ov vs2 n2 => Wp G f A (eval i env) vs2 n2 (fun iv vs3 n3 => Wp G f A (setItem ov iv v) vs3 n3 (fun _ vs4 n4 => Wp G f A (execs rest env) vs4 n4 Q E) E) E) E) E)
    (hs : swapsWith value (some (.Subscript o i p)) pos.line env = Pure.pure false := by rfl) : Wp G f A (execs (.Assign [.Subscript o i p] value pos :: rest) env) vs n Q E := by
  refine Wp.cons ⟨fun s S => wpAny_Assign_Subscript (wpAny_mono (h.run s S) (fun v s1 ⟨_, _, S1, q1⟩ => wpAny_mono (q1.run s1 S1) (fun ov s2 ⟨_, _, S2, q2⟩ => wpAny_mono (q2.run s2 S2) (fun iv s3 ⟨_, _, S3, q3⟩ => ?_) fun _ _ x => x) fun _ _ x => x) fun _ _ x => x) hs⟩
  exact wpAny_mono (q3.run s3 S3) (fun _ s4 ⟨_, _, S4, q4⟩ => ⟨_, _, S4, q4⟩) fun _ _ x => x
end

/-- the draw's two lists, as they stand -/
def DrawL (n : Led) (D R : Addr) (ws : List Value) (seed : Int) (t : Tok) (e1 e2 : Nat) : Led := upd (upd n R (Lst ws e2)) D (Lst [.ref R, .int seed t] e1)
theorem upd_comm {n : Led} {a b : Addr} {o p : Obj} (h : a ≠ b) : upd (upd n a o) b p = upd (upd n b p) a o := by
  unfold upd
  rw [List.map_map, List.map_map]
  refine List.map_congr_left fun q _ => ?_
  simp only [Function.comp]
  by_cases h1 : q.1 = a
  · have h2 : q.1 ≠ b := fun e => h (h1.symm.trans e)
    simp [h1, h]
  · by_cases h2 : q.1 = b
    · simp [h1, h2, h.symm]
    · simp [h1, h2]
theorem drawL_set {n : Led} {D R : Addr} (h : D ≠ R) {ws ws' : List Value} {seed seed' : Int} {t t' : Tok} {e1 e2 e1' e2' : Nat} :
    DrawL (DrawL n D R ws seed t e1 e2) D R ws' seed' t' e1' e2' = DrawL n D R ws' seed' t' e1' e2' := by
  unfold DrawL
  rw [upd_comm (n := upd n R (Lst ws e2)) h, upd_upd, upd_upd]
theorem drawL_cons {n : Led} {D R : Addr} {p : Addr × Obj} (h1 : p.1 ≠ D) (h2 : p.1 ≠ R) {ws : List Value} {seed : Int} {t : Tok} {e1 e2 : Nat} : DrawL (p :: n) D R ws seed t e1 e2 = p :: DrawL n D R ws seed t e1 e2 := by
  obtain ⟨a, o⟩ := p
  unfold DrawL
  rw [upd_cons_ne h2, upd_cons_ne h1]

section
variable {G : Gl} {f : Fk} {A : Around} {vs : Vals} {n : Led} {E : Value → Shared → Prop} {Q : Value → Vals → Led → Prop}
theorem law_take (hG : Ok G) (rm : Rm A 1) {D R : Addr} (hDR : D ≠ R) {ws : List Value} {ks : List Int} {seed : Int} {t u : Tok} {e1 e2 : Nat} {many : Int} (hD : (D, Lst [.ref R, .int seed t] e1) ∈ n) (hR : (R, Lst ws e2) ∈ n) (hi : IntsAre ws ks) (hl : ws.length ≤ 100) (hm : 0 < many)
    (h : ∀ r t ws' ks' seed' t' e1' e2', 0 ≤ r → r < many → IntsAre ws' ks' → ws'.length ≤ ws.length → Q (.int r t) vs (DrawL n D R ws' seed' t' e1' e2')) : Wp G f A (PySem.call (.ref 224) [.ref D, .int many u]) vs n Q E := by
  refine Wp.callK hG (ns := ["draw", "many", "found"]) rm (by rfl) (by kernel_rfl) (fun s _ => BindsTo.of_eq (by rfl)) (by decide +kernel) (by rfl) (fun g L A' env he hlt rm' => ⟨[("draw", .loc 0), ("many", .loc 1), ("found", .loc 2)], [some (.ref D), some (.int many u), none], n, ?_, ?_, fun r => ?_⟩)
  · subst he; walk_at "au_slots"
  · walk_at "au_pl"
  · have hu : A'.units + 64 < cLine := by have := rm'.u; show _ < 9900; omega
    refine Wp.norm hR (Lst_tm _ _) ?_
    refine Wp.norm (mem_upd_ne hD hDR) (Lst_tm _ _) ?_
    show Wp _ _ _ _ _ (DrawL n D R ws seed t e1 e2) _ _
    have memD : ∀ ws seed t e1 e2, (D, Lst [.ref R, .int seed t] e1) ∈ DrawL n D R ws seed t e1 e2 := fun _ _ _ _ _ => mem_upd_self (mem_upd_ne hD hDR)
    have memR : ∀ ws seed t e1 e2, (R, Lst ws e2) ∈ DrawL n D R ws seed t e1 e2 := fun _ _ _ _ _ => mem_upd_ne (mem_upd_self hR) hDR.symm
    walk_at "aus"
    refine Wp.itemL (memD _ _ _ _ _) (by decide) (by decide) rfl ?_
    walk_at "aus"
    refine Wp.newList (by simp) fun a ha => ?_
    refine Wp.neL hu (.tail _ (memR _ _ _ _ _)) (.head _) hi .nil ?_
    walk_at "aus"
    cases hi with
    | nil =>
      refine iF (by simp) ?_
      refine Wp.conS ?_
      walk_at "aus"
      refine Wp.itemL (.tail _ (memD _ _ _ _ _)) (by decide) (by decide) rfl ?_
      walk_at "aus"
      refine Wp.mul (IntMulOk.of_right (by decide)) fun _ => ?_
      walk_at "aus"
      refine Wp.mod (by decide) fun _ => ?_
      walk_at "aus"
      refine Wp.setL (.tail _ (memD _ _ _ _ _)) (by decide) (by simp) (by simp) ?_
      have hDa : a ≠ D := Nat.ne_of_gt (ha (D, _) (memD _ _ _ _ _))
      have hRa : a ≠ R := Nat.ne_of_gt (ha (R, _) (memR _ _ _ _ _))
      rw [upd_cons_ne hDa]
      unfold DrawL
      rw [upd_upd]
      show Wp _ _ _ _ _ ((a, Lst []) :: DrawL n D R [] (seed * 48271 % 2147483647) _ e1 e2) _ _
      walk_at "aus"
      refine Wp.itemL (.tail _ (memD _ _ _ _ _)) (by decide) (by decide) rfl ?_
      walk_at "aus"
      refine Wp.fdv (by decide) (PyProof.noPylong_small (by omega)) fun _ => ?_
      walk_at "aus"
      refine Wp.mod hm fun _ => ?_
      exact ⟨_, fun p hp => .tail _ hp, h _ _ [] [] _ _ _ _ (Int.emod_nonneg _ (by omega)) (Int.emod_lt_of_pos _ hm) .nil (Nat.zero_le _)⟩
    | cons k t2 r2 =>
      refine iT (by simp) ?_
      walk_at "aus"
      refine Wp.itemL (.tail _ (memD _ _ _ _ _)) (by decide) (by decide) rfl ?_
      refine Wp.gm (.tail _ (memR _ _ _ _ _)) PySem.F.plainAttrs_list PySem.F.slot_list_pop PySem.F.type_list_pop ?_
      walk_at "aus"
      refine ⟨.bui _, Wp.pop0 (.tail _ (memR _ _ _ _ _)) (Nat.le_trans hl (by decide)) ?_⟩
      have hDa : a ≠ D := Nat.ne_of_gt (ha (D, _) (memD _ _ _ _ _))
      have hRa : a ≠ R := Nat.ne_of_gt (ha (R, _) (memR _ _ _ _ _))
      rw [upd_cons_ne hRa]
      unfold DrawL
      rw [upd_comm hDR, upd_upd]
      walk_at "aus"
      refine Wp.mod hm fun _ => ?_
      exact ⟨_, fun p hp => .tail _ hp, h _ _ _ _ seed t e1 _ (Int.emod_nonneg _ (by omega)) (Int.emod_lt_of_pos _ hm) r2 (by simp)⟩
theorem law_number (hG : Ok G) (rm : Rm A 2) {D R : Addr} (hDR : D ≠ R) {ws : List Value} {ks : List Int} {seed : Int} {t : Tok} {e1 e2 : Nat} (hD : (D, Lst [.ref R, .int seed t] e1) ∈ n) (hR : (R, Lst ws e2) ∈ n) (hi : IntsAre ws ks) (hl : ws.length ≤ 100)
    (h : ∀ (num : Nat) t ws' ks' seed' t' e1' e2', 1 ≤ num → num ≤ 536870911 → IntsAre ws' ks' → ws'.length ≤ ws.length → Q (.int num t) vs (DrawL n D R ws' seed' t' e1' e2')) : Wp G f A (PySem.call (.ref 238) [.ref D]) vs n Q E := by
  refine Wp.callK hG (ns := ["draw"]) rm (by rfl) (by kernel_rfl) (fun s _ => BindsTo.of_eq (by rfl)) (by decide +kernel) (by rfl) (fun g L A' env he hlt rm' => ⟨[("draw", .loc 0), ("_law_take", .glo (.ref 224))], [some (.ref D)], n, ?_, ?_, fun r => ?_⟩)
  · subst he; walk_at "au_slots"
  · walk_at "au_pl"
  · have k1 : ∀ n, KP G n (.ref 224) := fun _ => .k hG (by rfl) ⟨_, _, _, _, rfl⟩
    walk_at "aus"
    refine Wp.newList (by simp) fun a ha => ?_
    have hDa : a ≠ D := Nat.ne_of_gt (ha (D, _) hD)
    have hRa : a ≠ R := Nat.ne_of_gt (ha (R, _) hR)
    walk_at "aus"
    refine ⟨k1 _, ?_⟩
    refine law_take hG rm' hDR (.tail _ hD) (.tail _ hR) hi hl (by decide) fun q t1 ws1 ks1 seed1 t2 e3 e4 hq0 hq1 hi1 hl1 => ?_
    rw [drawL_cons hDa hRa]
    generalize hit : ([_, _, _, _, _] : List Value) = items
    obtain ⟨m, tm, hm1, hm2, hm3⟩ : ∃ m tm, items[q.toNat]? = some (.int m tm) ∧ 0 < m ∧ m ≤ 536870911 := by
      have : q = 0 ∨ q = 1 ∨ q = 2 ∨ q = 3 ∨ q = 4 := by omega
      subst hit
      rcases this with rfl | rfl | rfl | rfl | rfl <;> exact ⟨_, _, rfl, by decide, by decide⟩
    refine Wp.itemL (.head _) hq0 (by omega) hm1 ?_
    walk_at "aus"
    refine ⟨k1 _, ?_⟩
    refine law_take hG rm' hDR (.tail _ (mem_upd_self (mem_upd_ne hD hDR))) (.tail _ (mem_upd_ne (mem_upd_self hR) hDR.symm)) hi1 (by omega) hm2 fun q2 t3 ws2 ks2 seed2 t4 e5 e6 hq2 hq3 hi2 hl2 => ?_
    rw [drawL_cons hDa hRa, drawL_set hDR]
    walk_at "aus"
    have h' := h (q2 + 1).toNat
    rw [show (((q2 + 1).toNat : Nat) : Int) = 1 + q2 by omega] at h'
    exact ⟨_, fun p hp => .tail _ hp, h' _ _ _ _ _ _ _ (by omega) (by omega) hi2 (by omega)⟩
theorem ints_at {items : List Value} {ks : List Int} (hi : IntsAre items ks) : ∀ (i : Nat) (v : Value), items[i]? = some v → ∃ k t, v = Value.int k t := fun i v hv => by
  obtain ⟨hlt, _⟩ := List.getElem?_eq_some_iff.mp hv
  have hlk : i < ks.length := hi.length ▸ hlt
  obtain ⟨t, e⟩ := hi.get i ks[i] (by simp [hlk])
  rw [e] at hv
  exact ⟨_, _, (Option.some.inj hv).symm⟩
theorem law_draw (hG : Ok G) (rm : Rm A 1) {l : Addr} {lo : Obj} {items : List Value} {ks : List Int} {ep : Nat} (hm : (l, lo) ∈ n) (hlc : lo.cls = .type "list") (hld : lo.data = .seq items.toArray ep) (hi : IntsAre items ks) (hl : items.length ≤ 63)
    (h : ∀ D R ws ks' seed t, D ≠ R → (∀ p ∈ n, p.1 < D ∧ p.1 < R) → IntsAre ws ks' → ws.length ≤ 63 → Q (.ref D) vs ((D, Lst [.ref R, .int seed t]) :: (R, Lst ws) :: n)) : Wp G f A (PySem.call (.ref 217) [.ref l]) vs n Q E := by
  refine Wp.callK hG (ns := ["script", "seed", "cell"]) rm (by rfl) (by kernel_rfl) (fun s _ => BindsTo.of_eq (by rfl)) (by decide +kernel) (by rfl) (fun g L A' env he hlt rm' => ⟨[("script", .loc 0), ("seed", .loc 1), ("cell", .loc 2), ("abs", .bui (.builtin "abs"))], [some (.ref l), none, none], n, ?_, ?_, fun r => ?_⟩)
  · subst he; walk_at "au_slots"
  · walk_at "au_pl"
  · walk_at "aus"
    have hget := ints_at hi
    refine Wp.conF (fun i v => items[i]? = some v) items.length [(l, lo)] (fun i vs' n' => ∃ (seed : Int) (t : Tok) (o : Option Value), vs' = [some (.ref l), some (.int seed t), o] ∧ n' = n) ?_
    walk_at "aus"
    refine ⟨itr_listO rm'.hh hm hlc hld, ⟨7, _, none, rfl, rfl⟩, ⟨fun i vs' n' ⟨_, _, _, _, e⟩ p hp => (by subst e; rw [List.mem_singleton.mp hp]; exact hm), fun i vs' n' ⟨_, _, _, _, e⟩ => (by subst e; exact Sub.rfl')⟩, ?_, ?_⟩
    · rintro it o i v vs' n' hit _ hi2 hv ⟨seed, t, o', rfl, rfl⟩
      obtain ⟨k, tk, rfl⟩ := hget i v hv
      walk_at "aus"
      refine Wp.mul (IntMulOk.of_right (by decide)) fun _ => ?_
      walk_at "aus"
      refine ⟨.bui _, Wp.abs fun _ => ?_⟩
      walk_at "aus"
      refine Wp.mod (by decide) fun _ => ?_
      walk_at "aus"
      refine Wp.mod (by decide) fun _ => ?_
      walk_at "aus"
      exact ⟨_, fun p hp => hp, _, _, _, rfl, rfl⟩
    · rintro vs' n' ⟨seed, t, o', rfl, rfl⟩
      walk_at "aus"
      refine Wp.comp (cl := []) (fun i v => items[i]? = some v) items.length [(l, lo)] ["cell"] (fun C i ws vs1 n1 => (∃ o, vs1 = [o]) ∧ n1 = n' ∧ ∃ ks', IntsAre ws ks' ∧ ws.length = i) (by subst he; rfl) (by rfl) (by decide +kernel) (by omega) ?_
      walk_at "aus"
      refine ⟨itr_listO rm'.hh hm hlc hld, ⟨fun C i ws vs1 n1 ⟨_, e, _⟩ p hp => (by subst e; rw [List.mem_singleton.mp hp]; exact hm), fun C i ws vs1 n1 ⟨_, e, _⟩ => (by subst e; exact Sub.rfl'), ?_⟩, ?_, ?_⟩
      · rintro g2 C D it o i v ws vs1 n1 hit hid hdc hi2 hv ⟨⟨o1, rfl⟩, rfl, ks', hk, hwl⟩ hne
        obtain ⟨k, tk, rfl⟩ := hget i v hv
        generalize hce : cEnv _ _ C env = ce
        have rc : Res G ⟨g2, C, ["cell"]⟩ ce [("cell", .loc 0), ("abs", .bui (.builtin "abs"))] := by
          subst hce he
          refine ⟨by rfl, rfl, rfl, rfl, (by decide +kernel : (["cell"] : List Str).Nodup), ?_⟩
          rw [hG.K]
          exact SlotsOk.all (R := [("cell", .loc 0), ("abs", .bui (.builtin "abs"))]) (by walk_at "au_slots")
        walk_at "aus"
        refine ⟨.bui _, Wp.abs fun ta => ?_⟩
        exact ⟨n1, fun p hp => hp, ⟨_, rfl⟩, rfl, _, intsAre_snoc hk _ _, by simp [hwl]⟩
      · intro C hC
        exact ⟨⟨none, rfl⟩, rfl, [], .nil, rfl⟩
      · rintro D C ws vs1 n1 hD ⟨_, rfl, ks', hk, _⟩ hwl
        refine ⟨_, fun p hp => hp, ?_⟩
        walk_at "aus"
        intro sl hsl
        refine Wp.cutL (lo := none) (hi := some 60) (.tail _ (.head _)) (.head _) .none (.int _ _) (by omega) fun R hR => ?_
        walk_at "aus"
        refine Wp.newList (by simp) fun D2 hD2 => ?_
        obtain ⟨ks2, hk2⟩ : ∃ ks2, IntsAre (slicePick ws.toArray none (some 60) none).toList ks2 := ⟨_, kmk_upto hk (by decide)⟩
        have hlen : (slicePick ws.toArray none (some 60) none).toList.length ≤ 63 := by
          have := slicePick_size_le ws.toArray none (some 60) none
          have e1 : (slicePick ws.toArray none (some 60) none).toList.length = (slicePick ws.toArray none (some 60) none).size := Array.length_toList
          have e2 : ws.toArray.size = ws.length := List.size_toArray ..
          omega
        have h' := h D2 R _ ks2 seed t (Nat.ne_of_gt (hD2 (R, _) (.head _))) (fun p hp => ⟨hD2 p (.tail _ (.tail _ (.tail _ hp))), hR p (.tail _ (.tail _ hp))⟩) hk2 hlen
        refine ⟨_, fun p hp => ?_, h'⟩
        rcases List.mem_cons.mp hp with e | hp
        · rw [e]; exact .head _
        · rcases List.mem_cons.mp hp with e | hp
          · rw [e]; exact .tail _ (.head _)
          · exact .tail _ (.tail _ (.tail _ (.tail _ hp)))
end
end

section
open PySem PySem.Spec PySem.Calls PyProof.Rows PySem.W

theorem or_low' {a b i : Nat} (hb : b < 2 ^ i) : Builtin.bitOr (b : Nat) ((a * 2 ^ i : Nat) : Int) = ((a * 2 ^ i + b : Nat) : Int) := by
  rw [← or_low hb, bitOr_and, bitOr_and, bitAnd_comm]; omega
theorem and128 : ∀ b : Nat, b < 128 → Builtin.bitAnd (b : Int) 128 = 0 ∧ Builtin.bitAnd ((b + 128 : Nat) : Int) 128 = 128 := by decide +kernel
theorem and_mask {x : Nat} (hx : x < 2 ^ 60) : Builtin.bitAnd (x : Int) 18446744073709551615 = (x : Int) := by
  rw [bitAnd_pp (by omega) (by decide)]
  have h : x &&& (2 ^ 64 - 1) = x % 2 ^ 64 := Nat.and_two_pow_sub_one_eq_mod x 64
  have e : (18446744073709551615 : Int).toNat = 2 ^ 64 - 1 := by decide
  rw [Int.toNat_natCast, e, h, Nat.mod_eq_of_lt (by omega)]
/-- the first octet of a number's figures -/
theorem vint_head (y : Nat) : ∃ r, vint y = (if y < 128 then y.toUInt8 else (y % 128 + 128).toUInt8) :: r ∧ (128 ≤ y → r = vint (y / 128)) ∧ (y < 128 → r = []) := by
  by_cases h : y < 128
  · exact ⟨[], by rw [vint_lt h, if_pos h], fun h2 => by omega, fun _ => rfl⟩
  · exact ⟨vint (y / 128), by rw [vint_ge h, if_neg h], fun _ => rfl, fun h2 => absurd h2 h⟩

def dDV : Stmt := sAt (dBody (sAt pTop 26)) 0
section
variable {G : Gl} {f : Fk} {A : Around} {vs : Vals} {n : Led} {E : Value → Shared → Prop} {Q : Value → Vals → Led → Prop}
theorem varintDecoder (hG : Ok G) (rm : Rm A 1) {m : Int} {t : Tok} (h : ∀ fa c o, CloD dDV "_VarintDecoder.<locals>.DecodeVarint" [("mask", c)] .none o → (∀ p ∈ n, p.1 < c) → c < fa → Q (.ref fa) vs ((fa, o) :: (c, cellObj (some (.int m t))) :: n)) :
    Wp G f A (PySem.call (.ref 184) [.int m t]) vs n Q E := by
  refine Wp.callK hG (ns := ["DecodeVarint"]) rm (by rfl) (by kernel_rfl) (fun s _ => BindsTo.of_eq (by rfl)) (by decide +kernel) (by rfl) (fun g L A' env he hlt rm' => ⟨[("mask", .cel (L + 1)), ("DecodeVarint", .loc 0)], [none], upd ((L + 1, cellObj none) :: n) (L + 1) (cellObj (some (.int m t))), ?_, ?_, fun r => ?_⟩)
  · subst he; walk_at "au_slots"
  · exact .cel (by subst he; kernel_rfl) (by walk_at "au_m") (.head _) .nil
  · rw [upd_cons, upd_id fun p hp => Nat.ne_of_lt (Nat.lt_succ_of_lt (hlt p hp))]
    refine Wp.cons (Wp.fdef0 (clos := [("mask", L + 1)]) (by subst he; rfl) (by subst he; rfl) (by subst he; rfl) (.inl (by rw [hG.codes]; simp)) (by subst he; rfl) (by rw [hG.q]; rfl) rfl rfl (by rfl) fun fa o hc hl => ?_)
    walk_at "aus"
    exact ⟨_, fun p hp => hp, h fa (L + 1) o hc (fun p hp => Nat.lt_succ_of_lt (hlt p hp)) (hl (L + 1, _) (.head _))⟩
theorem readVarint (hG : Ok G) (rm : Rm A 1) {fa c : Addr} {o : Obj} {tm : Tok} (hc : CloD dDV "_VarintDecoder.<locals>.DecodeVarint" [("mask", c)] .none o) (h1 : (fa, o) ∈ n) (h2 : (c, cellObj (some (.int 18446744073709551615 tm))) ∈ n) {x : Nat} (hx : x < 2 ^ 56) {pre post : List UInt8} {t u : Tok} (hz : (pre ++ (vint x ++ post)).length ≤ 100000)
    (h : ∀ a t1 t2, (∀ p ∈ n, p.1 < a) → Q (.ref a) vs ((a, Tup [.int x t1, .int ((pre.length + (vint x).length : Nat) : Int) t2]) :: n)) :
    Wp G f A (PySem.call (.ref fa) [.bytes (pre ++ (vint x ++ post)).toArray t, .int pre.length u]) vs n Q E := by
  refine Wp.callN (ns := ["buffer", "pos", "result", "shift", "b"]) h1 hc rm (binds := [("buffer", .bytes (pre ++ (vint x ++ post)).toArray t), ("pos", .int pre.length u)]) (fun s _ _ _ _ _ => BindsTo.of_eq (by kernel_rfl)) (by decide +kernel) (by rfl) (fun g2 L2 A2 env2 c2 he2 hin hlt2 rm2 => ⟨[("buffer", .loc 0), ("pos", .loc 1), ("result", .loc 2), ("shift", .loc 3), ("b", .loc 4), ("mask", .cel c), ("DecodeError", .glo (.ref 37))], [some (.bytes (pre ++ (vint x ++ post)).toArray t), some (.int pre.length u), none, none, none], n, ?_, ?_, fun r2 => ?_⟩)
  · rw [hG.K]; subst he2; walk_at "au_slots"
  · walk_at "au_pl"
  · refine Wp.conA ?_
    walk_at "aus"
    refine Wp.conW (fun m vs' n' => ∃ (i y : Nat) (bs0 : List UInt8) (tp tr ts : Tok) (ob : Option Value), m = 10 - i ∧ i ≤ 8 ∧ y = x / 128 ^ i ∧ (i = 0 ∨ 0 < y) ∧ vint x = bs0 ++ vint y ∧ bs0.length = i ∧
      vs' = [some (.bytes (pre ++ (vint x ++ post)).toArray t), some (.int ((pre.length + i : Nat) : Int) tp), some (.int ((x % 128 ^ i : Nat) : Int) tr), some (.int ((7 * i : Nat) : Int) ts), ob] ∧ n' = n) 10
      ⟨0, x, [], _, _, _, none, rfl, by omega, by simp, .inl rfl, rfl, rfl, by rw [Nat.pow_zero, Nat.mod_one]; rfl, rfl⟩ ?_
    rintro m vs' n' ⟨i, y, bs0, tp, tr, ts, ob, rfl, hi, hy, hy0, hv, hln, rfl, rfl⟩
    obtain ⟨rr, hhead, hbig, hsmall⟩ := vint_head y
    have hlen : (vint x).length = i + (rr.length + 1) := by rw [hv, hhead]; simp [hln]
    have hget : (pre ++ (vint x ++ post)).getD (pre.length + i) 0 = (if y < 128 then y.toUInt8 else (y % 128 + 128).toUInt8) := by
      rw [List.getD_eq_getElem?_getD, List.getElem?_append_right (by omega), show pre.length + i - pre.length = i by omega, hv, List.append_assoc, List.getElem?_append_right (by omega), hln, Nat.sub_self, hhead]
      rfl
    have hbv : (if y < 128 then y.toUInt8 else (y % 128 + 128).toUInt8 : UInt8).toNat = if y < 128 then y else y % 128 + 128 := by
      split <;> simp <;> omega
    walk_at "aus"
    refine iT (by decide) ?_
    walk_at "aus"
    refine Wp.itemB (by omega) (by omega) (by simp at hz ⊢; omega) fun tb => ?_
    rw [show ((pre.length + i : Nat) : Int).toNat = pre.length + i by omega, hget, hbv]
    walk_at "aus"
    have e127 : Builtin.bitAnd ((if y < 128 then y else y % 128 + 128 : Nat) : Int) 127 = ((y % 128 : Nat) : Int) := by
      rw [bitAnd_m7]; split <;> omega
    rw [e127]
    refine Wp.shl (by omega) (by omega) (by omega) fun tsh => ?_
    walk_at "aus"
    have eor : Builtin.bitOr ((x % 128 ^ i : Nat) : Int) (((y % 128 : Nat) : Int) * 2 ^ ((7 * i : Nat) : Int).toNat) = ((x % 128 ^ (i + 1) : Nat) : Int) := by
      have hp : (128 : Nat) ^ i = 2 ^ (7 * i) := by rw [Nat.pow_mul]
      have hlt : x % 128 ^ i < 2 ^ (7 * i) := by rw [← hp]; exact Nat.mod_lt _ (Nat.pow_pos (by decide))
      have := or_low' (a := y % 128) hlt
      rw [Int.toNat_natCast]
      rw [show (((y % 128 : Nat) : Int) * 2 ^ (7 * i)) = ((y % 128 * 2 ^ (7 * i) : Nat) : Int) by push_cast; rfl, this]
      rw [Nat.pow_succ, Nat.mod_mul, ← hy, ← hp, Nat.mul_comm (y % 128)]
      congr 1; omega
    rw [eor]
    walk_at "aus"
    by_cases hs : y < 128
    · rw [if_pos hs]
      refine iT (by rw [(and128 y hs).1]; rfl) ?_
      have hrr := hsmall hs
      subst hrr
      have hxm : x % 128 ^ (i + 1) = x := by
        refine Nat.mod_eq_of_lt ?_
        rw [Nat.pow_succ]
        have := Nat.div_lt_iff_lt_mul (x := x) (y := 128) (k := 128 ^ i) (Nat.pow_pos (by decide))
        rw [Nat.mul_comm]
        exact this.mp (by rw [← hy]; exact hs)
      walk_at "aus"
      rw [hxm, and_mask (by omega)]
      walk_at "aus"
      refine Wp.newTuple (by simp) fun a ha => ?_
      have h' := fun t1 t2 => h a t1 t2 ha
      rw [hlen] at h'
      rw [show ((pre.length + i : Nat) : Int) + 1 = ((pre.length + (i + (([] : List UInt8).length + 1)) : Nat) : Int) by simp; omega]
      exact ⟨_, fun _ hp => hp, h' _ _⟩
    · rw [if_neg hs]
      refine iF (by rw [(and128 (y % 128) (by omega)).2]; rfl) ?_
      have hi7 : i ≤ 7 := by
        rcases Nat.lt_or_ge i 8 with h8 | h8
        · omega
        · have : i = 8 := by omega
          subst this
          have : x / 128 ^ 8 = 0 := Nat.div_eq_of_lt (by omega)
          omega
      walk_at "aus"
      refine iF (by simp; omega) ?_
      walk_at "aus"
      refine ⟨10 - (i + 1), n', by omega, fun _ hp => hp, i + 1, y / 128, bs0 ++ [(y % 128 + 128).toUInt8], _, _, _, _, rfl, by omega, ?_, .inr (by omega), ?_, by simp [hln], by rw [show ((pre.length + i : Nat) : Int) + 1 = ((pre.length + (i + 1) : Nat) : Int) by omega, show ((7 * i : Nat) : Int) + 7 = ((7 * (i + 1) : Nat) : Int) by omega]; rfl, rfl⟩
      · rw [hy, Nat.pow_succ, Nat.div_div_eq_div_mul]
      · rw [hv, hhead, if_neg hs, hbig (by omega)]; simp
theorem decodeVarint (hG : Ok G) (rm : Rm A 2) {x : Nat} (hx : x < 2 ^ 56) {pre post : List UInt8} {t u : Tok} (hz : (pre ++ (vint x ++ post)).length ≤ 100000)
    (h : ∀ a t1 t2, (∀ p ∈ n, p.1 < a) → Q (.ref a) vs ((a, Tup [.int x t1, .int ((pre.length + (vint x).length : Nat) : Int) t2]) :: n)) :
    Wp G f A (PySem.call (.ref 191) [.bytes (pre ++ (vint x ++ post)).toArray t, .int pre.length u]) vs n Q E := by
  refine Wp.callK hG (ns := ["buffer", "pos"]) rm (by rfl) (by kernel_rfl) (fun s _ => BindsTo.of_eq (by rfl)) (by decide +kernel) (by rfl) (fun g L A' env he hlt rm' => ⟨[("buffer", .loc 0), ("pos", .loc 1), ("_VarintDecoder", .glo (.ref 184))], [some (.bytes (pre ++ (vint x ++ post)).toArray t), some (.int pre.length u)], n, ?_, ?_, fun r => ?_⟩)
  · subst he; walk_at "au_slots"
  · walk_at "au_pl"
  · have k1 : ∀ n, KP G n (.ref 184) := fun _ => .k hG (by rfl) ⟨_, _, _, _, rfl⟩
    walk_at "aus"
    refine ⟨k1 _, varintDecoder hG rm' fun fa c o hc hc1 hc2 => ?_⟩
    walk_at "aus"
    refine ⟨clo_fn (.head _) hc, ?_⟩
    refine readVarint hG rm' hc (.head _) (.tail _ (.head _)) hx hz fun a t1 t2 ha => ?_
    exact ⟨_, fun p hp => (List.mem_cons.mp hp).elim (fun e => e ▸ .head _) fun hp => .tail _ (.tail _ (.tail _ hp)), h a t1 t2 fun p hp => ha p (.tail _ (.tail _ hp))⟩
end
end

section
set_option maxHeartbeats 4000000
open PySem PySem.Spec PySem.Calls PyProof.Rows PySem.W

def bodyB (enc : Nat → List UInt8) (vals : List Nat) : List UInt8 := (vals.map enc).flatten
/-- how many octets a field takes: single, repeated, packed -/
def dueLen (mode tl : Nat) (enc : Nat → List UInt8) (vals : List Nat) : Nat :=
  if mode = 0 then tl + (bodyB enc vals).length else if mode = 1 then tl * vals.length + (bodyB enc vals).length else (bodyB enc vals).length + (vint (bodyB enc vals).length).length + tl
/-- the value given: a number, or a list of numbers -/
def ArgV (n : Led) (mode : Nat) (vals : List Nat) (v : Value) : Prop :=
  (mode = 0 ∧ ∃ x t, vals = [x] ∧ v = .int (x : Nat) t) ∨ (0 < mode ∧ ∃ l ws ep, v = .ref l ∧ (l, Lst ws ep) ∈ n ∧ IntsAre ws (vals.map fun x => ((x : Nat) : Int)))
theorem ArgV.sub {n n' : Led} {mode : Nat} {vals : List Nat} {v : Value} (h : ArgV n mode vals v) (hs : ∀ p ∈ n, p ∈ n') : ArgV n' mode vals v :=
  h.elim .inl fun ⟨a, l, ws, ep, e, m, i⟩ => .inr ⟨a, l, ws, ep, e, hs _ m, i⟩

structure SizeF (G : Gl) (fv : Value) (nd : Led) (mode tl : Nat) (enc : Nat → List UInt8) (B : Nat → Prop) (k : Nat) : Prop where
  kp : ∀ n, (∀ p ∈ nd, p ∈ n) → KP G n fv
  run : ∀ (f : Fk) (A : Around) vs n (v : Value) vals E (Q : Value → Vals → Led → Prop), (∀ p ∈ nd, p ∈ n) → Rm A k → ArgV n mode vals v → (∀ x ∈ vals, B x) → vals.length ≤ 1000 → (bodyB enc vals).length ≤ 100000 → (∀ t, Q (.int (dueLen mode tl enc vals) t) vs n) → Wp G f A (PySem.call fv [v]) vs n Q E
/-- what makes sizers of fields -/
structure SizerM (G : Gl) (sv : Value) (nd : Led) (enc : Nat → List UInt8) (B : Nat → Prop) (k : Nat) : Prop where
  kp : ∀ n, (∀ p ∈ nd, p ∈ n) → KP G n sv
  run : ∀ (f : Fk) (A : Around) vs n (num mode : Nat) t E (Q : Value → Vals → Led → Prop), (∀ p ∈ nd, p ∈ n) → Rm A k → num < 1073741824 → mode ≤ 2 →
    (∀ fv m, SizeF G fv (m ++ nd) mode (vint (8 * num)).length enc B k → Q fv vs (m ++ n)) → Wp G f A (PySem.call sv [.int num t, .bool (decide (0 < mode)), .bool (decide (mode = 2))]) vs n Q E

theorem bits_small {k : Nat} (h : k ≤ 1000000) : Builtin.Int.intBits (k : Int) ≤ 64 := by
  refine intBits_le_iff.mpr ?_
  rw [Int.natAbs_natCast]
  omega
def dSS : Stmt := sAt (dBody (sAt pTop 15)) 0
def dSS2 : Stmt := sAt (dBody (sAt (dBody dSS) 1)) 1
def dSS1 : Stmt := sAt (dBody (sAt (dElse (sAt (dBody dSS) 1)) 0)) 0
def dSS0 : Stmt := sAt (dElse (sAt (dElse (sAt (dBody dSS) 1)) 0)) 0
section
variable {G : Gl} {f : Fk} {A : Around} {vs : Vals} {n : Led} {E : Value → Shared → Prop} {Q : Value → Vals → Led → Prop}
theorem ss0 (hG : Ok G) {fa c1 c2 : Addr} {o : Obj} {cv : Value} {tl k : Nat} {tt : Tok} {enc : Nat → List UInt8} {B : Nat → Prop} (hc : CloD dSS0 "_SimpleSizer.<locals>.SpecificSizer.<locals>.FieldSize" [("tag_size", c2), ("compute_value_size", c1)] .none o) (C : SizeV G cv enc B k) :
    SizeF G (.ref fa) [(fa, o), (c1, cellObj (some cv)), (c2, cellObj (some (.int tl tt)))] 0 tl enc B (k + 1) where
  kp := fun n hs => clo_fn (hs _ (.head _)) hc
  run := fun f A vs n v vals E Q hs rm ha hB hz hb h => by
    rcases ha with ⟨_, x, t, rfl, rfl⟩ | ⟨h0, _⟩
    · have h1 : (c1, cellObj (some cv)) ∈ n := hs _ (.tail _ (.head _))
      have h2 : (c2, cellObj (some (.int tl tt))) ∈ n := hs _ (.tail _ (.tail _ (.head _)))
      refine Wp.callN (ns := ["value"]) (hs _ (.head _)) hc rm (binds := [("value", .int x t)]) (fun s _ _ _ _ _ => BindsTo.of_eq (by kernel_rfl)) (by decide +kernel) (by rfl) (fun g2 L2 A2 env2 cc he2 hin hlt2 rm2 => ⟨[("value", .loc 0), ("compute_value_size", .cel c1), ("tag_size", .cel c2)], [some (.int x t)], n, ?_, ?_, fun r2 => ?_⟩)
      · rw [hG.K]; subst he2; walk_at "au_slots"
      · walk_at "au_pl"
      · refine Wp.conR ?_
        walk_at "aus"
        refine ⟨C.kp _, C.run _ _ _ _ x t _ _ rm2 (hB x (.head _)) fun ts => ?_⟩
        walk_at "aus"
        refine ⟨n, fun _ hp => hp, ?_⟩
        have := h
        simp only [dueLen, bodyB, List.map_cons, List.map_nil, List.flatten_cons, List.flatten_nil, List.append_nil, if_true] at this
        rw [show ((tl : Int) + ((enc x).length : Int)) = ((tl + (enc x).length : Nat) : Int) by omega]
        exact this _
    · omega
theorem bodyB_take (enc : Nat → List UInt8) (vals : List Nat) {i : Nat} (h : i < vals.length) : (bodyB enc (vals.take (i + 1))).length = (bodyB enc (vals.take i)).length + (enc vals[i]).length := by
  unfold bodyB
  rw [List.take_add_one, List.getElem?_eq_getElem h]
  simp only [Option.toList_some, List.map_append, List.flatten_append, List.length_append, List.map_cons, List.map_nil, List.flatten_cons, List.flatten_nil, List.append_nil]
theorem nat_at {ws : List Value} {vals : List Nat} (hi : IntsAre ws (vals.map fun x => ((x : Nat) : Int))) {i : Nat} {v : Value} (hv : ws[i]? = some v) : ∃ (h : i < vals.length) (t : Tok), v = .int (vals[i] : Nat) t := by
  obtain ⟨hlt, _⟩ := List.getElem?_eq_some_iff.mp hv
  have hl := hi.length
  rw [List.length_map] at hl
  have h : i < vals.length := by omega
  obtain ⟨t, e⟩ := hi.get i ((vals[i] : Nat) : Int) (by simp [h])
  rw [e] at hv
  exact ⟨h, t, (Option.some.inj hv).symm⟩
theorem SizeF.mono {fv : Value} {nd nd' : Led} {mode tl : Nat} {enc : Nat → List UInt8} {B : Nat → Prop} {k k' : Nat} (F : SizeF G fv nd mode tl enc B k) (hs : ∀ p ∈ nd, p ∈ nd') (hk : k ≤ k') : SizeF G fv nd' mode tl enc B k' where
  kp := fun n h => F.kp n fun p hp => h p (hs p hp)
  run := fun f A vs n v vals E Q h rm => F.run f A vs n v vals E Q (fun p hp => h p (hs p hp)) (rm.le hk)
theorem ss1 (hG : Ok G) {fa c1 c2 : Addr} {o : Obj} {cv : Value} {tl k : Nat} {tt : Tok} {enc : Nat → List UInt8} {B : Nat → Prop} (htl : tl ≤ 100) (hc : CloD dSS1 "_SimpleSizer.<locals>.SpecificSizer.<locals>.RepeatedFieldSize" [("tag_size", c2), ("compute_value_size", c1)] .none o) (C : SizeV G cv enc B k) :
    SizeF G (.ref fa) [(fa, o), (c1, cellObj (some cv)), (c2, cellObj (some (.int tl tt)))] 1 tl enc B (k + 1) where
  kp := fun n hs => clo_fn (hs _ (.head _)) hc
  run := fun f A vs n v vals E Q hs rm ha hB hz hb h => by
    rcases ha with ⟨h0, _⟩ | ⟨_, l, ws, ep, rfl, hl, hi⟩
    · omega
    have h1 : (c1, cellObj (some cv)) ∈ n := hs _ (.tail _ (.head _))
    have h2 : (c2, cellObj (some (.int tl tt))) ∈ n := hs _ (.tail _ (.tail _ (.head _)))
    have hwl : ws.length = vals.length := by have := hi.length; rw [List.length_map] at this; exact this
    refine Wp.callN (ns := ["value", "result", "element"]) (hs _ (.head _)) hc rm (binds := [("value", .ref l)]) (fun s _ _ _ _ _ => BindsTo.of_eq (by kernel_rfl)) (by decide +kernel) (by rfl) (fun g2 L2 A2 env2 cc he2 hin hlt2 rm2 => ⟨[("value", .loc 0), ("result", .loc 1), ("element", .loc 2), ("compute_value_size", .cel c1), ("tag_size", .cel c2), ("len", .bui (.builtin "len"))], [some (.ref l), none, none], n, ?_, ?_, fun r2 => ?_⟩)
    · rw [hG.K]; subst he2; walk_at "au_slots"
    · walk_at "au_pl"
    · refine Wp.conA ?_
      walk_at "aus"
      refine ⟨.bui _, Wp.lenL hl (by omega) fun _ => ?_⟩
      refine Wp.mul (IntMulOk.of_left (bits_small (by omega))) fun _ => ?_
      rw [hwl]
      walk_at "aus"
      refine Wp.conF (fun i v => ws[i]? = some v) ws.length [(l, Lst ws ep)] (fun i vs' n' => ∃ (tr : Tok) (o : Option Value), vs' = [some (.ref l), some (.int ((tl * vals.length + (bodyB enc (vals.take i)).length : Nat) : Int) tr), o] ∧ n' = n) ?_
      walk_at "aus"
      refine ⟨itr_list rm2.hh hl, ⟨_, none, by rw [show ((tl : Int) * (vals.length : Int)) = ((tl * vals.length + (bodyB enc (vals.take 0)).length : Nat) : Int) by simp [bodyB]]; rfl, rfl⟩, ⟨fun i vs' n' ⟨_, _, _, e⟩ p hp => (by subst e; rw [List.mem_singleton.mp hp]; exact hl), fun i vs' n' ⟨_, _, _, e⟩ => (by subst e; exact Sub.rfl')⟩, ?_, ?_⟩
      · rintro it o i v vs' n' hit _ hi2 hv ⟨tr, o', rfl, rfl⟩
        obtain ⟨hiv, tv, rfl⟩ := nat_at hi hv
        walk_at "aus"
        refine ⟨C.kp _, C.run _ _ _ _ _ _ _ _ rm2 (hB _ (List.getElem_mem hiv)) fun ts => ?_⟩
        walk_at "aus"
        exact ⟨_, fun p hp => hp, _, _, by rw [bodyB_take enc vals hiv, show ((tl * vals.length + (bodyB enc (vals.take i)).length : Nat) : Int) + ((enc vals[i]).length : Int) = ((tl * vals.length + ((bodyB enc (vals.take i)).length + (enc vals[i]).length) : Nat) : Int) by push_cast; omega]; rfl, rfl⟩
      · rintro vs' n' ⟨tr, o', rfl, rfl⟩
        rw [hwl, List.take_length]
        walk_at "aus"
        exact ⟨_, fun p hp => hp, h _⟩
theorem ss2 (hG : Ok G) {fa c1 c2 c3 : Addr} {o : Obj} {cv : Value} {tl k : Nat} {tt : Tok} {enc : Nat → List UInt8} {B : Nat → Prop} (hc : CloD dSS2 "_SimpleSizer.<locals>.SpecificSizer.<locals>.PackedFieldSize" [("tag_size", c2), ("local_VarintSize", c3), ("compute_value_size", c1)] .none o) (C : SizeV G cv enc B k) :
    SizeF G (.ref fa) [(fa, o), (c1, cellObj (some cv)), (c2, cellObj (some (.int tl tt))), (c3, cellObj (some (.ref 99)))] 2 tl enc B (k + 2) where
  kp := fun n hs => clo_fn (hs _ (.head _)) hc
  run := fun f A vs n v vals E Q hs rm ha hB hz hb h => by
    rcases ha with ⟨h0, _⟩ | ⟨_, l, ws, ep, rfl, hl, hi⟩
    · omega
    have h1 : (c1, cellObj (some cv)) ∈ n := hs _ (.tail _ (.head _))
    have h2 : (c2, cellObj (some (.int tl tt))) ∈ n := hs _ (.tail _ (.tail _ (.head _)))
    have h3 : (c3, cellObj (some (.ref 99))) ∈ n := hs _ (.tail _ (.tail _ (.tail _ (.head _))))
    have k1 : ∀ n, KP G n (.ref 99) := fun _ => .k hG (by rfl) ⟨_, _, _, _, rfl⟩
    have hwl : ws.length = vals.length := by have := hi.length; rw [List.length_map] at this; exact this
    refine Wp.callN (ns := ["value", "result", "element"]) (hs _ (.head _)) hc rm (binds := [("value", .ref l)]) (fun s _ _ _ _ _ => BindsTo.of_eq (by kernel_rfl)) (by decide +kernel) (by rfl) (fun g2 L2 A2 env2 cc he2 hin hlt2 rm2 => ⟨[("value", .loc 0), ("result", .loc 1), ("element", .loc 2), ("compute_value_size", .cel c1), ("local_VarintSize", .cel c3), ("tag_size", .cel c2)], [some (.ref l), none, none], n, ?_, ?_, fun r2 => ?_⟩)
    · rw [hG.K]; subst he2; walk_at "au_slots"
    · walk_at "au_pl"
    · refine Wp.conA ?_
      walk_at "aus"
      refine Wp.conF (fun i v => ws[i]? = some v) ws.length [(l, Lst ws ep)] (fun i vs' n' => ∃ (tr : Tok) (o : Option Value), vs' = [some (.ref l), some (.int (((bodyB enc (vals.take i)).length : Nat) : Int) tr), o] ∧ n' = n) ?_
      walk_at "aus"
      refine ⟨itr_list rm2.hh hl, ⟨_, none, rfl, rfl⟩, ⟨fun i vs' n' ⟨_, _, _, e⟩ p hp => (by subst e; rw [List.mem_singleton.mp hp]; exact hl), fun i vs' n' ⟨_, _, _, e⟩ => (by subst e; exact Sub.rfl')⟩, ?_, ?_⟩
      · rintro it o i v vs' n' hit _ hi2 hv ⟨tr, o', rfl, rfl⟩
        obtain ⟨hiv, tv, rfl⟩ := nat_at hi hv
        walk_at "aus"
        refine ⟨C.kp _, C.run _ _ _ _ _ _ _ _ (rm2.le (by omega)) (hB _ (List.getElem_mem hiv)) fun ts => ?_⟩
        walk_at "aus"
        exact ⟨_, fun p hp => hp, _, _, by rw [bodyB_take enc vals hiv, show (((bodyB enc (vals.take i)).length : Nat) : Int) + ((enc vals[i]).length : Int) = (((bodyB enc (vals.take i)).length + (enc vals[i]).length : Nat) : Int) by push_cast; omega]; rfl, rfl⟩
      · rintro vs' n' ⟨tr, o', rfl, rfl⟩
        rw [hwl, List.take_length]
        walk_at "aus"
        refine ⟨k1 _, varintSize hG (rm2.le (by omega)) (by omega) fun _ => ?_⟩
        walk_at "aus"
        refine ⟨_, fun p hp => hp, ?_⟩
        have h' := h
        rw [show dueLen 2 tl enc vals = (bodyB enc vals).length + (vint (bodyB enc vals).length).length + tl from rfl] at h'
        rw [show (((bodyB enc vals).length : Nat) : Int) + ((vint (bodyB enc vals).length).length : Int) + (tl : Int) = (((bodyB enc vals).length + (vint (bodyB enc vals).length).length + tl : Nat) : Int) by push_cast; rfl]
        exact h' _
theorem simpleSizer (hG : Ok G) (rm : Rm A 1) {cv : Value} (h : ∀ fa c o, CloD dSS "_SimpleSizer.<locals>.SpecificSizer" [("compute_value_size", c)] .none o → (∀ p ∈ n, p.1 < c) → c < fa → Q (.ref fa) vs ((fa, o) :: (c, cellObj (some cv)) :: n)) :
    Wp G f A (PySem.call (.ref 113) [cv]) vs n Q E := by
  refine Wp.callK hG (ns := ["SpecificSizer"]) rm (by rfl) (by kernel_rfl) (fun s _ => BindsTo.of_eq (by rfl)) (by decide +kernel) (by rfl) (fun g L A' env he hlt rm' => ⟨[("compute_value_size", .cel (L + 1)), ("SpecificSizer", .loc 0)], [none], upd ((L + 1, cellObj none) :: n) (L + 1) (cellObj (some cv)), ?_, ?_, fun r => ?_⟩)
  · subst he; walk_at "au_slots"
  · exact .cel (by subst he; kernel_rfl) (by walk_at "au_m") (.head _) .nil
  · rw [upd_cons, upd_id fun p hp => Nat.ne_of_lt (Nat.lt_succ_of_lt (hlt p hp))]
    refine Wp.cons (Wp.fdef0 (clos := [("compute_value_size", L + 1)]) (by subst he; rfl) (by subst he; rfl) (by subst he; rfl) (.inl (by rw [hG.codes]; simp)) (by subst he; rfl) (by rw [hG.q]; rfl) rfl rfl (by rfl) fun fa o hc hl => ?_)
    walk_at "aus"
    exact ⟨_, fun p hp => hp, h fa (L + 1) o hc (fun p hp => Nat.lt_succ_of_lt (hlt p hp)) (hl (L + 1, _) (.head _))⟩
theorem specificSizer (hG : Ok G) {fa c : Addr} {o : Obj} {cv : Value} {k : Nat} {enc : Nat → List UInt8} {B : Nat → Prop} (hc : CloD dSS "_SimpleSizer.<locals>.SpecificSizer" [("compute_value_size", c)] .none o) (C : SizeV G cv enc B k) :
    SizerM G (.ref fa) [(fa, o), (c, cellObj (some cv))] enc B (k + 3) where
  kp := fun n hs => clo_fn (hs _ (.head _)) hc
  run := fun f A vs n num mode t E Q hs rm hnum hmode h => by
    refine Wp.callN (ns := ["field_number", "is_repeated", "is_packed", "PackedFieldSize", "RepeatedFieldSize", "FieldSize"]) (hs _ (.head _)) hc rm (binds := [("field_number", .int num t), ("is_repeated", .bool (decide (0 < mode))), ("is_packed", .bool (decide (mode = 2)))]) (fun s _ _ _ _ _ => BindsTo.of_eq (by kernel_rfl)) (by decide +kernel) (by rfl)
      (fun g2 L A2 env2 cc he2 hin hlt2 rm2 => ⟨[("field_number", .loc 0), ("is_repeated", .loc 1), ("is_packed", .loc 2), ("PackedFieldSize", .loc 3), ("RepeatedFieldSize", .loc 4), ("FieldSize", .loc 5), ("local_VarintSize", .cel (L + 1)), ("tag_size", .cel (L + 2)), ("compute_value_size", .cel c), ("_TagSize", .glo (.ref 106)), ("_VarintSize", .glo (.ref 99))],
        [some (.int num t), some (.bool (decide (0 < mode))), some (.bool (decide (mode = 2))), none, none, none], (L + 1, cellObj none) :: (L + 2, cellObj none) :: n, ?_, ?_, fun r2 => ?_⟩)
    · rw [hG.K]; subst he2; walk_at "au_slots"
    · walk_at "au_pl"
    · have hin' : ∀ x y, CodeIn G (x :: y :: n) cc := fun x y => hin.elim .inl fun ⟨a, b, c, d, e, hm, hq⟩ => .inr ⟨a, b, c, d, e, .tail _ (.tail _ hm), hq⟩
      have hvl : (vint (8 * num)).length ≤ 100 := Nat.le_trans (vint_len_le _ (by omega)) (by decide)
      have k1 : ∀ n, KP G n (.ref 106) := fun _ => .k hG (by rfl) ⟨_, _, _, _, rfl⟩
      refine Wp.conA ?_
      walk_at "aus"
      refine ⟨k1 _, tagSize hG (rm2.le (by omega)) (by omega) fun tz => ?_⟩
      walk_at "aus"
      rw [upd_cons_ne (by simp : L + 1 ≠ L + 2), upd_cons, upd_id fun p hp => Nat.ne_of_lt (Nat.lt_trans (hlt2 p hp) (by simp))]
      refine iB (fun hm2 => ?_) (fun hm2 => ?_)
      · subst hm2
        walk_at "aus"
        rw [upd_cons, upd_cons_ne (by simp : L + 2 ≠ L + 1), upd_id fun p hp => Nat.ne_of_lt (Nat.lt_trans (hlt2 p hp) (by simp))]
        refine Wp.cons (Wp.fdef0 (qual := "_SimpleSizer.<locals>.SpecificSizer.<locals>.PackedFieldSize") (by subst he2; rfl) (by subst he2; rfl) (by subst he2; rfl) (hin' _ _) (by subst he2; rfl) (by rw [hG.q]; rfl) rfl rfl (by rfl) fun fb ob hcb hlb => ?_)
        walk_at "aus"
        have F := ss2 hG hcb C (fa := fb) (tt := tz) (tl := (vint (8 * num)).length)
        exact ⟨_, fun p hp => hp, h _ [(fb, ob), (L + 1, _), (L + 2, _)] (F.mono (by simp) (by omega))⟩
      · walk_at "aus"
        refine iB (fun hm1 => ?_) (fun hm1 => ?_)
        · have : mode = 1 := by omega
          subst this
          refine Wp.cons (Wp.fdef0 (qual := "_SimpleSizer.<locals>.SpecificSizer.<locals>.RepeatedFieldSize") (by subst he2; rfl) (by subst he2; rfl) (by subst he2; rfl) (hin' _ _) (by subst he2; rfl) (by rw [hG.q]; rfl) rfl rfl (by rfl) fun fb ob hcb hlb => ?_)
          walk_at "aus"
          have F := ss1 hG hvl hcb C (fa := fb) (tt := tz) (tl := (vint (8 * num)).length)
          exact ⟨_, fun p hp => hp, h _ [(fb, ob), (L + 1, _), (L + 2, _)] (F.mono (by simp) (by omega))⟩
        · have : mode = 0 := by omega
          subst this
          refine Wp.cons (Wp.fdef0 (qual := "_SimpleSizer.<locals>.SpecificSizer.<locals>.FieldSize") (by subst he2; rfl) (by subst he2; rfl) (by subst he2; rfl) (hin' _ _) (by subst he2; rfl) (by rw [hG.q]; rfl) rfl rfl (by rfl) fun fb ob hcb hlb => ?_)
          walk_at "aus"
          have F := ss0 hG hcb C (fa := fb) (tt := tz) (tl := (vint (8 * num)).length)
          exact ⟨_, fun p hp => hp, h _ [(fb, ob), (L + 1, _), (L + 2, _)] (F.mono (by simp) (by omega))⟩
end
end

section
set_option maxHeartbeats 4000000
open PySem PySem.Spec PySem.Calls PyProof.Rows PySem.W

/-- turns numbers -/
structure ModV (G : Gl) (mv : Value) (md : Nat → Nat) (B : Nat → Prop) (k : Nat) : Prop where
  kp : ∀ n, KP G n mv
  run : ∀ (f : Fk) (A : Around) vs n (v : Nat) t E (Q : Value → Vals → Led → Prop), Rm A k → B v → (∀ t, Q (.int (md v : Nat) t) vs n) → Wp G f A (PySem.call mv [.int v t]) vs n Q E
def dMS : Stmt := sAt (dBody (sAt pTop 16)) 0
def dMS2 : Stmt := sAt (dBody (sAt (dBody dMS) 1)) 1
def dMS1 : Stmt := sAt (dBody (sAt (dElse (sAt (dBody dMS) 1)) 0)) 0
def dMS0 : Stmt := sAt (dElse (sAt (dElse (sAt (dBody dMS) 1)) 0)) 0
section
variable {G : Gl} {f : Fk} {A : Around} {vs : Vals} {n : Led} {E : Value → Shared → Prop} {Q : Value → Vals → Led → Prop}
theorem twiceV (hG : Ok G) : ModV G (.ref 294) (fun v => 2 * v) (fun v => v ≤ 13) 1 where
  kp := fun n => .k hG (by rfl) ⟨_, _, _, _, rfl⟩
  run := fun f A vs n v t E Q rm hv h => twice hG rm (by omega) (by omega) fun t => by
    have := h t
    rw [show (((2 * v : Nat)) : Int) = 2 * (v : Int) by omega] at this
    exact this
theorem ms0 (hG : Ok G) {fa c1 c2 : Addr} {o : Obj} {cv mv : Value} {c4 : Addr} {md : Nat → Nat} {B2 : Nat → Prop} {tl k : Nat} {tt : Tok} {enc : Nat → List UInt8} {B : Nat → Prop} (hc : CloD dMS0 "_ModifiedSizer.<locals>.SpecificSizer.<locals>.FieldSize" [("tag_size", c2), ("modify_value", c4), ("compute_value_size", c1)] .none o) (C : SizeV G cv enc B2 k) (M : ModV G mv md B k) (hmd : ∀ v, B v → B2 (md v)) :
    SizeF G (.ref fa) [(fa, o), (c1, cellObj (some cv)), (c4, cellObj (some mv)), (c2, cellObj (some (.int tl tt)))] 0 tl (fun v => enc (md v)) B (k + 1) where
  kp := fun n hs => clo_fn (hs _ (.head _)) hc
  run := fun f A vs n v vals E Q hs rm ha hB hz hb h => by
    rcases ha with ⟨_, x, t, rfl, rfl⟩ | ⟨h0, _⟩
    · have h1 : (c1, cellObj (some cv)) ∈ n := hs _ (.tail _ (.head _))
      have h4 : (c4, cellObj (some mv)) ∈ n := hs _ (.tail _ (.tail _ (.head _)))
      have h2 : (c2, cellObj (some (.int tl tt))) ∈ n := hs _ (.tail _ (.tail _ (.tail _ (.head _))))
      refine Wp.callN (ns := ["value"]) (hs _ (.head _)) hc rm (binds := [("value", .int x t)]) (fun s _ _ _ _ _ => BindsTo.of_eq (by kernel_rfl)) (by decide +kernel) (by rfl) (fun g2 L2 A2 env2 cc he2 hin hlt2 rm2 => ⟨[("value", .loc 0), ("compute_value_size", .cel c1), ("modify_value", .cel c4), ("tag_size", .cel c2)], [some (.int x t)], n, ?_, ?_, fun r2 => ?_⟩)
      · rw [hG.K]; subst he2; walk_at "au_slots"
      · walk_at "au_pl"
      · refine Wp.conR ?_
        walk_at "aus"
        refine ⟨M.kp _, M.run _ _ _ _ x t _ _ rm2 (hB x (.head _)) fun tm => ?_⟩
        walk_at "aus"
        refine ⟨C.kp _, C.run _ _ _ _ _ _ _ _ rm2 (hmd _ (hB x (.head _))) fun ts => ?_⟩
        walk_at "aus"
        refine ⟨n, fun _ hp => hp, ?_⟩
        have := h
        simp only [dueLen, bodyB, List.map_cons, List.map_nil, List.flatten_cons, List.flatten_nil, List.append_nil, if_true] at this
        rw [show ((tl : Int) + ((enc (md x)).length : Int)) = ((tl + (enc (md x)).length : Nat) : Int) by omega]
        exact this _
    · omega
theorem ms1 (hG : Ok G) {fa c1 c2 : Addr} {o : Obj} {cv mv : Value} {c4 : Addr} {md : Nat → Nat} {B2 : Nat → Prop} {tl k : Nat} {tt : Tok} {enc : Nat → List UInt8} {B : Nat → Prop} (htl : tl ≤ 100) (hc : CloD dMS1 "_ModifiedSizer.<locals>.SpecificSizer.<locals>.RepeatedFieldSize" [("tag_size", c2), ("modify_value", c4), ("compute_value_size", c1)] .none o) (C : SizeV G cv enc B2 k) (M : ModV G mv md B k) (hmd : ∀ v, B v → B2 (md v)) :
    SizeF G (.ref fa) [(fa, o), (c1, cellObj (some cv)), (c4, cellObj (some mv)), (c2, cellObj (some (.int tl tt)))] 1 tl (fun v => enc (md v)) B (k + 1) where
  kp := fun n hs => clo_fn (hs _ (.head _)) hc
  run := fun f A vs n v vals E Q hs rm ha hB hz hb h => by
    rcases ha with ⟨h0, _⟩ | ⟨_, l, ws, ep, rfl, hl, hi⟩
    · omega
    have h1 : (c1, cellObj (some cv)) ∈ n := hs _ (.tail _ (.head _))
    have h4 : (c4, cellObj (some mv)) ∈ n := hs _ (.tail _ (.tail _ (.head _)))
    have h2 : (c2, cellObj (some (.int tl tt))) ∈ n := hs _ (.tail _ (.tail _ (.tail _ (.head _))))
    have hwl : ws.length = vals.length := by have := hi.length; rw [List.length_map] at this; exact this
    refine Wp.callN (ns := ["value", "result", "element"]) (hs _ (.head _)) hc rm (binds := [("value", .ref l)]) (fun s _ _ _ _ _ => BindsTo.of_eq (by kernel_rfl)) (by decide +kernel) (by rfl) (fun g2 L2 A2 env2 cc he2 hin hlt2 rm2 => ⟨[("value", .loc 0), ("result", .loc 1), ("element", .loc 2), ("compute_value_size", .cel c1), ("modify_value", .cel c4), ("tag_size", .cel c2), ("len", .bui (.builtin "len"))], [some (.ref l), none, none], n, ?_, ?_, fun r2 => ?_⟩)
    · rw [hG.K]; subst he2; walk_at "au_slots"
    · walk_at "au_pl"
    · refine Wp.conA ?_
      walk_at "aus"
      refine ⟨.bui _, Wp.lenL hl (by omega) fun _ => ?_⟩
      refine Wp.mul (IntMulOk.of_left (bits_small (by omega))) fun _ => ?_
      rw [hwl]
      walk_at "aus"
      refine Wp.conF (fun i v => ws[i]? = some v) ws.length [(l, Lst ws ep)] (fun i vs' n' => ∃ (tr : Tok) (o : Option Value), vs' = [some (.ref l), some (.int ((tl * vals.length + (bodyB (fun v => enc (md v)) (vals.take i)).length : Nat) : Int) tr), o] ∧ n' = n) ?_
      walk_at "aus"
      refine ⟨itr_list rm2.hh hl, ⟨_, none, by rw [show ((tl : Int) * (vals.length : Int)) = ((tl * vals.length + (bodyB (fun v => enc (md v)) (vals.take 0)).length : Nat) : Int) by simp [bodyB]]; rfl, rfl⟩, ⟨fun i vs' n' ⟨_, _, _, e⟩ p hp => (by subst e; rw [List.mem_singleton.mp hp]; exact hl), fun i vs' n' ⟨_, _, _, e⟩ => (by subst e; exact Sub.rfl')⟩, ?_, ?_⟩
      · rintro it o i v vs' n' hit _ hi2 hv ⟨tr, o', rfl, rfl⟩
        obtain ⟨hiv, tv, rfl⟩ := nat_at hi hv
        walk_at "aus"
        refine ⟨M.kp _, M.run _ _ _ _ _ _ _ _ rm2 (hB _ (List.getElem_mem hiv)) fun tm => ?_⟩
        walk_at "aus"
        refine ⟨C.kp _, C.run _ _ _ _ _ _ _ _ rm2 (hmd _ (hB _ (List.getElem_mem hiv))) fun ts => ?_⟩
        walk_at "aus"
        exact ⟨_, fun p hp => hp, _, _, by rw [bodyB_take (fun v => enc (md v)) vals hiv, show ((tl * vals.length + (bodyB (fun v => enc (md v)) (vals.take i)).length : Nat) : Int) + ((enc (md vals[i])).length : Int) = ((tl * vals.length + ((bodyB (fun v => enc (md v)) (vals.take i)).length + (enc (md vals[i])).length) : Nat) : Int) by push_cast; omega]; rfl, rfl⟩
      · rintro vs' n' ⟨tr, o', rfl, rfl⟩
        rw [hwl, List.take_length]
        walk_at "aus"
        exact ⟨_, fun p hp => hp, h _⟩
theorem ms2 (hG : Ok G) {fa c1 c2 c3 : Addr} {o : Obj} {cv mv : Value} {c4 : Addr} {md : Nat → Nat} {B2 : Nat → Prop} {tl k : Nat} {tt : Tok} {enc : Nat → List UInt8} {B : Nat → Prop} (hc : CloD dMS2 "_ModifiedSizer.<locals>.SpecificSizer.<locals>.PackedFieldSize" [("tag_size", c2), ("modify_value", c4), ("local_VarintSize", c3), ("compute_value_size", c1)] .none o) (C : SizeV G cv enc B2 k) (M : ModV G mv md B k) (hmd : ∀ v, B v → B2 (md v)) :
    SizeF G (.ref fa) [(fa, o), (c1, cellObj (some cv)), (c4, cellObj (some mv)), (c2, cellObj (some (.int tl tt))), (c3, cellObj (some (.ref 99)))] 2 tl (fun v => enc (md v)) B (k + 2) where
  kp := fun n hs => clo_fn (hs _ (.head _)) hc
  run := fun f A vs n v vals E Q hs rm ha hB hz hb h => by
    rcases ha with ⟨h0, _⟩ | ⟨_, l, ws, ep, rfl, hl, hi⟩
    · omega
    have h1 : (c1, cellObj (some cv)) ∈ n := hs _ (.tail _ (.head _))
    have h4 : (c4, cellObj (some mv)) ∈ n := hs _ (.tail _ (.tail _ (.head _)))
    have h2 : (c2, cellObj (some (.int tl tt))) ∈ n := hs _ (.tail _ (.tail _ (.tail _ (.head _))))
    have h3 : (c3, cellObj (some (.ref 99))) ∈ n := hs _ (.tail _ (.tail _ (.tail _ (.tail _ (.head _)))))
    have k1 : ∀ n, KP G n (.ref 99) := fun _ => .k hG (by rfl) ⟨_, _, _, _, rfl⟩
    have hwl : ws.length = vals.length := by have := hi.length; rw [List.length_map] at this; exact this
    refine Wp.callN (ns := ["value", "result", "element"]) (hs _ (.head _)) hc rm (binds := [("value", .ref l)]) (fun s _ _ _ _ _ => BindsTo.of_eq (by kernel_rfl)) (by decide +kernel) (by rfl) (fun g2 L2 A2 env2 cc he2 hin hlt2 rm2 => ⟨[("value", .loc 0), ("result", .loc 1), ("element", .loc 2), ("compute_value_size", .cel c1), ("modify_value", .cel c4), ("local_VarintSize", .cel c3), ("tag_size", .cel c2)], [some (.ref l), none, none], n, ?_, ?_, fun r2 => ?_⟩)
    · rw [hG.K]; subst he2; walk_at "au_slots"
    · walk_at "au_pl"
    · refine Wp.conA ?_
      walk_at "aus"
      refine Wp.conF (fun i v => ws[i]? = some v) ws.length [(l, Lst ws ep)] (fun i vs' n' => ∃ (tr : Tok) (o : Option Value), vs' = [some (.ref l), some (.int (((bodyB (fun v => enc (md v)) (vals.take i)).length : Nat) : Int) tr), o] ∧ n' = n) ?_
      walk_at "aus"
      refine ⟨itr_list rm2.hh hl, ⟨_, none, rfl, rfl⟩, ⟨fun i vs' n' ⟨_, _, _, e⟩ p hp => (by subst e; rw [List.mem_singleton.mp hp]; exact hl), fun i vs' n' ⟨_, _, _, e⟩ => (by subst e; exact Sub.rfl')⟩, ?_, ?_⟩
      · rintro it o i v vs' n' hit _ hi2 hv ⟨tr, o', rfl, rfl⟩
        obtain ⟨hiv, tv, rfl⟩ := nat_at hi hv
        walk_at "aus"
        refine ⟨M.kp _, M.run _ _ _ _ _ _ _ _ (rm2.le (by omega)) (hB _ (List.getElem_mem hiv)) fun tm => ?_⟩
        walk_at "aus"
        refine ⟨C.kp _, C.run _ _ _ _ _ _ _ _ (rm2.le (by omega)) (hmd _ (hB _ (List.getElem_mem hiv))) fun ts => ?_⟩
        walk_at "aus"
        exact ⟨_, fun p hp => hp, _, _, by rw [bodyB_take (fun v => enc (md v)) vals hiv, show (((bodyB (fun v => enc (md v)) (vals.take i)).length : Nat) : Int) + ((enc (md vals[i])).length : Int) = (((bodyB (fun v => enc (md v)) (vals.take i)).length + (enc (md vals[i])).length : Nat) : Int) by push_cast; omega]; rfl, rfl⟩
      · rintro vs' n' ⟨tr, o', rfl, rfl⟩
        rw [hwl, List.take_length]
        walk_at "aus"
        refine ⟨k1 _, varintSize hG (rm2.le (by omega)) (by omega) fun _ => ?_⟩
        walk_at "aus"
        refine ⟨_, fun p hp => hp, ?_⟩
        have h' := h
        rw [show dueLen 2 tl (fun v => enc (md v)) vals = (bodyB (fun v => enc (md v)) vals).length + (vint (bodyB (fun v => enc (md v)) vals).length).length + tl from rfl] at h'
        rw [show (((bodyB (fun v => enc (md v)) vals).length : Nat) : Int) + ((vint (bodyB (fun v => enc (md v)) vals).length).length : Int) + (tl : Int) = (((bodyB (fun v => enc (md v)) vals).length + (vint (bodyB (fun v => enc (md v)) vals).length).length + tl : Nat) : Int) by push_cast; rfl]
        exact h' _
theorem modifiedSizer (hG : Ok G) (rm : Rm A 1) {cv mv : Value} (h : ∀ fa c c4 o, CloD dMS "_ModifiedSizer.<locals>.SpecificSizer" [("modify_value", c4), ("compute_value_size", c)] .none o → (∀ p ∈ n, p.1 < c ∧ p.1 < c4) → c < fa → c4 < fa → Q (.ref fa) vs ((fa, o) :: (c, cellObj (some cv)) :: (c4, cellObj (some mv)) :: n)) :
    Wp G f A (PySem.call (.ref 120) [cv, mv]) vs n Q E := by
  refine Wp.callK hG (ns := ["SpecificSizer"]) rm (by rfl) (by kernel_rfl) (fun s _ => BindsTo.of_eq (by rfl)) (by decide +kernel) (by rfl) (fun g L A' env he hlt rm' => ⟨[("compute_value_size", .cel (L + 1)), ("modify_value", .cel (L + 2)), ("SpecificSizer", .loc 0)], [none], upd (upd ((L + 1, cellObj none) :: (L + 2, cellObj none) :: n) (L + 1) (cellObj (some cv))) (L + 2) (cellObj (some mv)), ?_, ?_, fun r => ?_⟩)
  · subst he; walk_at "au_slots"
  · exact .cel (by subst he; kernel_rfl) (by walk_at "au_m") (.head _) (.cel (by subst he; kernel_rfl) (by walk_at "au_m") (mem_upd_ne (.tail _ (.head _)) (by simp)) .nil)
  · have l1 : ∀ p ∈ n, p.1 ≠ L + 1 := fun p hp => Nat.ne_of_lt (Nat.lt_succ_of_lt (hlt p hp))
    have l2 : ∀ p ∈ n, p.1 ≠ L + 2 := fun p hp => Nat.ne_of_lt (Nat.lt_succ_of_lt (Nat.lt_succ_of_lt (hlt p hp)))
    rw [upd_cons, upd_cons_ne (by simp : L + 2 ≠ L + 1), upd_id l1, upd_cons_ne (by simp : L + 1 ≠ L + 2), upd_cons, upd_id l2]
    refine Wp.cons (Wp.fdef0 (clos := [("modify_value", L + 2), ("compute_value_size", L + 1)]) (by subst he; rfl) (by subst he; rfl) (by subst he; rfl) (.inl (by rw [hG.codes]; simp)) (by subst he; rfl) (by rw [hG.q]; rfl) rfl rfl (by rfl) fun fa o hc hl => ?_)
    walk_at "aus"
    exact ⟨_, fun p hp => hp, h fa (L + 1) (L + 2) o hc (fun p hp => ⟨Nat.lt_succ_of_lt (hlt p hp), Nat.lt_succ_of_lt (Nat.lt_succ_of_lt (hlt p hp))⟩) (hl (L + 1, _) (.head _)) (hl (L + 2, _) (.tail _ (.head _)))⟩
theorem specificMSizer (hG : Ok G) {fa c : Addr} {o : Obj} {cv mv : Value} {c4 : Addr} {md : Nat → Nat} {B2 : Nat → Prop} {k : Nat} {enc : Nat → List UInt8} {B : Nat → Prop} (hc : CloD dMS "_ModifiedSizer.<locals>.SpecificSizer" [("modify_value", c4), ("compute_value_size", c)] .none o) (C : SizeV G cv enc B2 k) (M : ModV G mv md B k) (hmd : ∀ v, B v → B2 (md v)) :
    SizerM G (.ref fa) [(fa, o), (c, cellObj (some cv)), (c4, cellObj (some mv))] (fun v => enc (md v)) B (k + 3) where
  kp := fun n hs => clo_fn (hs _ (.head _)) hc
  run := fun f A vs n num mode t E Q hs rm hnum hmode h => by
    refine Wp.callN (ns := ["field_number", "is_repeated", "is_packed", "PackedFieldSize", "RepeatedFieldSize", "FieldSize"]) (hs _ (.head _)) hc rm (binds := [("field_number", .int num t), ("is_repeated", .bool (decide (0 < mode))), ("is_packed", .bool (decide (mode = 2)))]) (fun s _ _ _ _ _ => BindsTo.of_eq (by kernel_rfl)) (by decide +kernel) (by rfl)
      (fun g2 L A2 env2 cc he2 hin hlt2 rm2 => ⟨[("field_number", .loc 0), ("is_repeated", .loc 1), ("is_packed", .loc 2), ("PackedFieldSize", .loc 3), ("RepeatedFieldSize", .loc 4), ("FieldSize", .loc 5), ("local_VarintSize", .cel (L + 1)), ("tag_size", .cel (L + 2)), ("compute_value_size", .cel c), ("modify_value", .cel c4), ("_TagSize", .glo (.ref 106)), ("_VarintSize", .glo (.ref 99))],
        [some (.int num t), some (.bool (decide (0 < mode))), some (.bool (decide (mode = 2))), none, none, none], (L + 1, cellObj none) :: (L + 2, cellObj none) :: n, ?_, ?_, fun r2 => ?_⟩)
    · rw [hG.K]; subst he2; walk_at "au_slots"
    · walk_at "au_pl"
    · have hin' : ∀ x y, CodeIn G (x :: y :: n) cc := fun x y => hin.elim .inl fun ⟨a, b, c, d, e, hm, hq⟩ => .inr ⟨a, b, c, d, e, .tail _ (.tail _ hm), hq⟩
      have hvl : (vint (8 * num)).length ≤ 100 := Nat.le_trans (vint_len_le _ (by omega)) (by decide)
      have k1 : ∀ n, KP G n (.ref 106) := fun _ => .k hG (by rfl) ⟨_, _, _, _, rfl⟩
      refine Wp.conA ?_
      walk_at "aus"
      refine ⟨k1 _, tagSize hG (rm2.le (by omega)) (by omega) fun tz => ?_⟩
      walk_at "aus"
      rw [upd_cons_ne (by simp : L + 1 ≠ L + 2), upd_cons, upd_id fun p hp => Nat.ne_of_lt (Nat.lt_trans (hlt2 p hp) (by simp))]
      refine iB (fun hm2 => ?_) (fun hm2 => ?_)
      · subst hm2
        walk_at "aus"
        rw [upd_cons, upd_cons_ne (by simp : L + 2 ≠ L + 1), upd_id fun p hp => Nat.ne_of_lt (Nat.lt_trans (hlt2 p hp) (by simp))]
        refine Wp.cons (Wp.fdef0 (qual := "_ModifiedSizer.<locals>.SpecificSizer.<locals>.PackedFieldSize") (by subst he2; rfl) (by subst he2; rfl) (by subst he2; rfl) (hin' _ _) (by subst he2; rfl) (by rw [hG.q]; rfl) rfl rfl (by rfl) fun fb ob hcb hlb => ?_)
        walk_at "aus"
        have F := ms2 hG hcb C M hmd (fa := fb) (tt := tz) (tl := (vint (8 * num)).length)
        exact ⟨_, fun p hp => hp, h _ [(fb, ob), (L + 1, _), (L + 2, _)] (F.mono (by simp) (by omega))⟩
      · walk_at "aus"
        refine iB (fun hm1 => ?_) (fun hm1 => ?_)
        · have : mode = 1 := by omega
          subst this
          refine Wp.cons (Wp.fdef0 (qual := "_ModifiedSizer.<locals>.SpecificSizer.<locals>.RepeatedFieldSize") (by subst he2; rfl) (by subst he2; rfl) (by subst he2; rfl) (hin' _ _) (by subst he2; rfl) (by rw [hG.q]; rfl) rfl rfl (by rfl) fun fb ob hcb hlb => ?_)
          walk_at "aus"
          have F := ms1 hG hvl hcb C M hmd (fa := fb) (tt := tz) (tl := (vint (8 * num)).length)
          exact ⟨_, fun p hp => hp, h _ [(fb, ob), (L + 1, _), (L + 2, _)] (F.mono (by simp) (by omega))⟩
        · have : mode = 0 := by omega
          subst this
          refine Wp.cons (Wp.fdef0 (qual := "_ModifiedSizer.<locals>.SpecificSizer.<locals>.FieldSize") (by subst he2; rfl) (by subst he2; rfl) (by subst he2; rfl) (hin' _ _) (by subst he2; rfl) (by rw [hG.q]; rfl) rfl rfl (by rfl) fun fb ob hcb hlb => ?_)
          walk_at "aus"
          have F := ms0 hG hcb C M hmd (fa := fb) (tt := tz) (tl := (vint (8 * num)).length)
          exact ⟨_, fun p hp => hp, h _ [(fb, ob), (L + 1, _), (L + 2, _)] (F.mono (by simp) (by omega))⟩
end
end

section
set_option maxHeartbeats 4000000
open PySem PySem.Spec PySem.Calls PyProof.Rows PySem.W

def dFS : Stmt := sAt (dBody (sAt pTop 17)) 0
def dFS2 : Stmt := sAt (dBody (sAt (dBody dFS) 1)) 1
def dFS1 : Stmt := sAt (dBody (sAt (dElse (sAt (dBody dFS) 1)) 0)) 1
def dFS0 : Stmt := sAt (dElse (sAt (dElse (sAt (dBody dFS) 1)) 0)) 1
theorem mem2 {x y : Addr × Obj} {l : Led} : ∀ p ∈ [x, y], p ∈ x :: y :: l := fun p hp => (List.mem_cons.mp hp).elim (fun e => e ▸ .head _) fun h => .tail _ (List.mem_singleton.mp h ▸ .head _)
theorem mem3 {x y z : Addr × Obj} {l : Led} : ∀ p ∈ [x, z], p ∈ x :: y :: z :: l := fun p hp => (List.mem_cons.mp hp).elim (fun e => e ▸ .head _) fun h => .tail _ (.tail _ (List.mem_singleton.mp h ▸ .head _))
theorem bodyB_fixed {enc : Nat → List UInt8} {sz : Nat} (h : ∀ v, (enc v).length = sz) (vals : List Nat) : (bodyB enc vals).length = vals.length * sz := by
  unfold bodyB
  induction vals with
  | nil => simp
  | cons v r ih => rw [List.map_cons, List.flatten_cons, List.length_append, ih, h, List.length_cons, Nat.add_mul, Nat.one_mul, Nat.add_comm]
section
variable {G : Gl} {f : Fk} {A : Around} {vs : Vals} {n : Led} {E : Value → Shared → Prop} {Q : Value → Vals → Led → Prop}
theorem fs0 (hG : Ok G) {fa c1 : Addr} {o : Obj} {tl sz : Nat} {tt : Tok} {enc : Nat → List UInt8} {B : Nat → Prop} (hen : ∀ v, (enc v).length = sz) (hc : CloD dFS0 "_FixedSizer.<locals>.SpecificSizer.<locals>.FieldSize" [("field_size", c1)] .none o) :
    SizeF G (.ref fa) [(fa, o), (c1, cellObj (some (.int ((sz + tl : Nat) : Int) tt)))] 0 tl enc B 1 where
  kp := fun n hs => clo_fn (hs _ (.head _)) hc
  run := fun f A vs n v vals E Q hs rm ha hB hz hb h => by
    rcases ha with ⟨_, x, t, rfl, rfl⟩ | ⟨h0, _⟩
    · have h1 : (c1, cellObj (some (.int ((sz + tl : Nat) : Int) tt))) ∈ n := hs _ (.tail _ (.head _))
      refine Wp.callN (ns := ["value"]) (hs _ (.head _)) hc rm (binds := [("value", .int x t)]) (fun s _ _ _ _ _ => BindsTo.of_eq (by kernel_rfl)) (by decide +kernel) (by rfl) (fun g2 L2 A2 env2 cc he2 hin hlt2 rm2 => ⟨[("value", .loc 0), ("field_size", .cel c1)], [some (.int x t)], n, ?_, ?_, fun r2 => ?_⟩)
      · rw [hG.K]; subst he2; walk_at "au_slots"
      · walk_at "au_pl"
      · refine Wp.conR ?_
        walk_at "aus"
        refine ⟨n, fun _ hp => hp, ?_⟩
        have := h
        rw [show dueLen 0 tl enc [x] = sz + tl by simp only [dueLen, if_true]; rw [bodyB_fixed hen]; simp; omega] at this
        exact this _
    · omega
theorem fs1 (hG : Ok G) {fa c1 : Addr} {o : Obj} {tl sz : Nat} {tt : Tok} {enc : Nat → List UInt8} {B : Nat → Prop} (htl : tl ≤ 100) (hen : ∀ v, (enc v).length = sz) (hc : CloD dFS1 "_FixedSizer.<locals>.SpecificSizer.<locals>.RepeatedFieldSize" [("element_size", c1)] .none o) :
    SizeF G (.ref fa) [(fa, o), (c1, cellObj (some (.int ((sz + tl : Nat) : Int) tt)))] 1 tl enc B 1 where
  kp := fun n hs => clo_fn (hs _ (.head _)) hc
  run := fun f A vs n v vals E Q hs rm ha hB hz hb h => by
    rcases ha with ⟨h0, _⟩ | ⟨_, l, ws, ep, rfl, hl, hi⟩
    · omega
    have hwl : ws.length = vals.length := by have := hi.length; rw [List.length_map] at this; exact this
    have h1 : (c1, cellObj (some (.int ((sz + tl : Nat) : Int) tt))) ∈ n := hs _ (.tail _ (.head _))
    refine Wp.callN (ns := ["value"]) (hs _ (.head _)) hc rm (binds := [("value", .ref l)]) (fun s _ _ _ _ _ => BindsTo.of_eq (by kernel_rfl)) (by decide +kernel) (by rfl) (fun g2 L2 A2 env2 cc he2 hin hlt2 rm2 => ⟨[("value", .loc 0), ("element_size", .cel c1), ("len", .bui (.builtin "len"))], [some (.ref l)], n, ?_, ?_, fun r2 => ?_⟩)
    · rw [hG.K]; subst he2; walk_at "au_slots"
    · walk_at "au_pl"
    · refine Wp.conR ?_
      walk_at "aus"
      refine ⟨.bui _, Wp.lenL hl (by omega) fun _ => ?_⟩
      rw [hwl]
      walk_at "aus"
      refine Wp.mul (IntMulOk.of_left (bits_small (by omega))) fun _ => ?_
      refine ⟨n, fun _ hp => hp, ?_⟩
      have := h
      rw [show dueLen 1 tl enc vals = vals.length * (sz + tl) by
        show tl * vals.length + (bodyB enc vals).length = _
        rw [bodyB_fixed hen, Nat.mul_add, Nat.mul_comm tl]; omega] at this
      rw [show ((vals.length : Int) * ((sz + tl : Nat) : Int)) = ((vals.length * (sz + tl) : Nat) : Int) by push_cast; rfl]
      exact this _
theorem fs2 (hG : Ok G) {fa c1 c2 c3 : Addr} {o : Obj} {tl sz : Nat} {tt ts : Tok} {enc : Nat → List UInt8} {B : Nat → Prop} (hen : ∀ v, (enc v).length = sz) (hc : CloD dFS2 "_FixedSizer.<locals>.SpecificSizer.<locals>.PackedFieldSize" [("value_size", c1), ("tag_size", c2), ("local_VarintSize", c3)] .none o) :
    SizeF G (.ref fa) [(fa, o), (c1, cellObj (some (.int sz ts))), (c2, cellObj (some (.int tl tt))), (c3, cellObj (some (.ref 99)))] 2 tl enc B 2 where
  kp := fun n hs => clo_fn (hs _ (.head _)) hc
  run := fun f A vs n v vals E Q hs rm ha hB hz hb h => by
    rcases ha with ⟨h0, _⟩ | ⟨_, l, ws, ep, rfl, hl, hi⟩
    · omega
    have hwl : ws.length = vals.length := by have := hi.length; rw [List.length_map] at this; exact this
    have h1 : (c1, cellObj (some (.int sz ts))) ∈ n := hs _ (.tail _ (.head _))
    have h2 : (c2, cellObj (some (.int tl tt))) ∈ n := hs _ (.tail _ (.tail _ (.head _)))
    have h3 : (c3, cellObj (some (.ref 99))) ∈ n := hs _ (.tail _ (.tail _ (.tail _ (.head _))))
    have k1 : ∀ n, KP G n (.ref 99) := fun _ => .k hG (by rfl) ⟨_, _, _, _, rfl⟩
    refine Wp.callN (ns := ["value", "result"]) (hs _ (.head _)) hc rm (binds := [("value", .ref l)]) (fun s _ _ _ _ _ => BindsTo.of_eq (by kernel_rfl)) (by decide +kernel) (by rfl) (fun g2 L2 A2 env2 cc he2 hin hlt2 rm2 => ⟨[("value", .loc 0), ("result", .loc 1), ("local_VarintSize", .cel c3), ("tag_size", .cel c2), ("value_size", .cel c1), ("len", .bui (.builtin "len"))], [some (.ref l), none], n, ?_, ?_, fun r2 => ?_⟩)
    · rw [hG.K]; subst he2; walk_at "au_slots"
    · walk_at "au_pl"
    · refine Wp.conA ?_
      walk_at "aus"
      refine ⟨.bui _, Wp.lenL hl (by omega) fun _ => ?_⟩
      rw [hwl]
      walk_at "aus"
      refine Wp.mul (IntMulOk.of_left (bits_small (by omega))) fun _ => ?_
      rw [show ((vals.length : Int) * (sz : Int)) = (((bodyB enc vals).length : Nat) : Int) by rw [bodyB_fixed hen]; push_cast; rfl]
      walk_at "aus"
      refine ⟨k1 _, varintSize hG (rm2.le (by omega)) (by omega) fun _ => ?_⟩
      walk_at "aus"
      refine ⟨_, fun p hp => hp, ?_⟩
      have h' := h
      rw [show dueLen 2 tl enc vals = (bodyB enc vals).length + (vint (bodyB enc vals).length).length + tl from rfl] at h'
      rw [show (((bodyB enc vals).length : Nat) : Int) + ((vint (bodyB enc vals).length).length : Int) + (tl : Int) = (((bodyB enc vals).length + (vint (bodyB enc vals).length).length + tl : Nat) : Int) by push_cast; rfl]
      exact h' _
theorem fixedSizer (hG : Ok G) (rm : Rm A 1) {sv : Value} (h : ∀ fa c o, CloD dFS "_FixedSizer.<locals>.SpecificSizer" [("value_size", c)] .none o → (∀ p ∈ n, p.1 < c) → c < fa → Q (.ref fa) vs ((fa, o) :: (c, cellObj (some sv)) :: n)) :
    Wp G f A (PySem.call (.ref 127) [sv]) vs n Q E := by
  refine Wp.callK hG (ns := ["SpecificSizer"]) rm (by rfl) (by kernel_rfl) (fun s _ => BindsTo.of_eq (by rfl)) (by decide +kernel) (by rfl) (fun g L A' env he hlt rm' => ⟨[("value_size", .cel (L + 1)), ("SpecificSizer", .loc 0)], [none], upd ((L + 1, cellObj none) :: n) (L + 1) (cellObj (some sv)), ?_, ?_, fun r => ?_⟩)
  · subst he; walk_at "au_slots"
  · exact .cel (by subst he; kernel_rfl) (by walk_at "au_m") (.head _) .nil
  · rw [upd_cons, upd_id fun p hp => Nat.ne_of_lt (Nat.lt_succ_of_lt (hlt p hp))]
    refine Wp.cons (Wp.fdef0 (clos := [("value_size", L + 1)]) (by subst he; rfl) (by subst he; rfl) (by subst he; rfl) (.inl (by rw [hG.codes]; simp)) (by subst he; rfl) (by rw [hG.q]; rfl) rfl rfl (by rfl) fun fa o hc hl => ?_)
    walk_at "aus"
    exact ⟨_, fun p hp => hp, h fa (L + 1) o hc (fun p hp => Nat.lt_succ_of_lt (hlt p hp)) (hl (L + 1, _) (.head _))⟩
theorem specificFSizer (hG : Ok G) {fa c : Addr} {o : Obj} {sz : Nat} {tsz : Tok} {enc : Nat → List UInt8} {B : Nat → Prop} (hc : CloD dFS "_FixedSizer.<locals>.SpecificSizer" [("value_size", c)] .none o) (hen : ∀ v, (enc v).length = sz) :
    SizerM G (.ref fa) [(fa, o), (c, cellObj (some (.int sz tsz)))] enc B 3 where
  kp := fun n hs => clo_fn (hs _ (.head _)) hc
  run := fun f A vs n num mode t E Q hs rm hnum hmode h => by
    refine Wp.callN (ns := ["field_number", "is_repeated", "is_packed", "PackedFieldSize", "RepeatedFieldSize", "FieldSize"]) (hs _ (.head _)) hc rm (binds := [("field_number", .int num t), ("is_repeated", .bool (decide (0 < mode))), ("is_packed", .bool (decide (mode = 2)))]) (fun s _ _ _ _ _ => BindsTo.of_eq (by kernel_rfl)) (by decide +kernel) (by rfl)
      (fun g2 L A2 env2 cc he2 hin hlt2 rm2 => ⟨[("field_number", .loc 0), ("is_repeated", .loc 1), ("is_packed", .loc 2), ("PackedFieldSize", .loc 3), ("RepeatedFieldSize", .loc 4), ("FieldSize", .loc 5), ("element_size", .cel (L + 1)), ("field_size", .cel (L + 2)), ("local_VarintSize", .cel (L + 3)), ("tag_size", .cel (L + 4)), ("value_size", .cel c), ("_TagSize", .glo (.ref 106)), ("_VarintSize", .glo (.ref 99))],
        [some (.int num t), some (.bool (decide (0 < mode))), some (.bool (decide (mode = 2))), none, none, none], (L + 1, cellObj none) :: (L + 2, cellObj none) :: (L + 3, cellObj none) :: (L + 4, cellObj none) :: n, ?_, ?_, fun r2 => ?_⟩)
    · rw [hG.K]; subst he2; walk_at "au_slots"
    · walk_at "au_pl"
    · have hin' : ∀ x y z u, CodeIn G (x :: y :: z :: u :: n) cc := fun x y z u => hin.elim .inl fun ⟨a, b, c, d, e, hm, hq⟩ => .inr ⟨a, b, c, d, e, .tail _ (.tail _ (.tail _ (.tail _ hm))), hq⟩
      have hvl : (vint (8 * num)).length ≤ 100 := Nat.le_trans (vint_len_le _ (by omega)) (by decide)
      have k1 : ∀ n, KP G n (.ref 106) := fun _ => .k hG (by rfl) ⟨_, _, _, _, rfl⟩
      have hcm : (c, cellObj (some (.int sz tsz))) ∈ n := hs _ (.tail _ (.head _))
      have lj : ∀ j, 0 < j → ∀ p ∈ n, p.1 ≠ L + j := fun j hj p hp => Nat.ne_of_lt (Nat.lt_trans (hlt2 p hp) (Nat.lt_add_of_pos_right hj))
      refine Wp.conA ?_
      walk_at "aus"
      refine ⟨k1 _, tagSize hG (rm2.le (by omega)) (by omega) fun tz => ?_⟩
      walk_at "aus"
      rw [upd_cons_ne (by simp : L + 1 ≠ L + 4), upd_cons_ne (by simp : L + 2 ≠ L + 4), upd_cons_ne (by simp : L + 3 ≠ L + 4), upd_cons, upd_id (lj 4 (by decide))]
      refine iB (fun hm2 => ?_) (fun hm2 => ?_)
      · subst hm2
        walk_at "aus"
        rw [upd_cons_ne (by simp : L + 1 ≠ L + 3), upd_cons_ne (by simp : L + 2 ≠ L + 3), upd_cons, upd_cons_ne (by simp : L + 4 ≠ L + 3), upd_id (lj 3 (by decide))]
        refine Wp.cons (Wp.fdef0 (qual := "_FixedSizer.<locals>.SpecificSizer.<locals>.PackedFieldSize") (by subst he2; rfl) (by subst he2; rfl) (by subst he2; rfl) (hin' _ _ _ _) (by subst he2; rfl) (by rw [hG.q]; rfl) rfl rfl (by rfl) fun fb ob hcb hlb => ?_)
        walk_at "aus"
        have F := fs2 hG (fa := fb) (ts := tsz) (tt := tz) (tl := (vint (8 * num)).length) (B := B) hen hcb
        exact ⟨_, fun p hp => hp, h _ [(fb, ob), (L + 1, _), (L + 2, _), (L + 3, _), (L + 4, _)] (F.mono (by simp) (by omega))⟩
      · walk_at "aus"
        refine iB (fun hm1 => ?_) (fun hm1 => ?_)
        · have : mode = 1 := by omega
          subst this
          walk_at "aus"
          rw [show ((sz : Int) + ((vint (8 * num)).length : Int)) = ((sz + (vint (8 * num)).length : Nat) : Int) by push_cast; rfl]
          rw [upd_cons, upd_cons_ne (by simp : L + 2 ≠ L + 1), upd_cons_ne (by simp : L + 3 ≠ L + 1), upd_cons_ne (by simp : L + 4 ≠ L + 1), upd_id (lj 1 (by decide))]
          refine Wp.cons (Wp.fdef0 (qual := "_FixedSizer.<locals>.SpecificSizer.<locals>.RepeatedFieldSize") (by subst he2; rfl) (by subst he2; rfl) (by subst he2; rfl) (hin' _ _ _ _) (by subst he2; rfl) (by rw [hG.q]; rfl) rfl rfl (by rfl) fun fb ob hcb hlb => ?_)
          walk_at "aus"
          have F := fun te => fs1 hG (fa := fb) (tt := te) (tl := (vint (8 * num)).length) (B := B) hvl hen hcb
          exact ⟨_, fun p hp => hp, h _ [(fb, ob), (L + 1, _), (L + 2, _), (L + 3, _), (L + 4, _)] ((F _).mono mem2 (by omega))⟩
        · have : mode = 0 := by omega
          subst this
          walk_at "aus"
          rw [show ((sz : Int) + ((vint (8 * num)).length : Int)) = ((sz + (vint (8 * num)).length : Nat) : Int) by push_cast; rfl]
          rw [upd_cons_ne (by simp : L + 1 ≠ L + 2), upd_cons, upd_cons_ne (by simp : L + 3 ≠ L + 2), upd_cons_ne (by simp : L + 4 ≠ L + 2), upd_id (lj 2 (by decide))]
          refine Wp.cons (Wp.fdef0 (qual := "_FixedSizer.<locals>.SpecificSizer.<locals>.FieldSize") (by subst he2; rfl) (by subst he2; rfl) (by subst he2; rfl) (hin' _ _ _ _) (by subst he2; rfl) (by rw [hG.q]; rfl) rfl rfl (by rfl) fun fb ob hcb hlb => ?_)
          walk_at "aus"
          have F := fun te => fs0 hG (fa := fb) (tt := te) (tl := (vint (8 * num)).length) (B := B) hen hcb
          exact ⟨_, fun p hp => hp, h _ [(fb, ob), (L + 1, _), (L + 2, _), (L + 3, _), (L + 4, _)] ((F _).mono mem3 (by omega))⟩
end
end

section
set_option maxHeartbeats 4000000
open PySem PySem.Spec PySem.Calls PyProof.Rows PySem.W

/-- what a field's octets are: single, repeated, packed -/
def dueB (mode : Nat) (tag tag2 : List UInt8) (enc : Nat → List UInt8) (vals : List Nat) : List UInt8 :=
  if mode = 0 then tag ++ bodyB enc vals else if mode = 1 then bodyB (fun v => tag ++ enc v) vals else tag2 ++ vint (bodyB enc vals).length ++ bodyB enc vals
structure EncF (G : Gl) (fv : Value) (nd : Led) (mode : Nat) (tag tag2 : List UInt8) (enc : Nat → List UInt8) (B : Nat → Prop) (k : Nat) : Prop where
  kp : ∀ n, (∀ p ∈ nd, p ∈ n) → KP G n fv
  run : ∀ (wv : Value) (P : Addr) (src : Led) (kw : Nat), Writer G wv P src kw → ∀ (f : Fk) (A : Around) vs n (bs : List (List UInt8 × Tok)) ep (v : Value) vals det E (Q : Value → Vals → Led → Prop), (∀ p ∈ nd, p ∈ n) → (∀ p ∈ nd, p.1 ≠ P) → (∀ p ∈ src, p ∈ n) → (P, Lst (bs.map byVal) ep) ∈ n →
    Rm A (k + kw) → bs.length ≤ 1000 → ArgV n mode vals v → v ≠ .ref P → (∀ x ∈ vals, B x) → vals.length ≤ 100 → (bodyB enc vals).length ≤ 100000 →
    (∀ bs' ep', (bs'.map (·.1)).flatten = dueB mode tag tag2 enc vals → bs'.length ≤ 100000 → Q .none vs (upd n P (Lst ((bs ++ bs').map byVal) ep'))) → Wp G f A (PySem.call fv [wv, v, det]) vs n Q E
def dSE : Stmt := sAt (dBody (sAt pTop 21)) 0
def dSE2 : Stmt := sAt (dBody (sAt (dBody dSE) 0)) 2
def dSE1 : Stmt := sAt (dBody (sAt (dElse (sAt (dBody dSE) 0)) 0)) 1
def dSE0 : Stmt := sAt (dElse (sAt (dElse (sAt (dBody dSE) 0)) 0)) 1
section
variable {G : Gl} {f : Fk} {A : Around} {vs : Vals} {n : Led} {E : Value → Shared → Prop} {Q : Value → Vals → Led → Prop}
theorem se0 (hG : Ok G) {fa c1 c2 : Addr} {o : Obj} {ev : Value} {tag tag2 : List UInt8} {tt : Tok} {k : Nat} {enc : Nat → List UInt8} {B : Nat → Prop} (hc : CloD dSE0 "_SimpleEncoder.<locals>.SpecificEncoder.<locals>.EncodeField" [("tag_bytes", c2), ("encode_value", c1)] .none o) (C : EncV G ev enc B k) :
    EncF G (.ref fa) [(fa, o), (c1, cellObj (some ev)), (c2, cellObj (some (.bytes tag.toArray tt)))] 0 tag tag2 enc B (k + 1) where
  kp := fun n hs => clo_fn (hs _ (.head _)) hc
  run := fun wv P src kw W f A vs n bs ep v vals det E Q hs hnP hsr hP rm hbs ha hvP hB hz hb h => by
    rcases ha with ⟨_, x, t, rfl, rfl⟩ | ⟨h0, _⟩
    · refine Wp.callN (ns := ["write", "value", "deterministic"]) (k := k + kw) (hs _ (.head _)) hc (by rw [show k + kw + 1 = k + 1 + kw by omega]; exact rm) (binds := [("write", wv), ("value", .int x t), ("deterministic", det)]) (fun s _ _ _ _ _ => BindsTo.of_eq (by kernel_rfl)) (by decide +kernel) (by rfl) (fun g2 L2 A2 env2 cc he2 hin hlt2 rm2 => ⟨[("write", .loc 0), ("value", .loc 1), ("deterministic", .loc 2), ("encode_value", .cel c1), ("tag_bytes", .cel c2)], [some wv, some (.int x t), some det], n, ?_, ?_, fun r2 => ?_⟩)
      · rw [hG.K]; subst he2; walk_at "au_slots"
      · walk_at "au_pl"
      · have h1 : (c1, cellObj (some ev)) ∈ n := hs _ (.tail _ (.head _))
        have h2 : (c2, cellObj (some (.bytes tag.toArray tt))) ∈ n := hs _ (.tail _ (.tail _ (.head _)))
        have h1u : ∀ o, (c1, cellObj (some ev)) ∈ upd n P o := fun o => mem_upd_ne h1 (hnP _ (.tail _ (.head _)))
        refine Wp.conE ?_ (hi := by subst_vars; rfl)
        walk_at "aus"
        refine ⟨W.kp _ hsr, W.run _ _ _ _ bs ep tag tt _ _ hsr hP (rm2.le (by omega)) (by omega) ⟨rfl, ?_⟩⟩
        have h1x := h1u (Lst ((bs ++ [(tag, tt)]).map byVal) (ep + 1))
        walk_at "aus"
        refine ⟨C.kp _, C.run wv P src kw W _ _ _ _ (bs ++ [(tag, tt)]) (ep + 1) x t det _ _ (W.src hsr) (mem_upd_self hP) rm2 (by simp; omega) (hB x (.head _)) fun bs' ep' hfl hln => ?_⟩
        rw [upd_upd, List.append_assoc]
        refine ⟨_, fun _ hp => hp, h ([(tag, tt)] ++ bs') ep' ?_ (by simp; omega)⟩
        simp [dueB, bodyB, hfl]
    · omega
theorem bodyB_snoc (enc : Nat → List UInt8) (vals : List Nat) {i : Nat} (h : i < vals.length) : bodyB enc (vals.take (i + 1)) = bodyB enc (vals.take i) ++ enc vals[i] := by
  unfold bodyB
  rw [List.take_add_one, List.getElem?_eq_getElem h]
  simp only [Option.toList_some, List.map_append, List.flatten_append, List.map_cons, List.map_nil, List.flatten_cons, List.flatten_nil, List.append_nil]
theorem se1 (hG : Ok G) {fa c1 c2 : Addr} {o : Obj} {ev : Value} {tag tag2 : List UInt8} {tt : Tok} {k : Nat} {enc : Nat → List UInt8} {B : Nat → Prop} (hc : CloD dSE1 "_SimpleEncoder.<locals>.SpecificEncoder.<locals>.EncodeRepeatedField" [("tag_bytes", c2), ("encode_value", c1)] .none o) (C : EncV G ev enc B k) :
    EncF G (.ref fa) [(fa, o), (c1, cellObj (some ev)), (c2, cellObj (some (.bytes tag.toArray tt)))] 1 tag tag2 enc B (k + 1) where
  kp := fun n hs => clo_fn (hs _ (.head _)) hc
  run := fun wv P src kw W f A vs n bs ep v vals det E Q hs hnP hsr hP rm hbs ha hvP hB hz hb h => by
    rcases ha with ⟨h0, _⟩ | ⟨_, l, ws, el, rfl, hl, hi⟩
    · omega
    have hlP : l ≠ P := fun e => hvP (by rw [e])
    have hwl : ws.length = vals.length := by have := hi.length; rw [List.length_map] at this; exact this
    refine Wp.callN (ns := ["write", "value", "deterministic", "element"]) (k := k + kw) (hs _ (.head _)) hc (by rw [show k + kw + 1 = k + 1 + kw by omega]; exact rm) (binds := [("write", wv), ("value", .ref l), ("deterministic", det)]) (fun s _ _ _ _ _ => BindsTo.of_eq (by kernel_rfl)) (by decide +kernel) (by rfl) (fun g2 L2 A2 env2 cc he2 hin hlt2 rm2 => ⟨[("write", .loc 0), ("value", .loc 1), ("deterministic", .loc 2), ("element", .loc 3), ("encode_value", .cel c1), ("tag_bytes", .cel c2)], [some wv, some (.ref l), some det, none], n, ?_, ?_, fun r2 => ?_⟩)
    · rw [hG.K]; subst he2; walk_at "au_slots"
    · walk_at "au_pl"
    · refine Wp.norm hP (Lst_tm _ _) ?_
      refine Wp.conF (fun i v => ws[i]? = some v) ws.length [(l, Lst ws el)] (fun i vs' n' => ∃ (bs' : List (List UInt8 × Tok)) (ep' : Nat) (o : Option Value), vs' = [some wv, some (.ref l), some det, o] ∧ n' = upd n P (Lst ((bs ++ bs').map byVal) ep') ∧ (bs'.map (·.1)).flatten = bodyB (fun v => tag ++ enc v) (vals.take i) ∧ bs'.length ≤ 101 * i) ?_
      walk_at "aus"
      refine ⟨itr_list rm2.hh (mem_upd_ne hl hlP), ⟨[], ep, none, rfl, by simp, rfl, by simp⟩, ⟨fun i vs' n' ⟨_, _, _, _, e, _⟩ p hp => (by subst e; rw [List.mem_singleton.mp hp]; exact mem_upd_ne hl hlP), fun i vs' n' ⟨_, _, _, _, e, _⟩ => (by subst e; rw [show upd n P _ = upd (upd n P (Lst (bs.map byVal) ep)) P _ from (upd_upd ..).symm]; exact Sub.rfl'.upd)⟩, ?_, ?_⟩
      · rintro it oi i v vs' n' hit _ hi2 hv ⟨bs', ep', o', rfl, rfl, hfl, hln⟩
        obtain ⟨hiv, tv, rfl⟩ := nat_at hi hv
        have hPit : P ≠ it := Nat.ne_of_lt (hit (P, _) (mem_upd_self hP))
        have h1 : ∀ o, (c1, cellObj (some ev)) ∈ upd n P o := fun o => mem_upd_ne (hs _ (.tail _ (.head _))) (hnP _ (.tail _ (.head _)))
        have h2 := mem_upd_ne (o' := Lst ((bs ++ bs').map byVal) ep') (hs (c2, cellObj (some (.bytes tag.toArray tt))) (.tail _ (.tail _ (.head _)))) (hnP (c2, cellObj (some (.bytes tag.toArray tt))) (.tail _ (.tail _ (.head _))))
        walk_at "aus"
        refine ⟨W.kp _ fun p hp => .tail _ (W.src hsr p hp), W.run _ _ _ _ (bs ++ bs') ep' tag tt _ _ (fun p hp => .tail _ (W.src hsr p hp)) (.tail _ (mem_upd_self hP)) (rm2.le (by omega)) (by simp; omega) ⟨rfl, ?_⟩⟩
        rw [upd_cons_ne hPit.symm, upd_upd]
        have h1x := h1 (Lst ((bs ++ bs' ++ [(tag, tt)]).map byVal) (ep' + 1))
        walk_at "aus"
        refine ⟨C.kp _, C.run wv P src kw W _ _ _ _ (bs ++ bs' ++ [(tag, tt)]) (ep' + 1) _ tv det _ _ (fun p hp => .tail _ (W.src hsr p hp)) (.tail _ (mem_upd_self hP)) rm2 (by simp; omega) (hB _ (List.getElem_mem hiv)) fun bs2 ep2 hfl2 hln2 => ⟨rfl, ?_⟩⟩
        walk_at "aus"
        rw [upd_cons_ne hPit.symm, upd_upd, List.append_assoc, List.append_assoc]
        refine ⟨_, fun p hp => hp, bs' ++ ([(tag, tt)] ++ bs2), ep2, _, rfl, rfl, ?_, by simp; omega⟩
        rw [bodyB_snoc _ vals hiv]
        simp [hfl, hfl2]
      · rintro vs' n' ⟨bs', ep', o', rfl, rfl, hfl, hln⟩
        rw [hwl, List.take_length] at hfl
        walk_at "aus"
        exact ⟨_, fun p hp => hp, h bs' ep' hfl (by omega)⟩
theorem se2 (hG : Ok G) {fa c1 c2 c3 c4 : Addr} {o : Obj} {ev cv : Value} {tag tag2 : List UInt8} {tt : Tok} {k : Nat} {enc : Nat → List UInt8} {B : Nat → Prop} (hc : CloD dSE2 "_SimpleEncoder.<locals>.SpecificEncoder.<locals>.EncodePackedField" [("tag_bytes", c2), ("local_EncodeVarint", c3), ("encode_value", c1), ("compute_value_size", c4)] .none o) (C : EncV G ev enc B k) (D : SizeV G cv enc B k) (hk : 1 ≤ k) :
    EncF G (.ref fa) [(fa, o), (c1, cellObj (some ev)), (c2, cellObj (some (.bytes tag2.toArray tt))), (c3, cellObj (some (.ref 135))), (c4, cellObj (some cv))] 2 tag tag2 enc B (k + 1) where
  kp := fun n hs => clo_fn (hs _ (.head _)) hc
  run := fun wv P src kw W f A vs n bs ep v vals det E Q hs hnP hsr hP rm hbs ha hvP hB hz hb h => by
    rcases ha with ⟨h0, _⟩ | ⟨_, l, ws, el, rfl, hl, hi⟩
    · omega
    have hlP : l ≠ P := fun e => hvP (by rw [e])
    have hwl : ws.length = vals.length := by have := hi.length; rw [List.length_map] at this; exact this
    have keep : ∀ p ∈ [(fa, o), (c1, cellObj (some ev)), (c2, cellObj (some (.bytes tag2.toArray tt))), (c3, cellObj (some (.ref 135))), (c4, cellObj (some cv))], ∀ o', p ∈ upd n P o' := fun p hp o' => mem_upd_ne (a := p.1) (o := p.2) (hs p hp) (hnP p hp)
    have k1 : ∀ n, KP G n (.ref 135) := fun _ => .k hG (by rfl) ⟨_, _, _, _, rfl⟩
    refine Wp.callN (ns := ["write", "value", "deterministic", "size", "element"]) (k := k + kw) (hs _ (.head _)) hc (by rw [show k + kw + 1 = k + 1 + kw by omega]; exact rm) (binds := [("write", wv), ("value", .ref l), ("deterministic", det)]) (fun s _ _ _ _ _ => BindsTo.of_eq (by kernel_rfl)) (by decide +kernel) (by rfl) (fun g2 L2 A2 env2 cc he2 hin hlt2 rm2 => ⟨[("write", .loc 0), ("value", .loc 1), ("deterministic", .loc 2), ("size", .loc 3), ("element", .loc 4), ("compute_value_size", .cel c4), ("encode_value", .cel c1), ("local_EncodeVarint", .cel c3), ("tag_bytes", .cel c2)], [some wv, some (.ref l), some det, none, none], n, ?_, ?_, fun r2 => ?_⟩)
    · rw [hG.K]; subst he2; walk_at "au_slots"
    · walk_at "au_pl"
    · have h2 := hs (c2, cellObj (some (.bytes tag2.toArray tt))) (.tail _ (.tail _ (.head _)))
      refine Wp.conE ?_ (hi := by subst_vars; rfl)
      walk_at "aus"
      refine ⟨W.kp _ hsr, W.run _ _ _ _ bs ep tag2 tt _ _ hsr hP (rm2.le (by omega)) (by omega) ⟨rfl, ?_⟩⟩
      walk_at "aus"
      refine Wp.conF (fun i v => ws[i]? = some v) ws.length [(l, Lst ws el)] (fun i vs' n' => ∃ (tr : Tok) (o : Option Value), vs' = [some wv, some (.ref l), some det, some (.int (((bodyB enc (vals.take i)).length : Nat) : Int) tr), o] ∧ n' = upd n P (Lst ((bs ++ [(tag2, tt)]).map byVal) (ep + 1))) ?_
      walk_at "aus"
      refine ⟨itr_list rm2.hh (mem_upd_ne hl hlP), ⟨_, none, rfl, rfl⟩, ⟨fun i vs' n' ⟨_, _, _, e⟩ p hp => (by subst e; rw [List.mem_singleton.mp hp]; exact mem_upd_ne hl hlP), fun i vs' n' ⟨_, _, _, e⟩ => (by subst e; exact Sub.rfl')⟩, ?_, ?_⟩
      · rintro it oi i v vs' n' hit _ hi2 hv ⟨tr, o', rfl, rfl⟩
        obtain ⟨hiv, tv, rfl⟩ := nat_at hi hv
        have h4 := keep _ (.tail _ (.tail _ (.tail _ (.tail _ (.head _))))) (Lst ((bs ++ [(tag2, tt)]).map byVal) (ep + 1))
        walk_at "aus"
        refine ⟨D.kp _, D.run _ _ _ _ _ _ _ _ (rm2.le (by omega)) (hB _ (List.getElem_mem hiv)) fun ts => ?_⟩
        walk_at "aus"
        exact ⟨_, fun p hp => hp, _, _, by rw [bodyB_take enc vals hiv, show (((bodyB enc (vals.take i)).length : Nat) : Int) + ((enc vals[i]).length : Int) = (((bodyB enc (vals.take i)).length + (enc vals[i]).length : Nat) : Int) by push_cast; omega]; rfl, rfl⟩
      · rintro vs' n' ⟨tr, o', rfl, rfl⟩
        rw [hwl, List.take_length]
        have h3 := keep _ (.tail _ (.tail _ (.tail _ (.head _)))) (Lst ((bs ++ [(tag2, tt)]).map byVal) (ep + 1))
        walk_at "aus"
        have hvl := vint_len_le (bodyB enc vals).length (by omega)
        refine ⟨k1 _, encodeVarint hG W (W.src hsr) (mem_upd_self hP) (rm2.le (by omega)) (by simp; omega) (by omega) fun bs2 ep2 hfl2 hln2 => ⟨rfl, ?_⟩⟩
        rw [upd_upd]
        refine Wp.conF (fun i v => ws[i]? = some v) ws.length [(l, Lst ws el)] (fun i vs' n' => ∃ (bs' : List (List UInt8 × Tok)) (ep' : Nat) (o : Option Value) (z : Option Value), vs' = [some wv, some (.ref l), some det, z, o] ∧ n' = upd n P (Lst ((bs ++ [(tag2, tt)] ++ bs2 ++ bs').map byVal) ep') ∧ (bs'.map (·.1)).flatten = bodyB enc (vals.take i) ∧ bs'.length ≤ 100 * i) ?_
        walk_at "aus"
        refine ⟨itr_list rm2.hh (mem_upd_ne hl hlP), ⟨[], ep2, _, _, rfl, by simp, rfl, by simp⟩, ⟨fun i vs' n' ⟨_, _, _, _, _, e, _⟩ p hp => (by subst e; rw [List.mem_singleton.mp hp]; exact mem_upd_ne hl hlP), fun i vs' n' ⟨_, _, _, _, _, e, _⟩ => (by subst e; rw [show upd n P _ = upd (upd n P (Lst ((bs ++ [(tag2, tt)] ++ bs2).map byVal) ep2)) P _ from (upd_upd ..).symm]; exact Sub.rfl'.upd)⟩, ?_, ?_⟩
        · rintro it oi i v vs' n' hit _ hi2 hv ⟨bs', ep', o', z, rfl, rfl, hfl, hln⟩
          obtain ⟨hiv, tv, rfl⟩ := nat_at hi hv
          have hPit : P ≠ it := Nat.ne_of_lt (hit (P, _) (mem_upd_self hP))
          have h1 := keep _ (.tail _ (.head _)) (Lst ((bs ++ [(tag2, tt)] ++ bs2 ++ bs').map byVal) ep')
          walk_at "aus"
          refine ⟨C.kp _, C.run wv P src kw W _ _ _ _ (bs ++ [(tag2, tt)] ++ bs2 ++ bs') ep' _ tv det _ _ (fun p hp => .tail _ (W.src hsr p hp)) (.tail _ (mem_upd_self hP)) rm2 (by simp; omega) (hB _ (List.getElem_mem hiv)) fun bs3 ep3 hfl3 hln3 => ⟨rfl, ?_⟩⟩
          walk_at "aus"
          rw [upd_cons_ne hPit.symm, upd_upd, List.append_assoc (bs ++ [(tag2, tt)] ++ bs2)]
          refine ⟨_, fun p hp => hp, bs' ++ bs3, ep3, _, _, rfl, rfl, ?_, by simp; omega⟩
          rw [bodyB_snoc _ vals hiv]
          simp [hfl, hfl3]
        · rintro vs' n' ⟨bs', ep', o', z, rfl, rfl, hfl, hln⟩
          rw [hwl, List.take_length] at hfl
          walk_at "aus"
          have h' := h ([(tag2, tt)] ++ bs2 ++ bs') ep' (by simp [dueB, hfl, hfl2]) (by simp; omega)
          rw [show bs ++ ([(tag2, tt)] ++ bs2 ++ bs') = bs ++ [(tag2, tt)] ++ bs2 ++ bs' by simp] at h'
          exact ⟨_, fun p hp => hp, h'⟩
end
end

section
set_option maxHeartbeats 4000000
open PySem PySem.Spec PySem.Calls PyProof.Rows PySem.W

/-- what makes encoders of fields -/
structure EncM (G : Gl) (sv : Value) (nd : Led) (wire : Nat) (enc : Nat → List UInt8) (B : Nat → Prop) (k : Nat) : Prop where
  kp : ∀ n, (∀ p ∈ nd, p ∈ n) → KP G n sv
  run : ∀ (f : Fk) (A : Around) vs n (num mode : Nat) t E (Q : Value → Vals → Led → Prop), (∀ p ∈ nd, p ∈ n) → Rm A k → num < 1073741824 → mode ≤ 2 →
    (∀ fv m, (∀ q ∈ m, ∀ p ∈ n, p.1 < q.1) → EncF G fv (m ++ nd) mode (vint (8 * num + wire)) (vint (8 * num + 2)) enc B k → Q fv vs (m ++ n)) → Wp G f A (PySem.call sv [.int num t, .bool (decide (0 < mode)), .bool (decide (mode = 2))]) vs n Q E
theorem EncF.mono {G : Gl} {fv : Value} {nd nd' : Led} {mode : Nat} {tag tag2 : List UInt8} {enc : Nat → List UInt8} {B : Nat → Prop} {k k' : Nat} (F : EncF G fv nd mode tag tag2 enc B k) (hs : ∀ p ∈ nd, p ∈ nd') (hk : k ≤ k') : EncF G fv nd' mode tag tag2 enc B k' where
  kp := fun n h => F.kp n fun p hp => h p (hs p hp)
  run := fun wv P src kw W f A vs n bs ep v vals det E Q h h2 h3 h4 rm => F.run wv P src kw W f A vs n bs ep v vals det E Q (fun p hp => h p (hs p hp)) (fun p hp => h2 p (hs p hp)) h3 h4 (rm.le (by omega))
section
variable {G : Gl} {f : Fk} {A : Around} {vs : Vals} {n : Led} {E : Value → Shared → Prop} {Q : Value → Vals → Led → Prop}
theorem addr_ne {L : Addr} {i j : Nat} (h : i ≠ j) : L + i ≠ L + j := fun e => h (Nat.add_left_cancel e)
/-- three cells of a frame, filled in order -/
theorem upd3 {n : Led} {L : Addr} {a b c : Obj} (hl : ∀ p ∈ n, p.1 < L) : upd (upd (upd ((L + 1, cellObj none) :: (L + 2, cellObj none) :: (L + 3, cellObj none) :: n) (L + 1) a) (L + 2) b) (L + 3) c = (L + 1, a) :: (L + 2, b) :: (L + 3, c) :: n := by
  have lj : ∀ j, 0 < j → ∀ p ∈ n, p.1 ≠ L + j := fun j hj p hp => Nat.ne_of_lt (Nat.lt_trans (hl p hp) (Nat.lt_add_of_pos_right hj))
  rw [upd_cons, upd_cons_ne (by simp : L + 2 ≠ L + 1), upd_cons_ne (by simp : L + 3 ≠ L + 1), upd_id (lj 1 (by decide)), upd_cons_ne (by simp : L + 1 ≠ L + 2), upd_cons, upd_cons_ne (by simp : L + 3 ≠ L + 2), upd_id (lj 2 (by decide)),
    upd_cons_ne (by simp : L + 1 ≠ L + 3), upd_cons_ne (by simp : L + 2 ≠ L + 3), upd_cons, upd_id (lj 3 (by decide))]
theorem simpleEncoder (hG : Ok G) (rm : Rm A 1) {wv ev cv : Value} (h : ∀ fa cw ce cc o, CloD dSE "_SimpleEncoder.<locals>.SpecificEncoder" [("wire_type", cw), ("encode_value", ce), ("compute_value_size", cc)] .none o → (∀ p ∈ n, p.1 < cw ∧ p.1 < ce ∧ p.1 < cc ∧ p.1 < fa) → Q (.ref fa) vs ((fa, o) :: (cw, cellObj (some wv)) :: (ce, cellObj (some ev)) :: (cc, cellObj (some cv)) :: n)) :
    Wp G f A (PySem.call (.ref 156) [wv, ev, cv]) vs n Q E := by
  refine Wp.callK hG (ns := ["SpecificEncoder"]) rm (by rfl) (by kernel_rfl) (fun s _ => BindsTo.of_eq (by rfl)) (by decide +kernel) (by rfl) (fun g L A' env he hlt rm' => ⟨[("wire_type", .cel (L + 1)), ("encode_value", .cel (L + 2)), ("compute_value_size", .cel (L + 3)), ("SpecificEncoder", .loc 0)], [none], upd (upd (upd ((L + 1, cellObj none) :: (L + 2, cellObj none) :: (L + 3, cellObj none) :: n) (L + 1) (cellObj (some wv))) (L + 2) (cellObj (some ev))) (L + 3) (cellObj (some cv)), ?_, ?_, fun r => ?_⟩)
  · subst he; walk_at "au_slots"
  · exact .cel (by subst he; kernel_rfl) (by walk_at "au_m") (.head _) (.cel (by subst he; kernel_rfl) (by walk_at "au_m") (mem_upd_ne (.tail _ (.head _)) (addr_ne (i := 2) (j := 1) (by decide))) (.cel (by subst he; kernel_rfl) (by walk_at "au_m") (mem_upd_ne (mem_upd_ne (.tail _ (.tail _ (.head _))) (addr_ne (i := 3) (j := 1) (by decide))) (addr_ne (i := 3) (j := 2) (by decide))) .nil))
  · rw [upd3 hlt]
    refine Wp.cons (Wp.fdef0 (by subst he; rfl) (by subst he; rfl) (by subst he; rfl) (.inl (by rw [hG.codes]; simp)) (by subst he; rfl) (by rw [hG.q]; rfl) rfl rfl (by rfl) fun fa o hc hl => ?_)
    walk_at "aus"
    exact ⟨_, fun p hp => hp, h fa (L + 1) (L + 2) (L + 3) o hc (fun p hp => ⟨Nat.lt_trans (hlt p hp) (by simp), Nat.lt_trans (hlt p hp) (by simp), Nat.lt_trans (hlt p hp) (by simp), hl p (.tail _ (.tail _ (.tail _ hp)))⟩)⟩
theorem fresh3 {n : Led} {L fb : Addr} {a b c : Obj} (h : ∀ p ∈ n, p.1 < L) (hb : ∀ p ∈ n, p.1 < fb) : ∀ q ∈ [(fb, a), (L + 1, b), (L + 2, c)], ∀ p ∈ n, p.1 < q.1 := fun q hq p hp => by
  have h1 := h p hp
  have h2 := hb p hp
  simp only [List.mem_cons, List.not_mem_nil, or_false] at hq
  rcases hq with rfl | rfl | rfl
  · exact h2
  · exact Nat.lt_trans h1 (by simp)
  · exact Nat.lt_trans h1 (by simp)
theorem specificEncoder (hG : Ok G) {fa cw ce cc : Addr} {o : Obj} {ev cv : Value} {wire : Nat} {tw : Tok} {k : Nat} {enc : Nat → List UInt8} {B : Nat → Prop} (hw : wire ≤ 5) (hc : CloD dSE "_SimpleEncoder.<locals>.SpecificEncoder" [("wire_type", cw), ("encode_value", ce), ("compute_value_size", cc)] .none o) (C : EncV G ev enc B k) (D : SizeV G cv enc B k) (hk : 1 ≤ k) :
    EncM G (.ref fa) [(fa, o), (cw, cellObj (some (.int wire tw))), (ce, cellObj (some ev)), (cc, cellObj (some cv))] wire enc B (k + 5) where
  kp := fun n hs => clo_fn (hs _ (.head _)) hc
  run := fun f A vs n num mode t E Q hs rm hnum hmode h => by
    refine Wp.callN (ns := ["field_number", "is_repeated", "is_packed", "EncodePackedField", "EncodeRepeatedField", "EncodeField"]) (hs _ (.head _)) hc rm (binds := [("field_number", .int num t), ("is_repeated", .bool (decide (0 < mode))), ("is_packed", .bool (decide (mode = 2)))]) (fun s _ _ _ _ _ => BindsTo.of_eq (by kernel_rfl)) (by decide +kernel) (by rfl)
      (fun g2 L A2 env2 cx he2 hin hlt2 rm2 => ⟨[("field_number", .loc 0), ("is_repeated", .loc 1), ("is_packed", .loc 2), ("EncodePackedField", .loc 3), ("EncodeRepeatedField", .loc 4), ("EncodeField", .loc 5), ("local_EncodeVarint", .cel (L + 1)), ("tag_bytes", .cel (L + 2)), ("compute_value_size", .cel cc), ("encode_value", .cel ce), ("wire_type", .cel cw), ("TagBytes", .glo (.ref 149)), ("WIRETYPE_LENGTH_DELIMITED", .glo (.int 2 291)), ("_EncodeVarint", .glo (.ref 135))],
        [some (.int num t), some (.bool (decide (0 < mode))), some (.bool (decide (mode = 2))), none, none, none], (L + 1, cellObj none) :: (L + 2, cellObj none) :: n, ?_, ?_, fun r2 => ?_⟩)
    · rw [hG.K]; subst he2; walk_at "au_slots"
    · walk_at "au_pl"
    · have hin' : ∀ x y, CodeIn G (x :: y :: n) cx := fun x y => hin.elim .inl fun ⟨a, b, c, d, e, hm, hq⟩ => .inr ⟨a, b, c, d, e, .tail _ (.tail _ hm), hq⟩
      have k1 : ∀ n, KP G n (.ref 149) := fun _ => .k hG (by rfl) ⟨_, _, _, _, rfl⟩
      have hcw : (cw, cellObj (some (.int wire tw))) ∈ n := hs _ (.tail _ (.head _))
      refine Wp.conI ?_
      walk_at "aus"
      refine iB (fun hm2 => ?_) (fun hm2 => ?_)
      · subst hm2
        walk_at "aus"
        refine ⟨k1 _, tagBytes hG (rm2.le (by omega)) (wire := 2) (by omega) (by decide) fun tz => ?_⟩
        walk_at "aus"
        rw [upd_cons_ne (by simp : L + 1 ≠ L + 2), upd_cons, upd_id fun p hp => Nat.ne_of_lt (Nat.lt_trans (hlt2 p hp) (by simp))]
        walk_at "aus"
        rw [upd_cons, upd_cons_ne (by simp : L + 2 ≠ L + 1), upd_id fun p hp => Nat.ne_of_lt (Nat.lt_trans (hlt2 p hp) (by simp))]
        refine Wp.cons (Wp.fdef0 (qual := "_SimpleEncoder.<locals>.SpecificEncoder.<locals>.EncodePackedField") (by subst he2; rfl) (by subst he2; rfl) (by subst he2; rfl) (hin' _ _) (by subst he2; rfl) (by rw [hG.q]; rfl) rfl rfl (by rfl) fun fb ob hcb hlb => ?_)
        walk_at "aus"
        have F := se2 hG hcb C D hk (fa := fb) (tag := vint (8 * num + wire)) (tt := tz) (tag2 := vint (8 * num + 2))
        exact ⟨_, fun p hp => hp, h _ [(fb, ob), (L + 1, _), (L + 2, _)] (fresh3 hlt2 fun p hp => hlb p (.tail _ (.tail _ hp))) (F.mono (by simp) (by omega))⟩
      · walk_at "aus"
        refine iB (fun hm1 => ?_) (fun hm1 => ?_)
        · have : mode = 1 := by omega
          subst this
          walk_at "aus"
          refine ⟨k1 _, tagBytes hG (rm2.le (by omega)) (wire := wire) (by omega) hw fun tz => ?_⟩
          walk_at "aus"
          rw [upd_cons_ne (by simp : L + 1 ≠ L + 2), upd_cons, upd_id fun p hp => Nat.ne_of_lt (Nat.lt_trans (hlt2 p hp) (by simp))]
          refine Wp.cons (Wp.fdef0 (qual := "_SimpleEncoder.<locals>.SpecificEncoder.<locals>.EncodeRepeatedField") (by subst he2; rfl) (by subst he2; rfl) (by subst he2; rfl) (hin' _ _) (by subst he2; rfl) (by rw [hG.q]; rfl) rfl rfl (by rfl) fun fb ob hcb hlb => ?_)
          walk_at "aus"
          have F := se1 hG hcb C (fa := fb) (tag := vint (8 * num + wire)) (tt := tz) (tag2 := vint (8 * num + 2))
          exact ⟨_, fun p hp => hp, h _ [(fb, ob), (L + 1, _), (L + 2, _)] (fresh3 hlt2 fun p hp => hlb p (.tail _ (.tail _ hp))) (F.mono (by simp) (by omega))⟩
        · have : mode = 0 := by omega
          subst this
          walk_at "aus"
          refine ⟨k1 _, tagBytes hG (rm2.le (by omega)) (wire := wire) (by omega) hw fun tz => ?_⟩
          walk_at "aus"
          rw [upd_cons_ne (by simp : L + 1 ≠ L + 2), upd_cons, upd_id fun p hp => Nat.ne_of_lt (Nat.lt_trans (hlt2 p hp) (by simp))]
          refine Wp.cons (Wp.fdef0 (qual := "_SimpleEncoder.<locals>.SpecificEncoder.<locals>.EncodeField") (by subst he2; rfl) (by subst he2; rfl) (by subst he2; rfl) (hin' _ _) (by subst he2; rfl) (by rw [hG.q]; rfl) rfl rfl (by rfl) fun fb ob hcb hlb => ?_)
          walk_at "aus"
          have F := se0 hG hcb C (fa := fb) (tag := vint (8 * num + wire)) (tt := tz) (tag2 := vint (8 * num + 2))
          exact ⟨_, fun p hp => hp, h _ [(fb, ob), (L + 1, _), (L + 2, _)] (fresh3 hlt2 fun p hp => hlb p (.tail _ (.tail _ hp))) (F.mono (by simp) (by omega))⟩
end
end

section
set_option maxHeartbeats 4000000
open PySem PySem.Spec PySem.Calls PyProof.Rows PySem.W

def dME : Stmt := sAt (dBody (sAt pTop 22)) 0
def dME2 : Stmt := sAt (dBody (sAt (dBody dME) 0)) 2
def dME1 : Stmt := sAt (dBody (sAt (dElse (sAt (dBody dME) 0)) 0)) 1
def dME0 : Stmt := sAt (dElse (sAt (dElse (sAt (dBody dME) 0)) 0)) 1
section
variable {G : Gl} {f : Fk} {A : Around} {vs : Vals} {n : Led} {E : Value → Shared → Prop} {Q : Value → Vals → Led → Prop}
theorem me0 (hG : Ok G) {fa c1 c2 : Addr} {o : Obj} {ev : Value} {tag tag2 : List UInt8} {tt : Tok} {k : Nat} {enc : Nat → List UInt8} {B : Nat → Prop} {mv : Value} {c5 : Addr} {md : Nat → Nat} {B2 : Nat → Prop} {ec : Nat → List UInt8} (hc : CloD dME0 "_ModifiedEncoder.<locals>.SpecificEncoder.<locals>.EncodeField" [("tag_bytes", c2), ("modify_value", c5), ("encode_value", c1)] .none o) (C : EncV G ev ec B2 k) (M : ModV G mv md B k) (hmd : ∀ v, B v → B2 (md v)) (hen : ∀ v, enc v = ec (md v)) :
    EncF G (.ref fa) [(fa, o), (c1, cellObj (some ev)), (c2, cellObj (some (.bytes tag.toArray tt))), (c5, cellObj (some mv))] 0 tag tag2 enc B (k + 1) where
  kp := fun n hs => clo_fn (hs _ (.head _)) hc
  run := fun wv P src kw W f A vs n bs ep v vals det E Q hs hnP hsr hP rm hbs ha hvP hB hz hb h => by
    rcases ha with ⟨_, x, t, rfl, rfl⟩ | ⟨h0, _⟩
    · refine Wp.callN (ns := ["write", "value", "deterministic"]) (k := k + kw) (hs _ (.head _)) hc (by rw [show k + kw + 1 = k + 1 + kw by omega]; exact rm) (binds := [("write", wv), ("value", .int x t), ("deterministic", det)]) (fun s _ _ _ _ _ => BindsTo.of_eq (by kernel_rfl)) (by decide +kernel) (by rfl) (fun g2 L2 A2 env2 cc he2 hin hlt2 rm2 => ⟨[("write", .loc 0), ("value", .loc 1), ("deterministic", .loc 2), ("encode_value", .cel c1), ("modify_value", .cel c5), ("tag_bytes", .cel c2)], [some wv, some (.int x t), some det], n, ?_, ?_, fun r2 => ?_⟩)
      · rw [hG.K]; subst he2; walk_at "au_slots"
      · walk_at "au_pl"
      · have h1 : (c1, cellObj (some ev)) ∈ n := hs _ (.tail _ (.head _))
        have h2 : (c2, cellObj (some (.bytes tag.toArray tt))) ∈ n := hs _ (.tail _ (.tail _ (.head _)))
        have h1u : ∀ o, (c1, cellObj (some ev)) ∈ upd n P o := fun o => mem_upd_ne h1 (hnP _ (.tail _ (.head _)))
        refine Wp.conE ?_ (hi := by subst_vars; rfl)
        walk_at "aus"
        refine ⟨W.kp _ hsr, W.run _ _ _ _ bs ep tag tt _ _ hsr hP (rm2.le (by omega)) (by omega) ⟨rfl, ?_⟩⟩
        have h1x := h1u (Lst ((bs ++ [(tag, tt)]).map byVal) (ep + 1))
        have h5x := mem_upd_ne (o' := Lst ((bs ++ [(tag, tt)]).map byVal) (ep + 1)) (hs (c5, cellObj (some mv)) (.tail _ (.tail _ (.tail _ (.head _))))) (hnP (c5, cellObj (some mv)) (.tail _ (.tail _ (.tail _ (.head _)))))
        walk_at "aus"
        refine ⟨M.kp _, M.run _ _ _ _ x t _ _ (rm2.le (by omega)) (hB x (.head _)) fun tm => ?_⟩
        walk_at "aus"
        refine ⟨C.kp _, C.run wv P src kw W _ _ _ _ (bs ++ [(tag, tt)]) (ep + 1) (md x) tm det _ _ (W.src hsr) (mem_upd_self hP) rm2 (by simp; omega) (hmd x (hB x (.head _))) fun bs' ep' hfl hln => ?_⟩
        rw [← hen] at hfl
        rw [upd_upd, List.append_assoc]
        refine ⟨_, fun _ hp => hp, h ([(tag, tt)] ++ bs') ep' ?_ (by simp; omega)⟩
        simp [dueB, bodyB, hfl]
    · omega
theorem me1 (hG : Ok G) {fa c1 c2 : Addr} {o : Obj} {ev : Value} {tag tag2 : List UInt8} {tt : Tok} {k : Nat} {enc : Nat → List UInt8} {B : Nat → Prop} {mv : Value} {c5 : Addr} {md : Nat → Nat} {B2 : Nat → Prop} {ec : Nat → List UInt8} (hc : CloD dME1 "_ModifiedEncoder.<locals>.SpecificEncoder.<locals>.EncodeRepeatedField" [("tag_bytes", c2), ("modify_value", c5), ("encode_value", c1)] .none o) (C : EncV G ev ec B2 k) (M : ModV G mv md B k) (hmd : ∀ v, B v → B2 (md v)) (hen : ∀ v, enc v = ec (md v)) :
    EncF G (.ref fa) [(fa, o), (c1, cellObj (some ev)), (c2, cellObj (some (.bytes tag.toArray tt))), (c5, cellObj (some mv))] 1 tag tag2 enc B (k + 1) where
  kp := fun n hs => clo_fn (hs _ (.head _)) hc
  run := fun wv P src kw W f A vs n bs ep v vals det E Q hs hnP hsr hP rm hbs ha hvP hB hz hb h => by
    rcases ha with ⟨h0, _⟩ | ⟨_, l, ws, el, rfl, hl, hi⟩
    · omega
    have hlP : l ≠ P := fun e => hvP (by rw [e])
    have hwl : ws.length = vals.length := by have := hi.length; rw [List.length_map] at this; exact this
    refine Wp.callN (ns := ["write", "value", "deterministic", "element"]) (k := k + kw) (hs _ (.head _)) hc (by rw [show k + kw + 1 = k + 1 + kw by omega]; exact rm) (binds := [("write", wv), ("value", .ref l), ("deterministic", det)]) (fun s _ _ _ _ _ => BindsTo.of_eq (by kernel_rfl)) (by decide +kernel) (by rfl) (fun g2 L2 A2 env2 cc he2 hin hlt2 rm2 => ⟨[("write", .loc 0), ("value", .loc 1), ("deterministic", .loc 2), ("element", .loc 3), ("encode_value", .cel c1), ("modify_value", .cel c5), ("tag_bytes", .cel c2)], [some wv, some (.ref l), some det, none], n, ?_, ?_, fun r2 => ?_⟩)
    · rw [hG.K]; subst he2; walk_at "au_slots"
    · walk_at "au_pl"
    · refine Wp.norm hP (Lst_tm _ _) ?_
      refine Wp.conF (fun i v => ws[i]? = some v) ws.length [(l, Lst ws el)] (fun i vs' n' => ∃ (bs' : List (List UInt8 × Tok)) (ep' : Nat) (o : Option Value), vs' = [some wv, some (.ref l), some det, o] ∧ n' = upd n P (Lst ((bs ++ bs').map byVal) ep') ∧ (bs'.map (·.1)).flatten = bodyB (fun v => tag ++ enc v) (vals.take i) ∧ bs'.length ≤ 101 * i) ?_
      walk_at "aus"
      refine ⟨itr_list rm2.hh (mem_upd_ne hl hlP), ⟨[], ep, none, rfl, by simp, rfl, by simp⟩, ⟨fun i vs' n' ⟨_, _, _, _, e, _⟩ p hp => (by subst e; rw [List.mem_singleton.mp hp]; exact mem_upd_ne hl hlP), fun i vs' n' ⟨_, _, _, _, e, _⟩ => (by subst e; rw [show upd n P _ = upd (upd n P (Lst (bs.map byVal) ep)) P _ from (upd_upd ..).symm]; exact Sub.rfl'.upd)⟩, ?_, ?_⟩
      · rintro it oi i v vs' n' hit _ hi2 hv ⟨bs', ep', o', rfl, rfl, hfl, hln⟩
        obtain ⟨hiv, tv, rfl⟩ := nat_at hi hv
        have hPit : P ≠ it := Nat.ne_of_lt (hit (P, _) (mem_upd_self hP))
        have h1 : ∀ o, (c1, cellObj (some ev)) ∈ upd n P o := fun o => mem_upd_ne (hs _ (.tail _ (.head _))) (hnP _ (.tail _ (.head _)))
        have h2 := mem_upd_ne (o' := Lst ((bs ++ bs').map byVal) ep') (hs (c2, cellObj (some (.bytes tag.toArray tt))) (.tail _ (.tail _ (.head _)))) (hnP (c2, cellObj (some (.bytes tag.toArray tt))) (.tail _ (.tail _ (.head _))))
        walk_at "aus"
        refine ⟨W.kp _ fun p hp => .tail _ (W.src hsr p hp), W.run _ _ _ _ (bs ++ bs') ep' tag tt _ _ (fun p hp => .tail _ (W.src hsr p hp)) (.tail _ (mem_upd_self hP)) (rm2.le (by omega)) (by simp; omega) ⟨rfl, ?_⟩⟩
        rw [upd_cons_ne hPit.symm, upd_upd]
        have h1x := h1 (Lst ((bs ++ bs' ++ [(tag, tt)]).map byVal) (ep' + 1))
        have h5x := mem_upd_ne (o' := Lst ((bs ++ bs' ++ [(tag, tt)]).map byVal) (ep' + 1)) (hs (c5, cellObj (some mv)) (.tail _ (.tail _ (.tail _ (.head _))))) (hnP (c5, cellObj (some mv)) (.tail _ (.tail _ (.tail _ (.head _)))))
        walk_at "aus"
        refine ⟨M.kp _, M.run _ _ _ _ _ tv _ _ (rm2.le (by omega)) (hB _ (List.getElem_mem hiv)) fun tm => ?_⟩
        walk_at "aus"
        refine ⟨C.kp _, C.run wv P src kw W _ _ _ _ (bs ++ bs' ++ [(tag, tt)]) (ep' + 1) _ tm det _ _ (fun p hp => .tail _ (W.src hsr p hp)) (.tail _ (mem_upd_self hP)) rm2 (by simp; omega) (hmd _ (hB _ (List.getElem_mem hiv))) fun bs2 ep2 hfl2 hln2 => ⟨rfl, ?_⟩⟩
        rw [← hen] at hfl2
        walk_at "aus"
        rw [upd_cons_ne hPit.symm, upd_upd, List.append_assoc, List.append_assoc]
        refine ⟨_, fun p hp => hp, bs' ++ ([(tag, tt)] ++ bs2), ep2, _, rfl, rfl, ?_, by simp; omega⟩
        rw [bodyB_snoc _ vals hiv]
        simp [hfl, hfl2]
      · rintro vs' n' ⟨bs', ep', o', rfl, rfl, hfl, hln⟩
        rw [hwl, List.take_length] at hfl
        walk_at "aus"
        exact ⟨_, fun p hp => hp, h bs' ep' hfl (by omega)⟩
theorem me2 (hG : Ok G) {fa c1 c2 c3 c4 : Addr} {o : Obj} {ev cv : Value} {tag tag2 : List UInt8} {tt : Tok} {k : Nat} {enc : Nat → List UInt8} {B : Nat → Prop} {mv : Value} {c5 : Addr} {md : Nat → Nat} {B2 : Nat → Prop} {ec : Nat → List UInt8} (hc : CloD dME2 "_ModifiedEncoder.<locals>.SpecificEncoder.<locals>.EncodePackedField" [("tag_bytes", c2), ("modify_value", c5), ("local_EncodeVarint", c3), ("encode_value", c1), ("compute_value_size", c4)] .none o) (C : EncV G ev ec B2 k) (D : SizeV G cv ec B2 k) (M : ModV G mv md B k) (hmd : ∀ v, B v → B2 (md v)) (hen : ∀ v, enc v = ec (md v)) (hk : 1 ≤ k) :
    EncF G (.ref fa) [(fa, o), (c1, cellObj (some ev)), (c2, cellObj (some (.bytes tag2.toArray tt))), (c3, cellObj (some (.ref 135))), (c4, cellObj (some cv)), (c5, cellObj (some mv))] 2 tag tag2 enc B (k + 1) where
  kp := fun n hs => clo_fn (hs _ (.head _)) hc
  run := fun wv P src kw W f A vs n bs ep v vals det E Q hs hnP hsr hP rm hbs ha hvP hB hz hb h => by
    rcases ha with ⟨h0, _⟩ | ⟨_, l, ws, el, rfl, hl, hi⟩
    · omega
    have hlP : l ≠ P := fun e => hvP (by rw [e])
    have hwl : ws.length = vals.length := by have := hi.length; rw [List.length_map] at this; exact this
    have keep : ∀ p ∈ [(fa, o), (c1, cellObj (some ev)), (c2, cellObj (some (.bytes tag2.toArray tt))), (c3, cellObj (some (.ref 135))), (c4, cellObj (some cv)), (c5, cellObj (some mv))], ∀ o', p ∈ upd n P o' := fun p hp o' => mem_upd_ne (a := p.1) (o := p.2) (hs p hp) (hnP p hp)
    have k1 : ∀ n, KP G n (.ref 135) := fun _ => .k hG (by rfl) ⟨_, _, _, _, rfl⟩
    refine Wp.callN (ns := ["write", "value", "deterministic", "size", "element"]) (k := k + kw) (hs _ (.head _)) hc (by rw [show k + kw + 1 = k + 1 + kw by omega]; exact rm) (binds := [("write", wv), ("value", .ref l), ("deterministic", det)]) (fun s _ _ _ _ _ => BindsTo.of_eq (by kernel_rfl)) (by decide +kernel) (by rfl) (fun g2 L2 A2 env2 cc he2 hin hlt2 rm2 => ⟨[("write", .loc 0), ("value", .loc 1), ("deterministic", .loc 2), ("size", .loc 3), ("element", .loc 4), ("compute_value_size", .cel c4), ("encode_value", .cel c1), ("local_EncodeVarint", .cel c3), ("modify_value", .cel c5), ("tag_bytes", .cel c2)], [some wv, some (.ref l), some det, none, none], n, ?_, ?_, fun r2 => ?_⟩)
    · rw [hG.K]; subst he2; walk_at "au_slots"
    · walk_at "au_pl"
    · have h2 := hs (c2, cellObj (some (.bytes tag2.toArray tt))) (.tail _ (.tail _ (.head _)))
      refine Wp.conE ?_ (hi := by subst_vars; rfl)
      walk_at "aus"
      refine ⟨W.kp _ hsr, W.run _ _ _ _ bs ep tag2 tt _ _ hsr hP (rm2.le (by omega)) (by omega) ⟨rfl, ?_⟩⟩
      walk_at "aus"
      refine Wp.conF (fun i v => ws[i]? = some v) ws.length [(l, Lst ws el)] (fun i vs' n' => ∃ (tr : Tok) (o : Option Value), vs' = [some wv, some (.ref l), some det, some (.int (((bodyB enc (vals.take i)).length : Nat) : Int) tr), o] ∧ n' = upd n P (Lst ((bs ++ [(tag2, tt)]).map byVal) (ep + 1))) ?_
      walk_at "aus"
      refine ⟨itr_list rm2.hh (mem_upd_ne hl hlP), ⟨_, none, rfl, rfl⟩, ⟨fun i vs' n' ⟨_, _, _, e⟩ p hp => (by subst e; rw [List.mem_singleton.mp hp]; exact mem_upd_ne hl hlP), fun i vs' n' ⟨_, _, _, e⟩ => (by subst e; exact Sub.rfl')⟩, ?_, ?_⟩
      · rintro it oi i v vs' n' hit _ hi2 hv ⟨tr, o', rfl, rfl⟩
        obtain ⟨hiv, tv, rfl⟩ := nat_at hi hv
        have h4 := keep _ (.tail _ (.tail _ (.tail _ (.tail _ (.head _))))) (Lst ((bs ++ [(tag2, tt)]).map byVal) (ep + 1))
        have h5 := keep _ (.tail _ (.tail _ (.tail _ (.tail _ (.tail _ (.head _)))))) (Lst ((bs ++ [(tag2, tt)]).map byVal) (ep + 1))
        walk_at "aus"
        refine ⟨M.kp _, M.run _ _ _ _ _ tv _ _ (rm2.le (by omega)) (hB _ (List.getElem_mem hiv)) fun tm => ?_⟩
        walk_at "aus"
        refine ⟨D.kp _, D.run _ _ _ _ _ _ _ _ (rm2.le (by omega)) (hmd _ (hB _ (List.getElem_mem hiv))) fun ts => ?_⟩
        rw [← hen]
        walk_at "aus"
        exact ⟨_, fun p hp => hp, _, _, by rw [bodyB_take enc vals hiv, show (((bodyB enc (vals.take i)).length : Nat) : Int) + ((enc vals[i]).length : Int) = (((bodyB enc (vals.take i)).length + (enc vals[i]).length : Nat) : Int) by push_cast; omega]; rfl, rfl⟩
      · rintro vs' n' ⟨tr, o', rfl, rfl⟩
        rw [hwl, List.take_length]
        have h3 := keep _ (.tail _ (.tail _ (.tail _ (.head _)))) (Lst ((bs ++ [(tag2, tt)]).map byVal) (ep + 1))
        walk_at "aus"
        have hvl := vint_len_le (bodyB enc vals).length (by omega)
        refine ⟨k1 _, encodeVarint hG W (W.src hsr) (mem_upd_self hP) (rm2.le (by omega)) (by simp; omega) (by omega) fun bs2 ep2 hfl2 hln2 => ⟨rfl, ?_⟩⟩
        rw [upd_upd]
        refine Wp.conF (fun i v => ws[i]? = some v) ws.length [(l, Lst ws el)] (fun i vs' n' => ∃ (bs' : List (List UInt8 × Tok)) (ep' : Nat) (o : Option Value) (z : Option Value), vs' = [some wv, some (.ref l), some det, z, o] ∧ n' = upd n P (Lst ((bs ++ [(tag2, tt)] ++ bs2 ++ bs').map byVal) ep') ∧ (bs'.map (·.1)).flatten = bodyB enc (vals.take i) ∧ bs'.length ≤ 100 * i) ?_
        walk_at "aus"
        refine ⟨itr_list rm2.hh (mem_upd_ne hl hlP), ⟨[], ep2, _, _, rfl, by simp, rfl, by simp⟩, ⟨fun i vs' n' ⟨_, _, _, _, _, e, _⟩ p hp => (by subst e; rw [List.mem_singleton.mp hp]; exact mem_upd_ne hl hlP), fun i vs' n' ⟨_, _, _, _, _, e, _⟩ => (by subst e; rw [show upd n P _ = upd (upd n P (Lst ((bs ++ [(tag2, tt)] ++ bs2).map byVal) ep2)) P _ from (upd_upd ..).symm]; exact Sub.rfl'.upd)⟩, ?_, ?_⟩
        · rintro it oi i v vs' n' hit _ hi2 hv ⟨bs', ep', o', z, rfl, rfl, hfl, hln⟩
          obtain ⟨hiv, tv, rfl⟩ := nat_at hi hv
          have hPit : P ≠ it := Nat.ne_of_lt (hit (P, _) (mem_upd_self hP))
          have h1 := keep _ (.tail _ (.head _)) (Lst ((bs ++ [(tag2, tt)] ++ bs2 ++ bs').map byVal) ep')
          have h5 := keep _ (.tail _ (.tail _ (.tail _ (.tail _ (.tail _ (.head _)))))) (Lst ((bs ++ [(tag2, tt)] ++ bs2 ++ bs').map byVal) ep')
          walk_at "aus"
          refine ⟨M.kp _, M.run _ _ _ _ _ tv _ _ (rm2.le (by omega)) (hB _ (List.getElem_mem hiv)) fun tm => ?_⟩
          walk_at "aus"
          refine ⟨C.kp _, C.run wv P src kw W _ _ _ _ (bs ++ [(tag2, tt)] ++ bs2 ++ bs') ep' _ tm det _ _ (fun p hp => .tail _ (W.src hsr p hp)) (.tail _ (mem_upd_self hP)) rm2 (by simp; omega) (hmd _ (hB _ (List.getElem_mem hiv))) fun bs3 ep3 hfl3 hln3 => ⟨rfl, ?_⟩⟩
          rw [← hen] at hfl3
          walk_at "aus"
          rw [upd_cons_ne hPit.symm, upd_upd, List.append_assoc (bs ++ [(tag2, tt)] ++ bs2)]
          refine ⟨_, fun p hp => hp, bs' ++ bs3, ep3, _, _, rfl, rfl, ?_, by simp; omega⟩
          rw [bodyB_snoc _ vals hiv]
          simp [hfl, hfl3]
        · rintro vs' n' ⟨bs', ep', o', z, rfl, rfl, hfl, hln⟩
          rw [hwl, List.take_length] at hfl
          walk_at "aus"
          have h' := h ([(tag2, tt)] ++ bs2 ++ bs') ep' (by simp [dueB, hfl, hfl2]) (by simp; omega)
          rw [show bs ++ ([(tag2, tt)] ++ bs2 ++ bs') = bs ++ [(tag2, tt)] ++ bs2 ++ bs' by simp] at h'
          exact ⟨_, fun p hp => hp, h'⟩
theorem specificMEncoder (hG : Ok G) {fa cw ce cc : Addr} {o : Obj} {ev cv : Value} {wire : Nat} {tw : Tok} {k : Nat} {enc : Nat → List UInt8} {B : Nat → Prop} {mv : Value} {cm : Addr} {md : Nat → Nat} {B2 : Nat → Prop} {ec : Nat → List UInt8} (hw : wire ≤ 5) (hc : CloD dME "_ModifiedEncoder.<locals>.SpecificEncoder" [("wire_type", cw), ("modify_value", cm), ("encode_value", ce), ("compute_value_size", cc)] .none o) (C : EncV G ev ec B2 k) (D : SizeV G cv ec B2 k) (M : ModV G mv md B k) (hmd : ∀ v, B v → B2 (md v)) (hen : ∀ v, enc v = ec (md v)) (hk : 1 ≤ k) :
    EncM G (.ref fa) [(fa, o), (cw, cellObj (some (.int wire tw))), (ce, cellObj (some ev)), (cc, cellObj (some cv)), (cm, cellObj (some mv))] wire enc B (k + 5) where
  kp := fun n hs => clo_fn (hs _ (.head _)) hc
  run := fun f A vs n num mode t E Q hs rm hnum hmode h => by
    refine Wp.callN (ns := ["field_number", "is_repeated", "is_packed", "EncodePackedField", "EncodeRepeatedField", "EncodeField"]) (hs _ (.head _)) hc rm (binds := [("field_number", .int num t), ("is_repeated", .bool (decide (0 < mode))), ("is_packed", .bool (decide (mode = 2)))]) (fun s _ _ _ _ _ => BindsTo.of_eq (by kernel_rfl)) (by decide +kernel) (by rfl)
      (fun g2 L A2 env2 cx he2 hin hlt2 rm2 => ⟨[("field_number", .loc 0), ("is_repeated", .loc 1), ("is_packed", .loc 2), ("EncodePackedField", .loc 3), ("EncodeRepeatedField", .loc 4), ("EncodeField", .loc 5), ("local_EncodeVarint", .cel (L + 1)), ("tag_bytes", .cel (L + 2)), ("compute_value_size", .cel cc), ("encode_value", .cel ce), ("modify_value", .cel cm), ("wire_type", .cel cw), ("TagBytes", .glo (.ref 149)), ("WIRETYPE_LENGTH_DELIMITED", .glo (.int 2 291)), ("_EncodeVarint", .glo (.ref 135))],
        [some (.int num t), some (.bool (decide (0 < mode))), some (.bool (decide (mode = 2))), none, none, none], (L + 1, cellObj none) :: (L + 2, cellObj none) :: n, ?_, ?_, fun r2 => ?_⟩)
    · rw [hG.K]; subst he2; walk_at "au_slots"
    · walk_at "au_pl"
    · have hin' : ∀ x y, CodeIn G (x :: y :: n) cx := fun x y => hin.elim .inl fun ⟨a, b, c, d, e, hm, hq⟩ => .inr ⟨a, b, c, d, e, .tail _ (.tail _ hm), hq⟩
      have k1 : ∀ n, KP G n (.ref 149) := fun _ => .k hG (by rfl) ⟨_, _, _, _, rfl⟩
      have hcw : (cw, cellObj (some (.int wire tw))) ∈ n := hs _ (.tail _ (.head _))
      refine Wp.conI ?_
      walk_at "aus"
      refine iB (fun hm2 => ?_) (fun hm2 => ?_)
      · subst hm2
        walk_at "aus"
        refine ⟨k1 _, tagBytes hG (rm2.le (by omega)) (wire := 2) (by omega) (by decide) fun tz => ?_⟩
        walk_at "aus"
        rw [upd_cons_ne (by simp : L + 1 ≠ L + 2), upd_cons, upd_id fun p hp => Nat.ne_of_lt (Nat.lt_trans (hlt2 p hp) (by simp))]
        walk_at "aus"
        rw [upd_cons, upd_cons_ne (by simp : L + 2 ≠ L + 1), upd_id fun p hp => Nat.ne_of_lt (Nat.lt_trans (hlt2 p hp) (by simp))]
        refine Wp.cons (Wp.fdef0 (qual := "_ModifiedEncoder.<locals>.SpecificEncoder.<locals>.EncodePackedField") (by subst he2; rfl) (by subst he2; rfl) (by subst he2; rfl) (hin' _ _) (by subst he2; rfl) (by rw [hG.q]; rfl) rfl rfl (by rfl) fun fb ob hcb hlb => ?_)
        walk_at "aus"
        have F := me2 hG hcb C D M hmd hen hk (fa := fb) (tag := vint (8 * num + wire)) (tt := tz) (tag2 := vint (8 * num + 2))
        exact ⟨_, fun p hp => hp, h _ [(fb, ob), (L + 1, _), (L + 2, _)] (fresh3 hlt2 fun p hp => hlb p (.tail _ (.tail _ hp))) (F.mono (by simp) (by omega))⟩
      · walk_at "aus"
        refine iB (fun hm1 => ?_) (fun hm1 => ?_)
        · have : mode = 1 := by omega
          subst this
          walk_at "aus"
          refine ⟨k1 _, tagBytes hG (rm2.le (by omega)) (wire := wire) (by omega) hw fun tz => ?_⟩
          walk_at "aus"
          rw [upd_cons_ne (by simp : L + 1 ≠ L + 2), upd_cons, upd_id fun p hp => Nat.ne_of_lt (Nat.lt_trans (hlt2 p hp) (by simp))]
          refine Wp.cons (Wp.fdef0 (qual := "_ModifiedEncoder.<locals>.SpecificEncoder.<locals>.EncodeRepeatedField") (by subst he2; rfl) (by subst he2; rfl) (by subst he2; rfl) (hin' _ _) (by subst he2; rfl) (by rw [hG.q]; rfl) rfl rfl (by rfl) fun fb ob hcb hlb => ?_)
          walk_at "aus"
          have F := me1 hG hcb C M hmd hen (fa := fb) (tag := vint (8 * num + wire)) (tt := tz) (tag2 := vint (8 * num + 2))
          exact ⟨_, fun p hp => hp, h _ [(fb, ob), (L + 1, _), (L + 2, _)] (fresh3 hlt2 fun p hp => hlb p (.tail _ (.tail _ hp))) (F.mono (by simp) (by omega))⟩
        · have : mode = 0 := by omega
          subst this
          walk_at "aus"
          refine ⟨k1 _, tagBytes hG (rm2.le (by omega)) (wire := wire) (by omega) hw fun tz => ?_⟩
          walk_at "aus"
          rw [upd_cons_ne (by simp : L + 1 ≠ L + 2), upd_cons, upd_id fun p hp => Nat.ne_of_lt (Nat.lt_trans (hlt2 p hp) (by simp))]
          refine Wp.cons (Wp.fdef0 (qual := "_ModifiedEncoder.<locals>.SpecificEncoder.<locals>.EncodeField") (by subst he2; rfl) (by subst he2; rfl) (by subst he2; rfl) (hin' _ _) (by subst he2; rfl) (by rw [hG.q]; rfl) rfl rfl (by rfl) fun fb ob hcb hlb => ?_)
          walk_at "aus"
          have F := me0 hG hcb C M hmd hen (fa := fb) (tag := vint (8 * num + wire)) (tt := tz) (tag2 := vint (8 * num + 2))
          exact ⟨_, fun p hp => hp, h _ [(fb, ob), (L + 1, _), (L + 2, _)] (fresh3 hlt2 fun p hp => hlb p (.tail _ (.tail _ hp))) (F.mono (by simp) (by omega))⟩
theorem upd4 {n : Led} {L : Addr} {a b c d : Obj} (hl : ∀ p ∈ n, p.1 < L) : upd (upd (upd (upd ((L + 1, cellObj none) :: (L + 2, cellObj none) :: (L + 3, cellObj none) :: (L + 4, cellObj none) :: n) (L + 1) a) (L + 2) b) (L + 3) c) (L + 4) d = (L + 1, a) :: (L + 2, b) :: (L + 3, c) :: (L + 4, d) :: n := by
  have lj : ∀ j, 0 < j → ∀ p ∈ n, p.1 ≠ L + j := fun j hj p hp => Nat.ne_of_lt (Nat.lt_trans (hl p hp) (Nat.lt_add_of_pos_right hj))
  rw [upd_cons, upd_cons_ne (by simp : L + 2 ≠ L + 1), upd_cons_ne (by simp : L + 3 ≠ L + 1), upd_cons_ne (by simp : L + 4 ≠ L + 1), upd_id (lj 1 (by decide)), upd_cons_ne (by simp : L + 1 ≠ L + 2), upd_cons, upd_cons_ne (by simp : L + 3 ≠ L + 2), upd_cons_ne (by simp : L + 4 ≠ L + 2), upd_id (lj 2 (by decide)),
    upd_cons_ne (by simp : L + 1 ≠ L + 3), upd_cons_ne (by simp : L + 2 ≠ L + 3), upd_cons, upd_cons_ne (by simp : L + 4 ≠ L + 3), upd_id (lj 3 (by decide)), upd_cons_ne (by simp : L + 1 ≠ L + 4), upd_cons_ne (by simp : L + 2 ≠ L + 4), upd_cons_ne (by simp : L + 3 ≠ L + 4), upd_cons, upd_id (lj 4 (by decide))]
theorem modifiedEncoder (hG : Ok G) (rm : Rm A 1) {wv ev cv mv : Value} (h : ∀ fa cw ce cc cm o, CloD dME "_ModifiedEncoder.<locals>.SpecificEncoder" [("wire_type", cw), ("modify_value", cm), ("encode_value", ce), ("compute_value_size", cc)] .none o → (∀ p ∈ n, p.1 < cw ∧ p.1 < ce ∧ p.1 < cc ∧ p.1 < cm ∧ p.1 < fa) → Q (.ref fa) vs ((fa, o) :: (cw, cellObj (some wv)) :: (ce, cellObj (some ev)) :: (cc, cellObj (some cv)) :: (cm, cellObj (some mv)) :: n)) :
    Wp G f A (PySem.call (.ref 163) [wv, ev, cv, mv]) vs n Q E := by
  refine Wp.callK hG (ns := ["SpecificEncoder"]) rm (by rfl) (by kernel_rfl) (fun s _ => BindsTo.of_eq (by rfl)) (by decide +kernel) (by rfl) (fun g L A' env he hlt rm' => ⟨[("wire_type", .cel (L + 1)), ("encode_value", .cel (L + 2)), ("compute_value_size", .cel (L + 3)), ("modify_value", .cel (L + 4)), ("SpecificEncoder", .loc 0)], [none], upd (upd (upd (upd ((L + 1, cellObj none) :: (L + 2, cellObj none) :: (L + 3, cellObj none) :: (L + 4, cellObj none) :: n) (L + 1) (cellObj (some wv))) (L + 2) (cellObj (some ev))) (L + 3) (cellObj (some cv))) (L + 4) (cellObj (some mv)), ?_, ?_, fun r => ?_⟩)
  · subst he; walk_at "au_slots"
  · exact .cel (by subst he; kernel_rfl) (by walk_at "au_m") (.head _) (.cel (by subst he; kernel_rfl) (by walk_at "au_m") (mem_upd_ne (.tail _ (.head _)) (addr_ne (i := 2) (j := 1) (by decide))) (.cel (by subst he; kernel_rfl) (by walk_at "au_m") (mem_upd_ne (mem_upd_ne (.tail _ (.tail _ (.head _))) (addr_ne (i := 3) (j := 1) (by decide))) (addr_ne (i := 3) (j := 2) (by decide))) (.cel (by subst he; kernel_rfl) (by walk_at "au_m") (mem_upd_ne (mem_upd_ne (mem_upd_ne (.tail _ (.tail _ (.tail _ (.head _)))) (addr_ne (i := 4) (j := 1) (by decide))) (addr_ne (i := 4) (j := 2) (by decide))) (addr_ne (i := 4) (j := 3) (by decide))) .nil)))
  · rw [upd4 hlt]
    refine Wp.cons (Wp.fdef0 (by subst he; rfl) (by subst he; rfl) (by subst he; rfl) (.inl (by rw [hG.codes]; simp)) (by subst he; rfl) (by rw [hG.q]; rfl) rfl rfl (by rfl) fun fa o hc hl => ?_)
    walk_at "aus"
    exact ⟨_, fun p hp => hp, h fa (L + 1) (L + 2) (L + 3) (L + 4) o hc (fun p hp => ⟨Nat.lt_trans (hlt p hp) (by simp), Nat.lt_trans (hlt p hp) (by simp), Nat.lt_trans (hlt p hp) (by simp), Nat.lt_trans (hlt p hp) (by simp), hl p (.tail _ (.tail _ (.tail _ (.tail _ hp))))⟩)⟩
end
end

section
set_option maxHeartbeats 4000000
open PySem PySem.Spec PySem.Calls PyProof.Rows PySem.W

/-! numbers of a fixed size, the least octet first -/
def fixB (sz v : Nat) : List UInt8 := (List.range sz).map fun i => (v / 256 ^ i % 256).toUInt8
theorem fixB_len (sz v : Nat) : (fixB sz v).length = sz := by simp [fixB]
theorem u8_mod (x : Nat) : ((x % 256).toUInt8).toNat = x % 256 := by
  show (UInt8.ofNat (x % 256)).toNat = x % 256
  rw [UInt8.toNat_ofNat']; omega
theorem fixB_ints (sz v : Nat) : (fixB sz v).map (fun c => ((c.toNat : Nat) : Int)) = KTBy.little sz v := by
  rw [KTBy.little_eq, fixB, List.map_map]
  refine List.map_congr_left fun i _ => ?_
  show ((((v / 256 ^ i % 256).toUInt8).toNat : Nat) : Int) = _
  rw [u8_mod, KTBy.p256]; rfl
theorem ints_inj : ∀ {l l' : List UInt8}, l.map (fun c => ((c.toNat : Nat) : Int)) = l'.map (fun c => ((c.toNat : Nat) : Int)) → l = l'
  | [], [], _ => rfl
  | [], _ :: _, h => by cases h
  | _ :: _, [], h => by cases h
  | a :: l, b :: l', h => by
    rw [List.map_cons, List.map_cons] at h
    have h1 := (List.cons.inj h).1
    rw [ints_inj (List.cons.inj h).2, UInt8.toNat_inj.mp (Int.ofNat_inj.mp h1)]
theorem value_little : ∀ (k x : Nat), x < 256 ^ k → KFB.value (KTBy.little k x).reverse = x
  | 0, x, h => by
    have : x = 0 := by simpa using h
    subst this; rfl
  | k + 1, x, h => by
    have e : (x : Int) / 256 = ((x / 256 : Nat) : Int) := by omega
    have ih := value_little k (x / 256) (by rw [Nat.pow_succ] at h; omega)
    unfold KFB.value at ih ⊢
    show ((((x : Int) % 256) :: KTBy.little k ((x : Int) / 256)).reverse).foldl _ 0 = _
    rw [List.reverse_cons, List.foldl_append, e, ih]
    show ((x / 256 : Nat) : Int) * 256 + (x : Int) % 256 = x
    omega
theorem fixB_arr {b : Array UInt8} {k x : Nat} (h : KBw.bInts b = KTBy.little k x) : b = (fixB k x).toArray := by
  rw [← fixB_ints] at h
  have := ints_inj h
  rw [← this]
section
variable {G : Gl} {f : Fk} {A : Around} {vs : Vals} {n : Led} {E : Value → Shared → Prop}
theorem Wp.gmInt {Q : Value × List Value → Vals → Led → Prop} {x : Int} {t : Tok} {pl : Sem Bool} (h : Q (.builtin "int.to_bytes", [.int x t]) vs n) : Wp G f A (getMethod (.int x t) (Str.ofString "to_bytes") pl) vs n Q E :=
  ⟨fun s S => KTBy.method ⟨_, _, S, h⟩⟩
theorem Wp.toB {Q : Value → Vals → Led → Prop} {k x : Nat} {B : Int} {t u v : Tok} (hk : k ≤ 8) (hB : (256 : Int) ^ k = B) (h1 : (x : Int) < B) (h : ∀ t, Q (.bytes (fixB k x).toArray t) vs n) :
    Wp G f A (PySem.call (.builtin "int.to_bytes") [.int x t, .int (k : Int) u, .str (Str.ofString "little") v]) vs n Q E :=
  ⟨fun s S => KTBy.to_little hk hB (by omega) h1 fun b t' k' hb _ => ⟨_, _, S.tok k', by rw [fixB_arr hb]; exact h t'⟩⟩
theorem Wp.gmFB (hG : Ok G) {Q : Value × List Value → Vals → Led → Prop} {pl : Sem Bool} (h : ∀ x, (∀ p ∈ n, p.1 < x) → Q (.ref x, []) vs ((x, KFB.bound) :: n)) : Wp G f A (getMethod (.type "int") (Str.ofString "from_bytes") pl) vs n Q E := by
  constructor; intro s S
  obtain ⟨F, X, T, g, o, nJ, N, J⟩ := S
  refine KFB.getm F N X (by rw [hG.K]; rfl) fun x h' F' N' hlt => ⟨_, _, ⟨F', X, T, g, o, nJ, N', J.cons ⟨fun e => (by cases e), fun _ e => by cases e⟩⟩, h x fun p hp => hlt p (List.mem_append_left _ hp)⟩
theorem Wp.fromB {Q : Value → Vals → Led → Prop} {x : Addr} {k y : Nat} {t u : Tok} (hm : (x, KFB.bound) ∈ n) (hk : k ≤ 8) (hy : y < 256 ^ k) (h : ∀ t, Q (.int y t) vs n) :
    Wp G f A (PySem.call (.ref x) [.bytes (fixB k y).toArray t, .str (Str.ofString "little") u]) vs n Q E := by
  constructor; intro s S
  have S0 := S
  obtain ⟨F, X, T, g, o, nJ, N, J⟩ := S
  refine KFB.call_little (ks := KTBy.little k y) N (List.mem_append_left _ hm) (fixB_ints k y) (by rw [KTBy.little_length]; exact hk) fun t' k' => ⟨_, _, S0.tok k', ?_⟩
  rw [value_little k y hy]; exact h t'
theorem and_low {v : Nat} {k : Nat} (hv : v < 2 ^ k) : Builtin.bitAnd (v : Int) ((2 ^ k - 1 : Nat) : Int) = (v : Int) := by
  rw [bitAnd_pp (by omega) (by omega), Int.toNat_natCast, Int.toNat_natCast, Nat.and_two_pow_sub_one_eq_mod, Nat.mod_eq_of_lt hv]
variable {Q : Value → Vals → Led → Prop}
theorem pack (hG : Ok G) (rm : Rm A 2) {x : Str} {sz v : Nat} {t u : Tok} (hx : FmtOk x sz) (hv : v < 256 ^ sz) (h : ∀ t, Q (.bytes (fixB sz v).toArray t) vs n) : Wp G f A (PySem.call (.ref 78) [.str x t, .int v u]) vs n Q E := by
  refine Wp.callK hG (ns := ["format", "value", "size", "low", "high"]) rm (by rfl) (by kernel_rfl) (fun s _ => BindsTo.of_eq (by rfl)) (by decide +kernel) (by rfl) (fun g L A' env he hlt rm' => ⟨[("format", .loc 0), ("value", .loc 1), ("size", .loc 2), ("low", .loc 3), ("high", .loc 4), ("_calcsize", .glo (.ref 71))], [some (.str x t), some (.int v u), none, none, none], n, ?_, ?_, fun r => ?_⟩)
  · subst he; walk_at "au_slots"
  · walk_at "au_pl"
  · have k1 : ∀ n, KP G n (.ref 71) := fun _ => .k hG (by rfl) ⟨_, _, _, _, rfl⟩
    walk_at "aus"
    refine ⟨k1 _, calcsize hG rm' hx fun ts => ?_⟩
    walk_at "aus"
    have h2 : ((2 : Int) ^ ((8 : Int) * (sz : Int)).toNat) = ((256 ^ sz : Nat) : Int) := by
      rw [show ((8 : Int) * (sz : Int)).toNat = 8 * sz by omega, show (2 : Int) ^ (8 * sz) = ((2 ^ (8 * sz) : Nat) : Int) from (Int.natCast_pow 2 (8 * sz)).symm, Nat.pow_mul]
    have hs8 : sz ≤ 8 := by rcases hx with ⟨_, e⟩ | ⟨_, e⟩ <;> omega
    refine Wp.mul (IntMulOk.of_left (by decide)) fun _ => ?_
    refine Wp.shl (by omega) (by omega) (by decide) fun _ => ?_
    rw [h2, Int.one_mul]
    walk_at "aus"
    have hf1 : (x == ("<i" : Str)) = false := by rcases hx with ⟨rfl, _⟩ | ⟨rfl, _⟩ <;> decide +kernel
    have hf2 : (x == ("<q" : Str)) = false := by rcases hx with ⟨rfl, _⟩ | ⟨rfl, _⟩ <;> decide +kernel
    refine iF hf1 ?_
    walk_at "aus"
    refine iF hf2 ?_
    walk_at "aus"
    refine iF rfl ?_
    walk_at "aus"
    refine iF (by simp) ?_
    walk_at "aus"
    refine iF (by rw [decide_eq_false_iff_not]; omega) ?_
    walk_at "aus"
    refine iF rfl ?_
    walk_at "aus"
    refine Wp.mul (IntMulOk.of_left (by decide)) fun _ => ?_
    refine Wp.shl (by omega) (by omega) (by decide) fun _ => ?_
    rw [h2, Int.one_mul]
    walk_at "aus"
    have e := and_low (v := v) (k := 8 * sz) (by rw [Nat.pow_mul]; exact hv)
    rw [Nat.pow_mul] at e
    rw [show (((256 ^ sz : Nat) : Int) - 1) = (((2 ^ 8) ^ sz - 1 : Nat) : Int) by have := Nat.pow_pos (n := sz) (show 0 < 256 by decide); show (((256 ^ sz : Nat) : Int) - 1) = ((256 ^ sz - 1 : Nat) : Int); omega, e]
    refine Wp.gmInt ?_
    walk_at "aus"
    refine ⟨.bui _, Wp.toB (B := ((256 ^ sz : Nat) : Int)) hs8 (KTBy.p256 sz) (by omega) fun tb => ?_⟩
    exact ⟨n, fun _ hp => hp, h _⟩
theorem unpack (hG : Ok G) (rm : Rm A 2) {x : Str} {sz v : Nat} {t u : Tok} (hx : FmtOk x sz) (hv : v < 256 ^ sz) (h : ∀ a t, (∀ p ∈ n, p.1 < a) → Q (.ref a) vs ((a, Tup [.int v t]) :: n)) : Wp G f A (PySem.call (.ref 85) [.str x t, .bytes (fixB sz v).toArray u]) vs n Q E := by
  refine Wp.callK hG (ns := ["format", "data", "size", "value"]) rm (by rfl) (by kernel_rfl) (fun s _ => BindsTo.of_eq (by rfl)) (by decide +kernel) (by rfl) (fun g L A' env he hlt rm' => ⟨[("format", .loc 0), ("data", .loc 1), ("size", .loc 2), ("value", .loc 3), ("_calcsize", .glo (.ref 71)), ("len", .bui (.builtin "len")), ("int", .bui (.type "int"))], [some (.str x t), some (.bytes (fixB sz v).toArray u), none, none], n, ?_, ?_, fun r => ?_⟩)
  · subst he; walk_at "au_slots"
  · walk_at "au_pl"
  · have k1 : ∀ n, KP G n (.ref 71) := fun _ => .k hG (by rfl) ⟨_, _, _, _, rfl⟩
    have hs8 : sz ≤ 8 := by rcases hx with ⟨_, e⟩ | ⟨_, e⟩ <;> omega
    walk_at "aus"
    refine ⟨k1 _, calcsize hG rm' hx fun ts => ?_⟩
    walk_at "aus"
    refine ⟨.bui _, Wp.lenB (by rw [List.size_toArray, fixB_len]; omega) fun _ => ?_⟩
    rw [List.size_toArray, fixB_len]
    walk_at "aus"
    refine iF (by simp) ?_
    walk_at "aus"
    refine Wp.gmFB hG fun b hb => ?_
    walk_at "aus"
    refine ⟨.mth (.head _) ⟨_, rfl⟩, Wp.fromB (.head _) hs8 hv fun _ => ?_⟩
    walk_at "aus"
    have hf1 : (x == ("<i" : Str)) = false := by rcases hx with ⟨rfl, _⟩ | ⟨rfl, _⟩ <;> decide +kernel
    have hf2 : (x == ("<q" : Str)) = false := by rcases hx with ⟨rfl, _⟩ | ⟨rfl, _⟩ <;> decide +kernel
    refine iF hf1 ?_
    walk_at "aus"
    refine iF hf2 ?_
    walk_at "aus"
    refine iF rfl ?_
    refine iF rfl ?_
    walk_at "aus"
    refine Wp.newTuple (by simp) fun a ha => ?_
    exact ⟨_, fun p hp => (List.mem_cons.mp hp).elim (fun e => e ▸ .head _) fun hp => .tail _ (.tail _ hp), h a _ fun p hp => ha p (.tail _ hp)⟩
end
end

section
set_option maxHeartbeats 4000000
open PySem PySem.Spec PySem.Calls PyProof.Rows PySem.W

def dPE : Stmt := sAt (dBody (sAt pTop 23)) 1
def dPE2 : Stmt := sAt (dBody (sAt (dBody dPE) 1)) 2
def dPE1 : Stmt := sAt (dBody (sAt (dElse (sAt (dBody dPE) 1)) 0)) 1
def dPE0 : Stmt := sAt (dElse (sAt (dElse (sAt (dBody dPE) 1)) 0)) 1
section
variable {G : Gl} {f : Fk} {A : Around} {vs : Vals} {n : Led} {E : Value → Shared → Prop} {Q : Value → Vals → Led → Prop}
theorem pe0 (hG : Ok G) {fa c1 c2 c3 d : Addr} {o : Obj} {x : Str} {sz : Nat} {tag tag2 : List UInt8} {tt tf : Tok} (hx : FmtOk x sz) (hc : CloD dPE0 "_StructPackEncoder.<locals>.SpecificEncoder.<locals>.EncodeField" [("tag_bytes", c2), ("local_struct_pack", c3), ("format", c1)] (.ref d) o) :
    EncF G (.ref fa) [(fa, o), (c1, cellObj (some (.str x tf))), (c2, cellObj (some (.bytes tag.toArray tt))), (c3, cellObj (some (.ref 78))), (d, Tup [.none])] 0 tag tag2 (fixB sz) (fun v => v < 256 ^ sz) 4 where
  kp := fun n hs => clo_fn (hs _ (.head _)) hc
  run := fun wv P src kw W f A vs n bs ep v vals det E Q hs hnP hsr hP rm hbs ha hvP hB hz hb h => by
    rcases ha with ⟨_, y, t, rfl, rfl⟩ | ⟨h0, _⟩
    · have hd : (d, Tup [.none]) ∈ n := hs _ (.tail _ (.tail _ (.tail _ (.tail _ (.head _)))))
      refine Wp.callN (ns := ["write", "value", "unused_deterministic"]) (k := 3 + kw) (hs _ (.head _)) hc (by rw [show 3 + kw + 1 = 4 + kw by omega]; exact rm) (binds := [("write", wv), ("value", .int y t), ("unused_deterministic", det)]) (fun s _ _ _ _ S => BindsTo.of_defaults (T := d) rfl (S.get hd) rfl (by rfl) (by kernel_rfl)) (by decide +kernel) (by rfl) (fun g2 L2 A2 env2 cc he2 hin hlt2 rm2 => ⟨[("write", .loc 0), ("value", .loc 1), ("unused_deterministic", .loc 2), ("format", .cel c1), ("local_struct_pack", .cel c3), ("tag_bytes", .cel c2)], [some wv, some (.int y t), some det], n, ?_, ?_, fun r2 => ?_⟩)
      · rw [hG.K]; subst he2; walk_at "au_slots"
      · walk_at "au_pl"
      · have k1 : ∀ n, KP G n (.ref 78) := fun _ => .k hG (by rfl) ⟨_, _, _, _, rfl⟩
        have keep : ∀ p ∈ [(fa, o), (c1, cellObj (some (.str x tf))), (c2, cellObj (some (.bytes tag.toArray tt))), (c3, cellObj (some (.ref 78))), (d, Tup [.none])], ∀ o', p ∈ upd n P o' := fun p hp o' => mem_upd_ne (a := p.1) (o := p.2) (hs p hp) (hnP p hp)
        have h2 := hs (c2, cellObj (some (.bytes tag.toArray tt))) (.tail _ (.tail _ (.head _)))
        refine Wp.conE ?_ (hi := by subst_vars; rfl)
        walk_at "aus"
        refine ⟨W.kp _ hsr, W.run _ _ _ _ bs ep tag tt _ _ hsr hP (rm2.le (by omega)) (by omega) ⟨rfl, ?_⟩⟩
        have h1x := keep _ (.tail _ (.head _)) (Lst ((bs ++ [(tag, tt)]).map byVal) (ep + 1))
        have h3x := keep _ (.tail _ (.tail _ (.tail _ (.head _)))) (Lst ((bs ++ [(tag, tt)]).map byVal) (ep + 1))
        walk_at "aus"
        refine ⟨k1 _, pack hG (rm2.le (by omega)) hx (hB y (.head _)) fun tb => ?_⟩
        walk_at "aus"
        refine ⟨W.kp _ (W.src hsr), W.run _ _ _ _ (bs ++ [(tag, tt)]) (ep + 1) (fixB sz y) tb _ _ (W.src hsr) (mem_upd_self hP) (rm2.le (by omega)) (by simp; omega) ?_⟩
        rw [upd_upd, List.append_assoc]
        refine ⟨_, fun _ hp => hp, h ([(tag, tt)] ++ [(fixB sz y, tb)]) _ ?_ (by simp)⟩
        simp [dueB, bodyB]
    · omega
theorem pe1 (hG : Ok G) {fa c1 c2 c3 d : Addr} {o : Obj} {x : Str} {sz : Nat} {tag tag2 : List UInt8} {tt tf : Tok} (hx : FmtOk x sz) (hc : CloD dPE1 "_StructPackEncoder.<locals>.SpecificEncoder.<locals>.EncodeRepeatedField" [("tag_bytes", c2), ("local_struct_pack", c3), ("format", c1)] (.ref d) o) :
    EncF G (.ref fa) [(fa, o), (c1, cellObj (some (.str x tf))), (c2, cellObj (some (.bytes tag.toArray tt))), (c3, cellObj (some (.ref 78))), (d, Tup [.none])] 1 tag tag2 (fixB sz) (fun v => v < 256 ^ sz) 4 where
  kp := fun n hs => clo_fn (hs _ (.head _)) hc
  run := fun wv P src kw W f A vs n bs ep v vals det E Q hs hnP hsr hP rm hbs ha hvP hB hz hb h => by
    rcases ha with ⟨h0, _⟩ | ⟨_, l, ws, el, rfl, hl, hi⟩
    · omega
    have hd : (d, Tup [.none]) ∈ n := hs _ (.tail _ (.tail _ (.tail _ (.tail _ (.head _)))))
    have hlP : l ≠ P := fun e => hvP (by rw [e])
    have hwl : ws.length = vals.length := by have := hi.length; rw [List.length_map] at this; exact this
    have k1 : ∀ n, KP G n (.ref 78) := fun _ => .k hG (by rfl) ⟨_, _, _, _, rfl⟩
    have keep : ∀ p ∈ [(fa, o), (c1, cellObj (some (.str x tf))), (c2, cellObj (some (.bytes tag.toArray tt))), (c3, cellObj (some (.ref 78))), (d, Tup [.none])], ∀ o', p ∈ upd n P o' := fun p hp o' => mem_upd_ne (a := p.1) (o := p.2) (hs p hp) (hnP p hp)
    refine Wp.callN (ns := ["write", "value", "unused_deterministic", "element"]) (k := 3 + kw) (hs _ (.head _)) hc (by rw [show 3 + kw + 1 = 4 + kw by omega]; exact rm) (binds := [("write", wv), ("value", .ref l), ("unused_deterministic", det)]) (fun s _ _ _ _ S => BindsTo.of_defaults (T := d) rfl (S.get hd) rfl (by rfl) (by kernel_rfl)) (by decide +kernel) (by rfl) (fun g2 L2 A2 env2 cc he2 hin hlt2 rm2 => ⟨[("write", .loc 0), ("value", .loc 1), ("unused_deterministic", .loc 2), ("element", .loc 3), ("format", .cel c1), ("local_struct_pack", .cel c3), ("tag_bytes", .cel c2)], [some wv, some (.ref l), some det, none], n, ?_, ?_, fun r2 => ?_⟩)
    · rw [hG.K]; subst he2; walk_at "au_slots"
    · walk_at "au_pl"
    · refine Wp.norm hP (Lst_tm _ _) ?_
      refine Wp.conF (fun i v => ws[i]? = some v) ws.length [(l, Lst ws el)] (fun i vs' n' => ∃ (bs' : List (List UInt8 × Tok)) (ep' : Nat) (o : Option Value), vs' = [some wv, some (.ref l), some det, o] ∧ n' = upd n P (Lst ((bs ++ bs').map byVal) ep') ∧ (bs'.map (·.1)).flatten = bodyB (fun v => tag ++ fixB sz v) (vals.take i) ∧ bs'.length ≤ 2 * i) ?_
      walk_at "aus"
      refine ⟨itr_list rm2.hh (mem_upd_ne hl hlP), ⟨[], ep, none, rfl, by simp, rfl, by simp⟩, ⟨fun i vs' n' ⟨_, _, _, _, e, _⟩ p hp => (by subst e; rw [List.mem_singleton.mp hp]; exact mem_upd_ne hl hlP), fun i vs' n' ⟨_, _, _, _, e, _⟩ => (by subst e; rw [show upd n P _ = upd (upd n P (Lst (bs.map byVal) ep)) P _ from (upd_upd ..).symm]; exact Sub.rfl'.upd)⟩, ?_, ?_⟩
      · rintro it oi i v vs' n' hit _ hi2 hv ⟨bs', ep', o', rfl, rfl, hfl, hln⟩
        obtain ⟨hiv, tv, rfl⟩ := nat_at hi hv
        have hPit : P ≠ it := Nat.ne_of_lt (hit (P, _) (mem_upd_self hP))
        have h2 := keep _ (.tail _ (.tail _ (.head _))) (Lst ((bs ++ bs').map byVal) ep')
        walk_at "aus"
        refine ⟨W.kp _ fun p hp => .tail _ (W.src hsr p hp), W.run _ _ _ _ (bs ++ bs') ep' tag tt _ _ (fun p hp => .tail _ (W.src hsr p hp)) (.tail _ (mem_upd_self hP)) (rm2.le (by omega)) (by simp; omega) ⟨rfl, ?_⟩⟩
        rw [upd_cons_ne hPit.symm, upd_upd]
        have h1x := keep _ (.tail _ (.head _)) (Lst ((bs ++ bs' ++ [(tag, tt)]).map byVal) (ep' + 1))
        have h3x := keep _ (.tail _ (.tail _ (.tail _ (.head _)))) (Lst ((bs ++ bs' ++ [(tag, tt)]).map byVal) (ep' + 1))
        walk_at "aus"
        refine ⟨k1 _, pack hG (rm2.le (by omega)) hx (hB _ (List.getElem_mem hiv)) fun tb => ?_⟩
        walk_at "aus"
        refine ⟨W.kp _ fun p hp => .tail _ (W.src hsr p hp), W.run _ _ _ _ (bs ++ bs' ++ [(tag, tt)]) (ep' + 1) (fixB sz vals[i]) tb _ _ (fun p hp => .tail _ (W.src hsr p hp)) (.tail _ (mem_upd_self hP)) (rm2.le (by omega)) (by simp; omega) ⟨rfl, ?_⟩⟩
        walk_at "aus"
        rw [upd_cons_ne hPit.symm, upd_upd, List.append_assoc, List.append_assoc]
        refine ⟨_, fun p hp => hp, bs' ++ ([(tag, tt)] ++ [(fixB sz vals[i], tb)]), ep' + 1 + 1, _, rfl, rfl, ?_, by simp; omega⟩
        rw [bodyB_snoc _ vals hiv]
        simp [hfl]
      · rintro vs' n' ⟨bs', ep', o', rfl, rfl, hfl, hln⟩
        rw [hwl, List.take_length] at hfl
        walk_at "aus"
        exact ⟨_, fun p hp => hp, h bs' ep' hfl (by omega)⟩
theorem pe2 (hG : Ok G) {fa c1 c2 c3 c4 c5 : Addr} {o : Obj} {x : Str} {sz : Nat} {tag tag2 : List UInt8} {tt tf ts : Tok} (hx : FmtOk x sz) (hc : CloD dPE2 "_StructPackEncoder.<locals>.SpecificEncoder.<locals>.EncodePackedField" [("value_size", c5), ("tag_bytes", c2), ("local_struct_pack", c3), ("local_EncodeVarint", c4), ("format", c1)] .none o) :
    EncF G (.ref fa) [(fa, o), (c1, cellObj (some (.str x tf))), (c2, cellObj (some (.bytes tag2.toArray tt))), (c3, cellObj (some (.ref 78))), (c4, cellObj (some (.ref 135))), (c5, cellObj (some (.int sz ts)))] 2 tag tag2 (fixB sz) (fun v => v < 256 ^ sz) 4 where
  kp := fun n hs => clo_fn (hs _ (.head _)) hc
  run := fun wv P src kw W f A vs n bs ep v vals det E Q hs hnP hsr hP rm hbs ha hvP hB hz hb h => by
    rcases ha with ⟨h0, _⟩ | ⟨_, l, ws, el, rfl, hl, hi⟩
    · omega
    have hlP : l ≠ P := fun e => hvP (by rw [e])
    have hwl : ws.length = vals.length := by have := hi.length; rw [List.length_map] at this; exact this
    have k1 : ∀ n, KP G n (.ref 135) := fun _ => .k hG (by rfl) ⟨_, _, _, _, rfl⟩
    have k2 : ∀ n, KP G n (.ref 78) := fun _ => .k hG (by rfl) ⟨_, _, _, _, rfl⟩
    have keep : ∀ p ∈ [(fa, o), (c1, cellObj (some (.str x tf))), (c2, cellObj (some (.bytes tag2.toArray tt))), (c3, cellObj (some (.ref 78))), (c4, cellObj (some (.ref 135))), (c5, cellObj (some (.int sz ts)))], ∀ o', p ∈ upd n P o' := fun p hp o' => mem_upd_ne (a := p.1) (o := p.2) (hs p hp) (hnP p hp)
    refine Wp.callN (ns := ["write", "value", "deterministic", "element"]) (k := 3 + kw) (hs _ (.head _)) hc (by rw [show 3 + kw + 1 = 4 + kw by omega]; exact rm) (binds := [("write", wv), ("value", .ref l), ("deterministic", det)]) (fun s _ _ _ _ _ => BindsTo.of_eq (by kernel_rfl)) (by decide +kernel) (by rfl) (fun g2 L2 A2 env2 cc he2 hin hlt2 rm2 => ⟨[("write", .loc 0), ("value", .loc 1), ("deterministic", .loc 2), ("element", .loc 3), ("format", .cel c1), ("local_EncodeVarint", .cel c4), ("local_struct_pack", .cel c3), ("tag_bytes", .cel c2), ("value_size", .cel c5), ("len", .bui (.builtin "len"))], [some wv, some (.ref l), some det, none], n, ?_, ?_, fun r2 => ?_⟩)
    · rw [hG.K]; subst he2; walk_at "au_slots"
    · walk_at "au_pl"
    · have h2 := hs (c2, cellObj (some (.bytes tag2.toArray tt))) (.tail _ (.tail _ (.head _)))
      refine Wp.conE ?_ (hi := by subst_vars; rfl)
      walk_at "aus"
      refine ⟨W.kp _ hsr, W.run _ _ _ _ bs ep tag2 tt _ _ hsr hP (rm2.le (by omega)) (by omega) ⟨rfl, ?_⟩⟩
      have h4x := keep _ (.tail _ (.tail _ (.tail _ (.tail _ (.head _))))) (Lst ((bs ++ [(tag2, tt)]).map byVal) (ep + 1))
      have h5x := keep _ (.tail _ (.tail _ (.tail _ (.tail _ (.tail _ (.head _)))))) (Lst ((bs ++ [(tag2, tt)]).map byVal) (ep + 1))
      walk_at "aus"
      refine ⟨.bui _, Wp.lenL (mem_upd_ne hl hlP) (by omega) fun _ => ?_⟩
      rw [hwl]
      walk_at "aus"
      refine Wp.mul (IntMulOk.of_left (bits_small (by omega))) fun _ => ?_
      rw [show ((vals.length : Int) * (sz : Int)) = (((bodyB (fixB sz) vals).length : Nat) : Int) by rw [bodyB_fixed (fixB_len sz)]; push_cast; rfl]
      walk_at "aus"
      have hvl := vint_len_le (bodyB (fixB sz) vals).length (by omega)
      refine ⟨k1 _, encodeVarint hG W (W.src hsr) (mem_upd_self hP) (rm2.le (by omega)) (by simp; omega) (by omega) fun bs2 ep2 hfl2 hln2 => ⟨rfl, ?_⟩⟩
      rw [upd_upd]
      refine Wp.conF (fun i v => ws[i]? = some v) ws.length [(l, Lst ws el)] (fun i vs' n' => ∃ (bs' : List (List UInt8 × Tok)) (ep' : Nat) (o : Option Value), vs' = [some wv, some (.ref l), some det, o] ∧ n' = upd n P (Lst ((bs ++ [(tag2, tt)] ++ bs2 ++ bs').map byVal) ep') ∧ (bs'.map (·.1)).flatten = bodyB (fixB sz) (vals.take i) ∧ bs'.length ≤ i) ?_
      walk_at "aus"
      refine ⟨itr_list rm2.hh (mem_upd_ne hl hlP), ⟨[], ep2, _, rfl, by simp, rfl, by simp⟩, ⟨fun i vs' n' ⟨_, _, _, _, e, _⟩ p hp => (by subst e; rw [List.mem_singleton.mp hp]; exact mem_upd_ne hl hlP), fun i vs' n' ⟨_, _, _, _, e, _⟩ => (by subst e; rw [show upd n P _ = upd (upd n P (Lst ((bs ++ [(tag2, tt)] ++ bs2).map byVal) ep2)) P _ from (upd_upd ..).symm]; exact Sub.rfl'.upd)⟩, ?_, ?_⟩
      · rintro it oi i v vs' n' hit _ hi2 hv ⟨bs', ep', o', rfl, rfl, hfl, hln⟩
        obtain ⟨hiv, tv, rfl⟩ := nat_at hi hv
        have hPit : P ≠ it := Nat.ne_of_lt (hit (P, _) (mem_upd_self hP))
        have h1x := keep _ (.tail _ (.head _)) (Lst ((bs ++ [(tag2, tt)] ++ bs2 ++ bs').map byVal) ep')
        have h3x := keep _ (.tail _ (.tail _ (.tail _ (.head _)))) (Lst ((bs ++ [(tag2, tt)] ++ bs2 ++ bs').map byVal) ep')
        walk_at "aus"
        refine ⟨k2 _, pack hG (rm2.le (by omega)) hx (hB _ (List.getElem_mem hiv)) fun tb => ?_⟩
        walk_at "aus"
        refine ⟨W.kp _ fun p hp => .tail _ (W.src hsr p hp), W.run _ _ _ _ (bs ++ [(tag2, tt)] ++ bs2 ++ bs') ep' (fixB sz vals[i]) tb _ _ (fun p hp => .tail _ (W.src hsr p hp)) (.tail _ (mem_upd_self hP)) (rm2.le (by omega)) (by simp; omega) ⟨rfl, ?_⟩⟩
        walk_at "aus"
        rw [upd_cons_ne hPit.symm, upd_upd, List.append_assoc (bs ++ [(tag2, tt)] ++ bs2)]
        refine ⟨_, fun p hp => hp, bs' ++ [(fixB sz vals[i], tb)], ep' + 1, _, rfl, rfl, ?_, by simp; omega⟩
        rw [bodyB_snoc _ vals hiv]
        simp [hfl]
      · rintro vs' n' ⟨bs', ep', o', rfl, rfl, hfl, hln⟩
        rw [hwl, List.take_length] at hfl
        walk_at "aus"
        have h' := h ([(tag2, tt)] ++ bs2 ++ bs') ep' (by simp [dueB, hfl, hfl2]) (by simp; omega)
        rw [show bs ++ ([(tag2, tt)] ++ bs2 ++ bs') = bs ++ [(tag2, tt)] ++ bs2 ++ bs' by simp] at h'
        exact ⟨_, fun p hp => hp, h'⟩
theorem structPackEncoder (hG : Ok G) (rm : Rm A 2) {wv : Value} {x : Str} {sz : Nat} {tx : Tok} (hx : FmtOk x sz) (h : ∀ fa cw cf cs ts o, CloD dPE "_StructPackEncoder.<locals>.SpecificEncoder" [("wire_type", cw), ("value_size", cs), ("format", cf)] .none o → (∀ p ∈ n, p.1 < cw ∧ p.1 < cf ∧ p.1 < cs ∧ p.1 < fa) → Q (.ref fa) vs ((fa, o) :: (cw, cellObj (some wv)) :: (cf, cellObj (some (.str x tx))) :: (cs, cellObj (some (.int sz ts))) :: n)) :
    Wp G f A (PySem.call (.ref 170) [wv, .str x tx]) vs n Q E := by
  refine Wp.callK hG (ns := ["SpecificEncoder"]) rm (by rfl) (by kernel_rfl) (fun s _ => BindsTo.of_eq (by rfl)) (by decide +kernel) (by rfl) (fun g L A' env he hlt rm' => ⟨[("wire_type", .cel (L + 1)), ("format", .cel (L + 2)), ("SpecificEncoder", .loc 0), ("value_size", .cel (L + 3)), ("_calcsize", .glo (.ref 71))], [none], upd (upd ((L + 1, cellObj none) :: (L + 2, cellObj none) :: (L + 3, cellObj none) :: n) (L + 1) (cellObj (some wv))) (L + 2) (cellObj (some (.str x tx))), ?_, ?_, fun r => ?_⟩)
  · subst he; walk_at "au_slots"
  · exact .cel (by subst he; kernel_rfl) (by walk_at "au_m") (.head _) (.cel (by subst he; kernel_rfl) (by walk_at "au_m") (mem_upd_ne (.tail _ (.head _)) (addr_ne (i := 2) (j := 1) (by decide))) .nil)
  · have k1 : ∀ n, KP G n (.ref 71) := fun _ => .k hG (by rfl) ⟨_, _, _, _, rfl⟩
    have hf : (L + 2, cellObj (some (.str x tx))) ∈ upd (upd ((L + 1, cellObj none) :: (L + 2, cellObj none) :: (L + 3, cellObj none) :: n) (L + 1) (cellObj (some wv))) (L + 2) (cellObj (some (.str x tx))) := mem_upd_self (mem_upd_ne (.tail _ (.head _)) (addr_ne (i := 2) (j := 1) (by decide)))
    have hs : (L + 3, cellObj none) ∈ upd (upd ((L + 1, cellObj none) :: (L + 2, cellObj none) :: (L + 3, cellObj none) :: n) (L + 1) (cellObj (some wv))) (L + 2) (cellObj (some (.str x tx))) := mem_upd_ne (mem_upd_ne (.tail _ (.tail _ (.head _))) (addr_ne (i := 3) (j := 1) (by decide))) (addr_ne (i := 3) (j := 2) (by decide))
    refine Wp.conA ?_
    walk_at "aus"
    refine ⟨k1 _, calcsize hG rm' hx fun ts => ?_⟩
    refine Wp.stc (by assumption) (by walk_at "au_m") (by subst he; kernel_rfl) hs ?_
    rw [upd3 hlt]
    refine Wp.cons (Wp.fdef0 (by subst he; rfl) (by subst he; rfl) (by subst he; rfl) (.inl (by rw [hG.codes]; simp)) (by subst he; rfl) (by rw [hG.q]; rfl) rfl rfl (by rfl) fun fa o hc hl => ?_)
    walk_at "aus"
    exact ⟨_, fun p hp => hp, h fa (L + 1) (L + 2) (L + 3) ts o hc (fun p hp => ⟨Nat.lt_trans (hlt p hp) (by simp), Nat.lt_trans (hlt p hp) (by simp), Nat.lt_trans (hlt p hp) (by simp), hl p (.tail _ (.tail _ (.tail _ hp)))⟩)⟩
end
end

section
set_option maxHeartbeats 4000000
open PySem PySem.Spec PySem.Calls PyProof.Rows PySem.W

def Fresh (m n : Led) : Prop := ∀ q ∈ m, ∀ p ∈ n, p.1 < q.1
theorem Fresh.nil {n : Led} : Fresh [] n := fun q hq => by cases hq
theorem Fresh.cons {m n : Led} {a : Addr} {o : Obj} (h : ∀ p ∈ n, p.1 < a) (r : Fresh m n) : Fresh ((a, o) :: m) n := fun q hq => by
  rcases List.mem_cons.mp hq with rfl | hq
  · exact h
  · exact r q hq
theorem lt_add {n : Led} {L : Addr} {k : Nat} (h : ∀ p ∈ n, p.1 < L) : ∀ p ∈ n, p.1 < L + k := fun p hp => Nat.lt_of_lt_of_le (h p hp) (Nat.le_add_right _ _)
theorem ne_add {n : Led} {L : Addr} {k : Nat} (h : ∀ p ∈ n, p.1 < L) (hk : 0 < k := by decide) : ∀ p ∈ n, p.1 ≠ L + k := fun p hp => Nat.ne_of_lt (Nat.lt_trans (h p hp) (Nat.lt_add_of_pos_right hk))
section
variable {G : Gl} {f : Fk} {A : Around} {vs : Vals} {n : Led} {E : Value → Shared → Prop} {Q : Value → Vals → Led → Prop}
theorem codeIn_app {n : Led} (m : Led) {c : Addr} (h : CodeIn G n c) : CodeIn G (m ++ n) c := h.elim .inl fun ⟨a, b, c, d, e, hm, hq⟩ => .inr ⟨a, b, c, d, e, List.mem_append_right _ hm, hq⟩
theorem specificPEncoder (hG : Ok G) {fa cw cf cs : Addr} {o : Obj} {x : Str} {sz wire : Nat} {tw tx ts : Tok} (hx : FmtOk x sz) (hw : wire ≤ 5) (hc : CloD dPE "_StructPackEncoder.<locals>.SpecificEncoder" [("wire_type", cw), ("value_size", cs), ("format", cf)] .none o) :
    EncM G (.ref fa) [(fa, o), (cw, cellObj (some (.int wire tw))), (cf, cellObj (some (.str x tx))), (cs, cellObj (some (.int sz ts)))] wire (fixB sz) (fun v => v < 256 ^ sz) 6 where
  kp := fun n hs => clo_fn (hs _ (.head _)) hc
  run := fun f A vs n num mode t E Q hs rm hnum hmode h => by
    refine Wp.callN (ns := ["field_number", "is_repeated", "is_packed", "EncodePackedField", "EncodeRepeatedField", "EncodeField"]) (hs _ (.head _)) hc rm (binds := [("field_number", .int num t), ("is_repeated", .bool (decide (0 < mode))), ("is_packed", .bool (decide (mode = 2)))]) (fun s _ _ _ _ _ => BindsTo.of_eq (by kernel_rfl)) (by decide +kernel) (by rfl)
      (fun g2 L A2 env2 cx he2 hin hlt2 rm2 => ⟨[("field_number", .loc 0), ("is_repeated", .loc 1), ("is_packed", .loc 2), ("EncodePackedField", .loc 3), ("EncodeRepeatedField", .loc 4), ("EncodeField", .loc 5), ("local_EncodeVarint", .cel (L + 1)), ("local_struct_pack", .cel (L + 2)), ("tag_bytes", .cel (L + 3)), ("format", .cel cf), ("value_size", .cel cs), ("wire_type", .cel cw), ("_pack", .glo (.ref 78)), ("TagBytes", .glo (.ref 149)), ("WIRETYPE_LENGTH_DELIMITED", .glo (.int 2 291)), ("_EncodeVarint", .glo (.ref 135))],
        [some (.int num t), some (.bool (decide (0 < mode))), some (.bool (decide (mode = 2))), none, none, none], (L + 1, cellObj none) :: (L + 2, cellObj none) :: (L + 3, cellObj none) :: n, ?_, ?_, fun r2 => ?_⟩)
    · rw [hG.K]; subst he2; walk_at "au_slots"
    · walk_at "au_pl"
    · have hin' : ∀ x y z, CodeIn G (x :: y :: z :: n) cx := fun x y z => codeIn_app [x, y, z] hin
      have k1 : ∀ n, KP G n (.ref 149) := fun _ => .k hG (by rfl) ⟨_, _, _, _, rfl⟩
      have hcw : (cw, cellObj (some (.int wire tw))) ∈ n := hs _ (.tail _ (.head _))
      refine Wp.conA ?_
      walk_at "aus"
      rw [upd_cons_ne (by simp : L + 1 ≠ L + 2), upd_cons, upd_cons_ne (by simp : L + 3 ≠ L + 2), upd_id (ne_add hlt2)]
      refine iB (fun hm2 => ?_) (fun hm2 => ?_)
      · subst hm2
        walk_at "aus"
        refine ⟨k1 _, tagBytes hG (rm2.le (by omega)) (wire := 2) (by omega) (by decide) fun tz => ?_⟩
        walk_at "aus"
        rw [upd_cons_ne (by simp : L + 1 ≠ L + 3), upd_cons_ne (by simp : L + 2 ≠ L + 3), upd_cons, upd_id (ne_add hlt2)]
        walk_at "aus"
        rw [upd_cons, upd_cons_ne (by simp : L + 2 ≠ L + 1), upd_cons_ne (by simp : L + 3 ≠ L + 1), upd_id (ne_add hlt2)]
        refine Wp.cons (Wp.fdef0 (qual := "_StructPackEncoder.<locals>.SpecificEncoder.<locals>.EncodePackedField") (by subst he2; rfl) (by subst he2; rfl) (by subst he2; rfl) (hin' _ _ _) (by subst he2; rfl) (by rw [hG.q]; rfl) rfl rfl (by rfl) fun fb ob hcb hlb => ?_)
        walk_at "aus"
        have F := pe2 hG hx hcb (fa := fb) (tag := vint (8 * num + wire)) (tt := tz) (tag2 := vint (8 * num + 2)) (tf := tx) (ts := ts)
        have hl3 : ∀ p ∈ n, p.1 < fb := fun p hp => hlb p (.tail _ (.tail _ (.tail _ hp)))
        exact ⟨_, fun p hp => hp, h _ [(fb, ob), (L + 1, _), (L + 2, _), (L + 3, _)] (Fresh.cons hl3 (Fresh.cons (lt_add hlt2) (Fresh.cons (lt_add hlt2) (Fresh.cons (lt_add hlt2) Fresh.nil)))) (F.mono (by simp) (by omega))⟩
      · walk_at "aus"
        refine iB (fun hm1 => ?_) (fun hm1 => ?_)
        · have : mode = 1 := by omega
          subst this
          walk_at "aus"
          refine ⟨k1 _, tagBytes hG (rm2.le (by omega)) (wire := wire) (by omega) hw fun tz => ?_⟩
          walk_at "aus"
          rw [upd_cons_ne (by simp : L + 1 ≠ L + 3), upd_cons_ne (by simp : L + 2 ≠ L + 3), upd_cons, upd_id (ne_add hlt2)]
          refine Wp.cons (Wp.fdef1 (qual := "_StructPackEncoder.<locals>.SpecificEncoder.<locals>.EncodeRepeatedField") (by subst he2; rfl) (by subst he2; rfl) (by subst he2; rfl) (hin' _ _ _) (by subst he2; rfl) (by rw [hG.q]; rfl) rfl rfl (by rfl) ?_)
          walk_at "aus"
          refine ⟨rfl, rfl, fun d fb ob hcb hd hdb => ?_⟩
          walk_at "aus"
          have F := pe1 hG hx hcb (fa := fb) (tag := vint (8 * num + wire)) (tt := tz) (tag2 := vint (8 * num + 2)) (tf := tx)
          have hl3 : ∀ p ∈ n, p.1 < d := fun p hp => hd p (.tail _ (.tail _ (.tail _ hp)))
          exact ⟨_, fun p hp => hp, h _ [(fb, ob), (d, _), (L + 1, _), (L + 2, _), (L + 3, _)] (Fresh.cons (fun p hp => Nat.lt_trans (hl3 p hp) hdb) (Fresh.cons hl3 (Fresh.cons (lt_add hlt2) (Fresh.cons (lt_add hlt2) (Fresh.cons (lt_add hlt2) Fresh.nil))))) (F.mono (by simp) (by omega))⟩
        · have : mode = 0 := by omega
          subst this
          walk_at "aus"
          refine ⟨k1 _, tagBytes hG (rm2.le (by omega)) (wire := wire) (by omega) hw fun tz => ?_⟩
          walk_at "aus"
          rw [upd_cons_ne (by simp : L + 1 ≠ L + 3), upd_cons_ne (by simp : L + 2 ≠ L + 3), upd_cons, upd_id (ne_add hlt2)]
          refine Wp.cons (Wp.fdef1 (qual := "_StructPackEncoder.<locals>.SpecificEncoder.<locals>.EncodeField") (by subst he2; rfl) (by subst he2; rfl) (by subst he2; rfl) (hin' _ _ _) (by subst he2; rfl) (by rw [hG.q]; rfl) rfl rfl (by rfl) ?_)
          walk_at "aus"
          refine ⟨rfl, rfl, fun d fb ob hcb hd hdb => ?_⟩
          walk_at "aus"
          have F := pe0 hG hx hcb (fa := fb) (tag := vint (8 * num + wire)) (tt := tz) (tag2 := vint (8 * num + 2)) (tf := tx)
          have hl3 : ∀ p ∈ n, p.1 < d := fun p hp => hd p (.tail _ (.tail _ (.tail _ hp)))
          exact ⟨_, fun p hp => hp, h _ [(fb, ob), (d, _), (L + 1, _), (L + 2, _), (L + 3, _)] (Fresh.cons (fun p hp => Nat.lt_trans (hl3 p hp) hdb) (Fresh.cons hl3 (Fresh.cons (lt_add hlt2) (Fresh.cons (lt_add hlt2) (Fresh.cons (lt_add hlt2) Fresh.nil))))) (F.mono (by simp) (by omega))⟩
end
end

section
set_option maxHeartbeats 4000000
open PySem PySem.Spec PySem.Calls PyProof.Rows PySem.W

section
variable {G : Gl} {f : Fk} {A : Around} {vs : Vals} {n : Led} {E : Value → Shared → Prop} {env : Env} {rest : List Stmt}

/-! a tuple taken apart -/
theorem Wp.aio0 {xs : List Value} {Q : Unit → Vals → Led → Prop} (h : Q () vs n) : Wp G f A (assignInOrder [] xs) vs n Q E := ⟨fun _ S => assignInOrder_nil ⟨_, _, S, h⟩⟩
theorem Wp.aio {x : Str} {p : Pos} {ts : List (Value → Sem Unit)} {v : Value} {ws : List Value} {Q : Unit → Vals → Led → Prop}
    (h : Wp G f A (storeName env x v) vs n (fun _ vs1 n1 => Wp G f A (assignInOrder ts ws) vs1 n1 Q E) E) : Wp G f A (assignInOrder (assign (.Name x p) env :: ts) (v :: ws)) vs n Q E :=
  ⟨fun s S => assignInOrder_cons (assign_Name (wpAny_mono (h.run s S) (fun _ s1 ⟨_, _, S1, q1⟩ => q1.run s1 S1) fun _ _ x => x))⟩
theorem Wp.asgT {es : List Expr} {k : Nat} {p : Pos} {a : Addr} {ws : List Value} {Q : Unit → Vals → Led → Prop} (hh : A.handled = none) (hm : (a, Tup ws) ∈ n)
    (h : Wp G f A (assignInOrder ((assignEach es env).map (·.2)) ws) vs n Q E)
    (hn : (assignEach es env).length = ws.length := by rfl) (hstar : (assignEach es env).findIdx? (·.1) = none := by rfl) : Wp G f A (assign (.Tuple es k p) env (.ref a)) vs n Q E := by
  constructor; intro s S
  refine wpAny_assign_Tuple hh (S.tup hm) (by simpa using hn) hstar fun h' he => ?_
  exact h.run _ (S.extBut he (Nat.le_refl _) s.toks)
theorem Wp.conTup {es : List Expr} {k : Nat} {tp pos : Pos} {value : Expr} {Q : Flow → Vals → Led → Prop}
    (h : Wp G f A (eval value env) vs n (fun v vs1 n1 => Wp G f A (assign (.Tuple es k tp) env v) vs1 n1 (fun _ vs2 n2 => Wp G f A (execs rest env) vs2 n2 Q E) E) E)
    (hs : swapsWithSole [.Tuple es k tp] value pos.line env = Pure.pure false := by rfl) (hw : swappedStores [.Tuple es k tp] value env = Pure.pure none := by rfl) :
    Wp G f A (execs (.Assign [.Tuple es k tp] value pos :: rest) env) vs n Q E :=
  Wp.cons ⟨fun s S => Assign_Tuple (wpAny_mono (h.run s S) (fun _ s1 ⟨_, _, S1, q1⟩ => wpAny_mono (q1.run s1 S1) (fun _ s2 ⟨_, _, S2, q2⟩ => ⟨_, _, S2, q2⟩) fun _ _ x => x) fun _ _ x => x) hs hw⟩
/-- x, y = value -/
theorem Wp.conT {x y : Str} {px py tp pos : Pos} {k : Nat} {value : Expr} {Q : Flow → Vals → Led → Prop} (hh : A.handled = none)
    (h : Wp G f A (eval value env) vs n (fun v vs1 n1 => ∃ a v1 v2, v = .ref a ∧ (a, Tup [v1, v2]) ∈ n1 ∧ Wp G f A (storeName env x v1) vs1 n1 (fun _ vs2 n2 => Wp G f A (storeName env y v2) vs2 n2 (fun _ vs3 n3 => Wp G f A (execs rest env) vs3 n3 Q E) E) E) E)
    (hs : swapsWithSole [.Tuple [.Name x px, .Name y py] k tp] value pos.line env = Pure.pure false := by rfl) (hw : swappedStores [.Tuple [.Name x px, .Name y py] k tp] value env = Pure.pure none := by rfl) :
    Wp G f A (execs (.Assign [.Tuple [.Name x px, .Name y py] k tp] value pos :: rest) env) vs n Q E := by
  refine Wp.conTup (h.monoQ fun v vs1 n1 ⟨a, v1, v2, e, hm, q⟩ => ?_) hs hw
  subst e
  exact Wp.asgT hh hm (Wp.aio (q.monoQ fun _ vs2 n2 q2 => Wp.aio (q2.monoQ fun _ vs3 n3 q3 => Wp.aio0 q3)))

/-- a method of a dict -/
theorem Wp.gmDic {Q : Value × List Value → Vals → Led → Prop} {d : Addr} {o : Obj} {kvs : List (Str × Value)} {id : String} {name : Str} {pl : Sem Bool} (hm : (d, o) ∈ n) (hd : DicO G o kvs) (slot : PySem.Slot "dict" name id) (ty : typeOf (.builtin id) = Pure.pure (.type "method_descriptor"))
    (h : Q (.builtin id, [.ref d]) vs n) : Wp G f A (getMethod (.ref d) name pl) vs n Q E :=
  let ⟨_, _, ⟨h1, h2⟩, _⟩ := hd
  Wp.gm hm PySem.F.plainAttrs_dict slot ty h h1 h2.1
end

/-- what stands behind a place in bytes -/
theorem cut_at {pre rest : List UInt8} {k : Nat} : KBy.picked (pre ++ rest).toArray (some (pre.length : Int)) (some ((pre.length + k : Nat) : Int)) = (rest.take k).toArray := by
  rw [KBc.picked_eq]
  simp only [Option.elim, List.size_toArray]
  rw [clipAt_nat, clipAt_nat, Nat.min_eq_left (show pre.length ≤ (pre ++ rest).length by simp)]
  congr 1
  rw [List.drop_left]
  by_cases h : pre.length + k ≤ (pre ++ rest).length
  · rw [Nat.min_eq_left h, show pre.length + k - pre.length = k by omega]
  · have h2 := h
    rw [List.length_append] at h2
    rw [Nat.min_eq_right (by omega), List.length_append, show pre.length + rest.length - pre.length = rest.length by omega, List.take_length, List.take_of_length_le (by omega)]

/-! what a reader of fields gives -/
def restR (tag : List UInt8) (enc : Nat → List UInt8) : List Nat → List UInt8
  | [] => []
  | [v] => enc v
  | v :: w :: r => enc v ++ (tag ++ restR tag enc (w :: r))
theorem restR_tag (tag : List UInt8) (enc : Nat → List UInt8) : ∀ (v : Nat) (r : List Nat), tag ++ restR tag enc (v :: r) = bodyB (fun v => tag ++ enc v) (v :: r)
  | v, [] => by simp [restR, bodyB]
  | v, w :: r => by
    have ih := restR_tag tag enc w r
    show tag ++ (enc v ++ (tag ++ restR tag enc (w :: r))) = (tag ++ enc v) ++ bodyB (fun v => tag ++ enc v) (w :: r)
    rw [ih, List.append_assoc]
def restB (mode : Nat) (tag : List UInt8) (enc : Nat → List UInt8) (vals : List Nat) : List UInt8 :=
  if mode = 0 then bodyB enc vals else if mode = 1 then restR tag enc vals else vint (bodyB enc vals).length ++ bodyB enc vals
structure DecF (G : Gl) (fv : Value) (nd : Led) (mode : Nat) (tag : List UInt8) (enc : Nat → List UInt8) (B : Nat → Prop) (key : Str) (k : Nat) : Prop where
  kp : ∀ n, (∀ p ∈ nd, p ∈ n) → KP G n fv
  run : ∀ (f : Fk) (A : Around) vs n (pre post : List UInt8) (v : Nat) (r : List Nat) (d : Addr) (od : Obj) (e : Nat) t u te E (Q : Value → Vals → Led → Prop), (∀ p ∈ nd, p ∈ n) → (∀ p ∈ nd, p.1 ≠ d) → (d, od) ∈ n → DicO G od [] → (d == sysModules) = false → Rm A k →
    (∀ x ∈ v :: r, B x) → (mode = 0 → r = []) → r.length ≤ 100 → (pre ++ (restB mode tag enc (v :: r) ++ post)).length ≤ 100000 → pre.length + (restB mode tag enc (v :: r)).length < e → post.take tag.length ≠ tag →
    (∀ n' dv od' t, (∀ p ∈ n, p.1 ≠ d → p ∈ n') → (d, od') ∈ n' → DicO G od' [(key, dv)] → ArgV n' mode (v :: r) dv → Q (.int ((pre.length + (restB mode tag enc (v :: r)).length : Nat) : Int) t) vs n') →
    Wp G f A (PySem.call fv [.bytes (pre ++ (restB mode tag enc (v :: r) ++ post)).toArray t, .int pre.length u, .int e te, .none, .ref d]) vs n Q E
/-- a reader of numbers, asked at a place in bytes -/
theorem DecV.run' {G : Gl} {dv : Value} {nd : Led} {enc : Nat → List UInt8} {B : Nat → Prop} {k : Nat} (D : DecV G dv nd enc id B k) {f : Fk} {A : Around} {vs : Vals} {n : Led} {E : Value → Shared → Prop} {Q : Value → Vals → Led → Prop} {buf pre post : List UInt8} {v : Nat} {p : Int} {t u : Tok}
    (hb : buf = pre ++ (enc v ++ post)) (hp : p = (pre.length : Int)) (hs : ∀ p ∈ nd, p ∈ n) (rm : Rm A k) (hB : B v) (hz : buf.length ≤ 100000)
    (h : ∀ a t1 t2, (∀ p ∈ n, p.1 < a) → Q (.ref a) vs ((a, Tup [.int v t1, .int ((pre.length + (enc v).length : Nat) : Int) t2]) :: n)) : Wp G f A (PySem.call dv [.bytes buf.toArray t, .int p u]) vs n Q E := by
  subst hb hp
  exact D.run f A vs n pre post v t u E Q hs rm hB hz h

def dSD : Stmt := sAt (dBody (sAt pTop 28)) 0
def dSD2 : Stmt := sAt (dBody (sAt (dBody dSD) 0)) 1
def dSD1 : Stmt := sAt (dBody (sAt (dElse (sAt (dBody dSD) 0)) 0)) 2
def dSD0 : Stmt := sAt (dElse (sAt (dElse (sAt (dBody dSD) 0)) 0)) 0
section
variable {G : Gl} {f : Fk} {A : Around} {vs : Vals} {n : Led} {E : Value → Shared → Prop} {Q : Value → Vals → Led → Prop}
theorem sd0 (hG : Ok G) {fa c1 c2 c3 dd : Addr} {o : Obj} {dv : Value} {nv : Led} {tag : List UInt8} {key : Str} {tk td : Tok} {k : Nat} {enc : Nat → List UInt8} {B : Nat → Prop}
    (hc : CloD dSD0 "_SimpleDecoder.<locals>.SpecificDecoder.<locals>.DecodeField" [("key", c3), ("decode_value", c2), ("clear_if_default", c1)] (.ref dd) o) (D : DecV G dv nv enc id B k) :
    DecF G (.ref fa) ((fa, o) :: (c1, cellObj (some (.bool false))) :: (c2, cellObj (some dv)) :: (c3, cellObj (some (.str key tk))) :: (dd, Tup [.int 0 td]) :: nv) 0 tag enc B key (k + 1) where
  kp := fun n hs => clo_fn (hs _ (.head _)) hc
  run := fun f A vs n pre post v r d od e t u te E Q hs hnd hd hdo hsm rm hB hr0 hr hz he htag h => by
    obtain rfl := hr0 rfl
    have hdd : (dd, Tup [.int 0 td]) ∈ n := hs _ (.tail _ (.tail _ (.tail _ (.tail _ (.head _)))))
    have hsv : ∀ p ∈ nv, p ∈ n := fun p hp => hs p (.tail _ (.tail _ (.tail _ (.tail _ (.tail _ hp)))))
    have eb : restB 0 tag enc [v] = enc v := by simp [restB, bodyB]
    rw [eb] at hz he h ⊢
    have hl : (pre ++ (enc v ++ post)).length = pre.length + (enc v).length + post.length := by simp; omega
    generalize hbuf : pre ++ (enc v ++ post) = buf at hz hl
    refine Wp.callN (ns := ["buffer", "pos", "end", "message", "field_dict", "current_depth", "new_value"]) (hs _ (.head _)) hc rm (binds := [("buffer", .bytes buf.toArray t), ("pos", .int pre.length u), ("end", .int e te), ("message", .none), ("field_dict", .ref d), ("current_depth", .int 0 td)]) (fun s _ _ _ _ S => BindsTo.of_defaults (T := dd) rfl (S.get hdd) rfl (by rfl) (by kernel_rfl)) (by decide +kernel) (by rfl) (fun g2 L2 A2 env2 cc he2 hin hlt2 rm2 => ⟨[("buffer", .loc 0), ("pos", .loc 1), ("end", .loc 2), ("message", .loc 3), ("field_dict", .loc 4), ("current_depth", .loc 5), ("new_value", .loc 6), ("clear_if_default", .cel c1), ("decode_value", .cel c2), ("key", .cel c3), ("DecodeError", .glo (.ref 37)), ("IsDefaultScalarValue", .glo (.ref 177))], [some (.bytes buf.toArray t), some (.int pre.length u), some (.int e te), some .none, some (.ref d), some (.int 0 td), none], n, ?_, ?_, fun r2 => ?_⟩)
    · rw [hG.K]; subst he2; walk_at "au_slots"
    · walk_at "au_pl"
    · have h1 : (c1, cellObj (some (.bool false))) ∈ n := hs _ (.tail _ (.head _))
      have h2 : (c2, cellObj (some dv)) ∈ n := hs _ (.tail _ (.tail _ (.head _)))
      have h3 : (c3, cellObj (some (.str key tk))) ∈ n := hs _ (.tail _ (.tail _ (.tail _ (.head _))))
      refine Wp.conT rm2.hh ?_
      walk_at "aus"
      refine ⟨D.kp _ hsv, D.run' (v := v) (pre := pre) (post := post) hbuf.symm rfl hsv rm2 (hB v (.head _)) hz fun a t1 t2 ha => ⟨a, _, _, rfl, .head _, ?_⟩⟩
      walk_at "aus"
      refine iF (by rw [decide_eq_false_iff_not]; omega) ?_
      walk_at "aus"
      refine iF rfl ?_
      refine iF rfl ?_
      refine Wp.conS ?_
      walk_at "aus"
      refine Wp.setD (.tail _ hd) hdo fun od' hd' => ?_
      walk_at "aus"
      have hda : a ≠ d := Nat.ne_of_gt (ha (d, od) hd)
      rw [upd_cons_ne hda]
      exact ⟨_, fun p hp => .tail _ hp, h (upd n d od') (.int v t1) od' t2 (fun p hp hne => mem_upd_ne (a := p.1) (o := p.2) hp hne) (mem_upd_self hd) hd' (.inl ⟨rfl, v, t1, rfl, rfl⟩)⟩
theorem sd1 (hG : Ok G) {fa c1 c2 c3 c4 c5 dd : Addr} {o : Obj} {dv : Value} {nv : Led} {tag : List UInt8} {key : Str} {tk td tt tl : Tok} {k : Nat} {enc : Nat → List UInt8} {B : Nat → Prop} (htl : tag.length ≤ 100)
    (hc : CloD dSD1 "_SimpleDecoder.<locals>.SpecificDecoder.<locals>.DecodeRepeatedField" [("tag_len", c5), ("tag_bytes", c4), ("new_default", c1), ("key", c3), ("decode_value", c2)] (.ref dd) o) (D : DecV G dv nv enc id B k) (hk : 1 ≤ k) :
    DecF G (.ref fa) ((fa, o) :: (c1, cellObj (some (.ref 245))) :: (c2, cellObj (some dv)) :: (c3, cellObj (some (.str key tk))) :: (dd, Tup [.int 0 td]) :: (c4, cellObj (some (.bytes tag.toArray tt))) :: (c5, cellObj (some (.int tag.length tl))) :: nv) 1 tag enc B key (k + 1) where
  kp := fun n hs => clo_fn (hs _ (.head _)) hc
  run := fun f A vs n pre post v r d od e t u te E Q hs hnd hd hdo hsm rm hB hr0 hr hz he htag h => by
    have hdd : (dd, Tup [.int 0 td]) ∈ n := hs _ (.tail _ (.tail _ (.tail _ (.tail _ (.head _)))))
    have hsv : ∀ p ∈ nv, p ∈ n := fun p hp => hs p (.tail _ (.tail _ (.tail _ (.tail _ (.tail _ (.tail _ (.tail _ hp)))))))
    have hnv : ∀ p ∈ nv, p.1 ≠ d := fun p hp => hnd p (.tail _ (.tail _ (.tail _ (.tail _ (.tail _ (.tail _ (.tail _ hp)))))))
    have eb : restB 1 tag enc (v :: r) = restR tag enc (v :: r) := rfl
    rw [eb] at hz he h ⊢
    have hl : (pre ++ (restR tag enc (v :: r) ++ post)).length = pre.length + (restR tag enc (v :: r)).length + post.length := by simp; omega
    generalize hbuf : pre ++ (restR tag enc (v :: r) ++ post) = buf at hz hl
    refine Wp.callN (ns := ["buffer", "pos", "end", "message", "field_dict", "current_depth", "value", "element", "new_pos"]) (hs _ (.head _)) hc rm (binds := [("buffer", .bytes buf.toArray t), ("pos", .int pre.length u), ("end", .int e te), ("message", .none), ("field_dict", .ref d), ("current_depth", .int 0 td)]) (fun s _ _ _ _ S => BindsTo.of_defaults (T := dd) rfl (S.get hdd) rfl (by rfl) (by kernel_rfl)) (by decide +kernel) (by rfl) (fun g2 L2 A2 env2 cc he2 hin hlt2 rm2 => ⟨[("buffer", .loc 0), ("pos", .loc 1), ("end", .loc 2), ("message", .loc 3), ("field_dict", .loc 4), ("current_depth", .loc 5), ("value", .loc 6), ("element", .loc 7), ("new_pos", .loc 8), ("decode_value", .cel c2), ("key", .cel c3), ("new_default", .cel c1), ("tag_bytes", .cel c4), ("tag_len", .cel c5), ("DecodeError", .glo (.ref 37))], [some (.bytes buf.toArray t), some (.int pre.length u), some (.int e te), some .none, some (.ref d), some (.int 0 td), none, none, none], n, ?_, ?_, fun r2 => ?_⟩)
    · rw [hG.K]; subst he2; walk_at "au_slots"
    · walk_at "au_pl"
    · have h1 : (c1, cellObj (some (.ref 245))) ∈ n := hs _ (.tail _ (.head _))
      have h3 : (c3, cellObj (some (.str key tk))) ∈ n := hs _ (.tail _ (.tail _ (.tail _ (.head _))))
      have k1 : ∀ n, KP G n (.ref 245) := fun _ => .k hG (by rfl) ⟨_, _, _, _, rfl⟩
      refine Wp.conA ?_
      walk_at "aus"
      refine Wp.gmDic hd hdo PySem.F.slot_dict_get PySem.F.type_dict_get ?_
      walk_at "aus"
      refine ⟨.bui _, Wp.getNone hd hdo hsm ?_⟩
      walk_at "aus"
      refine Wp.isNN ?_
      walk_at "aus"
      refine iT rfl ?_
      walk_at "aus"
      refine Wp.gmDic hd hdo PySem.F.slot_dict_setdefault PySem.F.type_dict_setdefault ?_
      walk_at "aus"
      refine ⟨k1 _, new_ hG (rm2.le hk) fun l hlt => ?_⟩
      walk_at "aus"
      refine ⟨.bui _, Wp.setdef (.tail _ hd) hdo hsm fun od' hd' => ?_⟩
      have hld : l ≠ d := Nat.ne_of_gt (hlt (d, od) hd)
      rw [upd_cons_ne hld]
      walk_at "aus"
      have hin2 : ∀ p ∈ n, p.1 ≠ d → p ∈ upd n d od' := fun p hp hne => mem_upd_ne (a := p.1) (o := p.2) hp hne
      have hnl : ∀ p ∈ upd n d od', p.1 ≠ l := fun p hp => by
        rcases mem_upd hp with ⟨e1, _⟩ | ⟨hp, _⟩
        · rw [e1]; exact hld.symm
        · exact Nat.ne_of_lt (hlt p hp)
      refine Wp.conW (fun m vs' n' => ∃ (pre' : List UInt8) (w : Nat) (r' done : List Nat) (ws : List Value) (ep : Nat) (tp : Tok) (o7 o8 : Option Value), m = (w :: r').length ∧ done ++ w :: r' = v :: r ∧ buf = pre' ++ (restR tag enc (w :: r') ++ post) ∧ pre'.length + (restR tag enc (w :: r')).length = pre.length + (restR tag enc (v :: r)).length ∧
        vs' = [some (.bytes buf.toArray t), some (.int pre'.length tp), some (.int e te), some .none, some (.ref d), some (.int 0 td), some (.ref l), o7, o8] ∧ n' = (l, Lst ws ep) :: upd n d od' ∧ IntsAre ws (done.map fun x => ((x : Nat) : Int))) (v :: r).length
        ⟨pre, v, r, [], [], 0, u, none, none, rfl, rfl, hbuf.symm, rfl, rfl, rfl, .nil⟩ ?_
      rintro m vs' n' ⟨pre', w, r', done, ws, ep, tp, o7, o8, rfl, hdone, hb', hpl, rfl, rfl, hi⟩
      have hBw : B w := hB w (by rw [← hdone]; simp)
      have h2 : (c2, cellObj (some dv)) ∈ (l, Lst ws ep) :: upd n d od' := .tail _ (hin2 _ (hs _ (.tail _ (.tail _ (.head _)))) (hnd (c2, cellObj (some dv)) (.tail _ (.tail _ (.head _)))))
      have h4 : (c4, cellObj (some (.bytes tag.toArray tt))) ∈ upd n d od' := hin2 _ (hs _ (.tail _ (.tail _ (.tail _ (.tail _ (.tail _ (.head _))))))) (hnd (c4, cellObj (some (.bytes tag.toArray tt))) (.tail _ (.tail _ (.tail _ (.tail _ (.tail _ (.head _)))))))
      have h5 : (c5, cellObj (some (.int tag.length tl))) ∈ upd n d od' := hin2 _ (hs _ (.tail _ (.tail _ (.tail _ (.tail _ (.tail _ (.tail _ (.head _)))))))) (hnd (c5, cellObj (some (.int tag.length tl))) (.tail _ (.tail _ (.tail _ (.tail _ (.tail _ (.tail _ (.head _))))))))
      have hsv2 : ∀ p ∈ nv, p ∈ (l, Lst ws ep) :: upd n d od' := fun p hp => .tail _ (hin2 p (hsv p hp) (hnv p hp))
      have hdl : done.length + (r'.length + 1) = r.length + 1 := by have := congrArg List.length hdone; simpa using this
      have hwl : ws.length = done.length := by have := hi.length; rw [List.length_map] at this; exact this
      obtain ⟨post', hpost, hcase⟩ : ∃ post', restR tag enc (w :: r') ++ post = enc w ++ post' ∧ ((r' = [] ∧ post' = post) ∨ ∃ w2 r2, r' = w2 :: r2 ∧ post' = tag ++ (restR tag enc (w2 :: r2) ++ post)) := by
        cases r' with
        | nil => exact ⟨post, rfl, .inl ⟨rfl, rfl⟩⟩
        | cons w2 r2 => exact ⟨tag ++ (restR tag enc (w2 :: r2) ++ post), by simp [restR], .inr ⟨w2, r2, rfl, rfl⟩⟩
      rw [hpost] at hb'
      walk_at "aus"
      refine iT (by decide) ?_
      refine Wp.conT rm2.hh ?_
      walk_at "aus"
      refine ⟨D.kp _ hsv2, D.run' (v := w) hb' rfl hsv2 (rm2.le (by omega)) hBw hz fun a t1 t2 ha => ⟨a, _, _, rfl, .head _, ?_⟩⟩
      have hal : a ≠ l := Nat.ne_of_gt (ha (l, Lst ws ep) (.head _))
      walk_at "aus"
      refine Wp.gm (.tail _ (.head _)) PySem.F.plainAttrs_list slot_list_append type_list_append ?_
      walk_at "aus"
      refine ⟨.bui _, Wp.append (.tail _ (.head _)) (by omega) ⟨rfl, ?_⟩⟩
      rw [upd_cons_ne hal, upd_cons, upd_id hnl]
      have h5x : (c5, cellObj (some (.int tag.length tl))) ∈ (l, Lst (ws ++ [Value.int w t1]) (ep + 1)) :: upd n d od' := .tail _ h5
      have h4x : (c4, cellObj (some (.bytes tag.toArray tt))) ∈ (l, Lst (ws ++ [Value.int w t1]) (ep + 1)) :: upd n d od' := .tail _ h4
      walk_at "aus"
      intro sl hsl
      rw [show (((pre'.length + (enc w).length : Nat) : Int) + (tag.length : Int)) = (((pre'.length + (enc w).length) + tag.length : Nat) : Int) by push_cast; rfl]
      refine Wp.cutB (.head _) (.int _ _) (.int _ _) (by rw [List.size_toArray]; omega) fun tb => ?_
      have hcut : KBy.picked buf.toArray (some ((pre'.length + (enc w).length : Nat) : Int)) (some (((pre'.length + (enc w).length) + tag.length : Nat) : Int)) = (post'.take tag.length).toArray := by
        have := cut_at (pre := pre' ++ enc w) (rest := post') (k := tag.length)
        rw [List.length_append, List.append_assoc, ← hb'] at this
        exact this
      rw [hcut]
      walk_at "aus"
      rcases hcase with ⟨rfl, rfl⟩ | ⟨w2, r2, rfl, rfl⟩
      · refine iT (by rw [bne_iff_ne]; exact htag) ?_
        refine iT rfl ?_
        have hle : pre'.length + (enc w).length < e := by rw [← hpl] at he; exact he
        walk_at "aus"
        refine iF (by rw [decide_eq_false_iff_not]; omega) ?_
        walk_at "aus"
        have h' := fun tz => h ((l, Lst (ws ++ [Value.int w t1]) (ep + 1)) :: upd n d od') (.ref l) od' tz (fun p hp hne => .tail _ (hin2 p hp hne)) (.tail _ (mem_upd_self hd)) hd' (.inr ⟨by decide, l, _, _, rfl, .head _, by rw [← hdone, List.map_append]; exact intsAre_snoc hi _ _⟩)
        rw [← hpl] at h'
        exact ⟨_, fun p hp => .tail _ (.tail _ hp), h' _⟩
      · refine iF (by rw [bne_eq_false_iff_eq]; simp) ?_
        walk_at "aus"
        have hrl : (restR tag enc (w :: w2 :: r2)).length = (enc w).length + (tag.length + (restR tag enc (w2 :: r2)).length) := by simp [restR]
        refine iF (by rw [decide_eq_false_iff_not]; omega) ?_
        walk_at "aus"
        refine iF rfl ?_
        walk_at "aus"
        refine ⟨(w2 :: r2).length, (l, Lst (ws ++ [Value.int w t1]) (ep + 1)) :: upd n d od', by simp, fun p hp => .tail _ (.tail _ hp), (pre' ++ enc w) ++ tag, w2, r2, done ++ [w], ws ++ [Value.int w t1], ep + 1, _, _, _, rfl, by rw [List.append_assoc]; exact hdone, by rw [hb']; simp, by simp only [List.length_append]; omega, by rw [List.length_append, List.length_append]; rfl, rfl, by rw [List.map_append]; exact intsAre_snoc hi _ _⟩
end
end

section
set_option maxHeartbeats 4000000
open PySem PySem.Spec PySem.Calls PyProof.Rows PySem.W

theorem bodyB_cons (enc : Nat → List UInt8) (v : Nat) (r : List Nat) : bodyB enc (v :: r) = enc v ++ bodyB enc r := rfl
/-- the frame of the reader of packed fields -/
def nsSD2 : List Str := ["buffer", "pos", "end", "message", "field_dict", "current_depth", "value", "endpoint", "element"]
def RSD2 (c1 c2 c3 c4 : Addr) : List (Str × Slot) := [("buffer", .loc 0), ("pos", .loc 1), ("end", .loc 2), ("message", .loc 3), ("field_dict", .loc 4), ("current_depth", .loc 5), ("value", .loc 6), ("endpoint", .loc 7), ("element", .loc 8), ("decode_value", .cel c2), ("key", .cel c3), ("local_DecodeVarint", .cel c4), ("new_default", .cel c1), ("DecodeError", .glo (.ref 37))]
section
variable {G : Gl} {f : Fk} {A : Around} {vs : Vals} {n : Led} {E : Value → Shared → Prop}
theorem decodeVarint' (hG : Ok G) (rm : Rm A 2) {Q : Value → Vals → Led → Prop} {x : Nat} (hx : x < 2 ^ 56) {buf pre post : List UInt8} {t u : Tok} (hb : buf = pre ++ (vint x ++ post)) (hz : buf.length ≤ 100000)
    (h : ∀ a t1 t2, (∀ p ∈ n, p.1 < a) → Q (.ref a) vs ((a, Tup [.int x t1, .int ((pre.length + (vint x).length : Nat) : Int) t2]) :: n)) :
    Wp G f A (PySem.call (.ref 191) [.bytes buf.toArray t, .int pre.length u]) vs n Q E := by
  subst hb
  exact decodeVarint hG rm hx hz h
theorem sd2core (hG : Ok G) {g2 : Heap} {L2 : Addr} {A2 : Around} {env2 : Env} {c1 c2 c3 c4 d : Addr} {od : Obj} {dv : Value} {nv : Led} {key : Str} {tk td t u te : Tok} {k : Nat} {enc : Nat → List UInt8} {B : Nat → Prop} {Q : Flow → Vals → Led → Prop} {Eb : Value → Shared → Prop}
    (r2 : Res G ⟨g2, L2, nsSD2⟩ env2 (RSD2 c1 c2 c3 c4)) (hint : interactive env2 = false) (rm2 : Rm A2 (k + 2)) (D : DecV G dv nv enc id B k)
    (h1 : (c1, cellObj (some (.ref 245))) ∈ n) (h2 : (c2, cellObj (some dv)) ∈ n) (h3 : (c3, cellObj (some (.str key tk))) ∈ n) (h4 : (c4, cellObj (some (.ref 191))) ∈ n) (hsv : ∀ p ∈ nv, p ∈ n)
    (h2d : c2 ≠ d) (h4d : c4 ≠ d) (hnv : ∀ p ∈ nv, p.1 ≠ d) (hd : (d, od) ∈ n) (hdo : DicO G od []) (hsm : (d == sysModules) = false)
    {buf pre post : List UInt8} {x c e : Nat} {vals : List Nat} (hB : ∀ v ∈ vals, B v) (hvl : vals.length ≤ 1000) (hz : buf.length ≤ 100000) (hbuf : buf = pre ++ (vint x ++ (bodyB enc vals ++ post))) (hx : x + c = (bodyB enc vals).length)
    (hcut : ∀ done w r, done ++ w :: r = vals → c < (bodyB enc (w :: r)).length) (he : pre.length + (vint x).length + x ≤ e)
    (K : ∀ l ws ep od' t1 t2 o8, (∀ p ∈ n, p.1 < l) → l ≠ d → DicO G od' [(key, .ref l)] → IntsAre ws (vals.map fun x => ((x : Nat) : Int)) →
      Wp G ⟨g2, L2, nsSD2⟩ A2 (execs ((dBody dSD2).drop 6) env2) [some (.bytes buf.toArray t), some (.int ((pre.length + (vint x).length + x + c : Nat) : Int) t1), some (.int e te), some .none, some (.ref d), some (.int 0 td), some (.ref l), some (.int ((pre.length + (vint x).length + x : Nat) : Int) t2), o8] ((l, Lst ws ep) :: upd n d od') Q Eb) :
    Wp G ⟨g2, L2, nsSD2⟩ A2 (execs (dBody dSD2) env2) [some (.bytes buf.toArray t), some (.int pre.length u), some (.int e te), some .none, some (.ref d), some (.int 0 td), none, none, none] n Q Eb := by
  have hl : buf.length = pre.length + (vint x).length + (bodyB enc vals).length + post.length := by rw [hbuf]; simp; omega
  have k1 : ∀ n, KP G n (.ref 245) := fun _ => .k hG (by rfl) ⟨_, _, _, _, rfl⟩
  have k2 : ∀ n, KP G n (.ref 191) := fun _ => .k hG (by rfl) ⟨_, _, _, _, rfl⟩
  unfold RSD2 at r2
  refine Wp.conA ?_
  walk_at "aus"
  refine Wp.gmDic hd hdo PySem.F.slot_dict_get PySem.F.type_dict_get ?_
  walk_at "aus"
  refine ⟨.bui _, Wp.getNone hd hdo hsm ?_⟩
  walk_at "aus"
  refine Wp.isNN ?_
  walk_at "aus"
  refine iT rfl ?_
  walk_at "aus"
  refine Wp.gmDic hd hdo PySem.F.slot_dict_setdefault PySem.F.type_dict_setdefault ?_
  walk_at "aus"
  refine ⟨k1 _, new_ hG (rm2.le (by omega)) fun l hlt => ?_⟩
  walk_at "aus"
  refine ⟨.bui _, Wp.setdef (.tail _ hd) hdo hsm fun od' hd' => ?_⟩
  have hld : l ≠ d := Nat.ne_of_gt (hlt (d, od) hd)
  rw [upd_cons_ne hld]
  have hin2 : ∀ p ∈ n, p.1 ≠ d → p ∈ upd n d od' := fun p hp hne => mem_upd_ne (a := p.1) (o := p.2) hp hne
  have hnl : ∀ p ∈ upd n d od', p.1 ≠ l := fun p hp => by
    rcases mem_upd hp with ⟨e1, _⟩ | ⟨hp, _⟩
    · rw [e1]; exact hld.symm
    · exact Nat.ne_of_lt (hlt p hp)
  have h4x : (c4, cellObj (some (.ref 191))) ∈ (l, Lst []) :: upd n d od' := .tail _ (hin2 _ h4 h4d)
  walk_at "aus"
  refine Wp.conT rm2.hh ?_
  walk_at "aus"
  refine ⟨k2 _, decodeVarint' hG (rm2.le (by omega)) (x := x) (by omega) hbuf hz fun a t1 t2 ha => ⟨a, _, _, rfl, .head _, ?_⟩⟩
  refine Wp.drop (n' := (l, Lst []) :: upd n d od') (fun p hp => .tail _ hp) ?_
  walk_at "aus"
  refine iF (by rw [decide_eq_false_iff_not]; omega) ?_
  refine Wp.conW (fun m vs' n' => ∃ (pre' : List UInt8) (rest' done : List Nat) (ws : List Value) (ep : Nat) (tp tq : Tok) (o8 : Option Value), m = rest'.length ∧ done ++ rest' = vals ∧ buf = pre' ++ (bodyB enc rest' ++ post) ∧ pre'.length + (bodyB enc rest').length = pre.length + (vint x).length + x + c ∧
    vs' = [some (.bytes buf.toArray t), some (.int pre'.length tp), some (.int e te), some .none, some (.ref d), some (.int 0 td), some (.ref l), some (.int ((pre.length + (vint x).length + x : Nat) : Int) tq), o8] ∧ n' = (l, Lst ws ep) :: upd n d od' ∧ IntsAre ws (done.map fun x => ((x : Nat) : Int))) vals.length
    ⟨pre ++ vint x, vals, [], [], 0, _, _, none, rfl, rfl, by rw [hbuf]; simp, by rw [List.length_append]; omega, by rw [List.length_append, show (x : Int) + ((pre.length + (vint x).length : Nat) : Int) = ((pre.length + (vint x).length + x : Nat) : Int) by push_cast; omega]; rfl, rfl, .nil⟩ ?_
  rintro m vs' n' ⟨pre', rest', done, ws, ep, tp, tq, o8, rfl, hdone, hb', hpl, rfl, rfl, hi⟩
  walk_at "aus"
  cases rest' with
  | nil =>
    have hpn : pre'.length = pre.length + (vint x).length + x + c := by simpa [bodyB] using hpl
    refine iF (by rw [decide_eq_false_iff_not]; omega) ?_
    rw [hpn]
    rw [List.append_nil] at hdone
    rw [hdone] at hi
    exact K l ws ep od' tp tq o8 hlt hld hd' hi
  | cons w r' =>
    have hcw := hcut done w r' hdone
    rw [bodyB_cons] at hcw hpl hb'
    rw [List.length_append] at hcw hpl
    have hBw : B w := hB w (by rw [← hdone]; simp)
    have hdl : done.length + (r'.length + 1) = vals.length := by have := congrArg List.length hdone; simpa using this
    have hwl : ws.length = done.length := by have := hi.length; rw [List.length_map] at this; exact this
    have h2x : (c2, cellObj (some dv)) ∈ (l, Lst ws ep) :: upd n d od' := .tail _ (hin2 _ h2 h2d)
    have hsv2 : ∀ p ∈ nv, p ∈ (l, Lst ws ep) :: upd n d od' := fun p hp => .tail _ (hin2 p (hsv p hp) (hnv p hp))
    refine iT (by rw [decide_eq_true_iff]; omega) ?_
    refine Wp.conT rm2.hh ?_
    walk_at "aus"
    refine ⟨D.kp _ hsv2, D.run' (v := w) (post := bodyB enc r' ++ post) (by rw [hb', List.append_assoc]) rfl hsv2 (rm2.le (by omega)) hBw hz fun a t1 t2 ha => ⟨a, _, _, rfl, .head _, ?_⟩⟩
    refine Wp.drop (n' := (l, Lst ws ep) :: upd n d od') (fun p hp => .tail _ hp) ?_
    walk_at "aus"
    refine Wp.conE ?_ (hi := hint)
    walk_at "aus"
    refine Wp.gm (.head _) PySem.F.plainAttrs_list slot_list_append type_list_append ?_
    walk_at "aus"
    refine ⟨.bui _, Wp.append (.head _) (by omega) ⟨rfl, ?_⟩⟩
    rw [upd_cons, upd_id hnl]
    walk_at "aus"
    exact ⟨r'.length, _, by simp, fun p hp => hp, pre' ++ enc w, r', done ++ [w], ws ++ [Value.int w t1], ep + 1, _, _, _, rfl, by rw [List.append_assoc]; exact hdone, by rw [hb']; simp, by rw [List.length_append]; omega, by rw [List.length_append]; rfl, rfl, by rw [List.map_append]; exact intsAre_snoc hi _ _⟩
theorem sd2 (hG : Ok G) {fa c1 c2 c3 c4 dd : Addr} {o : Obj} {dv : Value} {nv : Led} {tag : List UInt8} {key : Str} {tk td : Tok} {k : Nat} {enc : Nat → List UInt8} {B : Nat → Prop} (hen : ∀ v, 0 < (enc v).length)
    (hc : CloD dSD2 "_SimpleDecoder.<locals>.SpecificDecoder.<locals>.DecodePackedField" [("new_default", c1), ("local_DecodeVarint", c4), ("key", c3), ("decode_value", c2)] (.ref dd) o) (D : DecV G dv nv enc id B k) :
    DecF G (.ref fa) ((fa, o) :: (c1, cellObj (some (.ref 245))) :: (c2, cellObj (some dv)) :: (c3, cellObj (some (.str key tk))) :: (dd, Tup [.int 0 td]) :: (c4, cellObj (some (.ref 191))) :: nv) 2 tag enc B key (k + 3) where
  kp := fun n hs => clo_fn (hs _ (.head _)) hc
  run := fun f A vs n pre post v r d od e t u te E Q hs hnd hd hdo hsm rm hB hr0 hr hz he htag h => by
    have hdd : (dd, Tup [.int 0 td]) ∈ n := hs _ (.tail _ (.tail _ (.tail _ (.tail _ (.head _)))))
    have hsv : ∀ p ∈ nv, p ∈ n := fun p hp => hs p (.tail _ (.tail _ (.tail _ (.tail _ (.tail _ (.tail _ hp))))))
    have hnv : ∀ p ∈ nv, p.1 ≠ d := fun p hp => hnd p (.tail _ (.tail _ (.tail _ (.tail _ (.tail _ (.tail _ hp))))))
    have eb : restB 2 tag enc (v :: r) = vint (bodyB enc (v :: r)).length ++ bodyB enc (v :: r) := rfl
    rw [eb] at hz he h ⊢
    generalize hx : (bodyB enc (v :: r)).length = x at hz he h ⊢
    rw [List.length_append, hx] at he h
    generalize hbuf : pre ++ (vint x ++ bodyB enc (v :: r) ++ post) = buf at hz
    refine Wp.callN (ns := nsSD2) (hs _ (.head _)) hc rm (binds := [("buffer", .bytes buf.toArray t), ("pos", .int pre.length u), ("end", .int e te), ("message", .none), ("field_dict", .ref d), ("current_depth", .int 0 td)]) (fun s _ _ _ _ S => BindsTo.of_defaults (T := dd) rfl (S.get hdd) rfl (by rfl) (by kernel_rfl)) (by decide +kernel) (by rfl) (fun g2 L2 A2 env2 cc he2 hin hlt2 rm2 => ⟨RSD2 c1 c2 c3 c4, [some (.bytes buf.toArray t), some (.int pre.length u), some (.int e te), some .none, some (.ref d), some (.int 0 td), none, none, none], n, ?_, ?_, fun r2 => ?_⟩)
    · rw [hG.K]; subst he2; unfold RSD2 nsSD2; walk_at "au_slots"
    · unfold RSD2 nsSD2; walk_at "au_pl"
    · refine sd2core hG r2 (by subst he2; rfl) rm2 D (hs _ (.tail _ (.head _))) (hs _ (.tail _ (.tail _ (.head _)))) (hs _ (.tail _ (.tail _ (.tail _ (.head _))))) (hs _ (.tail _ (.tail _ (.tail _ (.tail _ (.tail _ (.head _))))))) hsv
        (hnd (c2, _) (.tail _ (.tail _ (.head _)))) (hnd (c4, _) (.tail _ (.tail _ (.tail _ (.tail _ (.tail _ (.head _))))))) hnv hd hdo hsm (vals := v :: r) (x := x) (c := 0) (post := post) hB (by simp; omega) hz (by rw [← hbuf, List.append_assoc]) (by omega) (fun done w r _ => by rw [bodyB_cons, List.length_append]; have := hen w; omega) (by omega)
        fun l ws ep od' t1 t2 o8 hlt hld hd' hi => ?_
      unfold RSD2 at r2
      refine Wp.conI1 ?_
      walk_at "aus"
      refine iF (by rw [decide_eq_false_iff_not]; omega) ?_
      walk_at "aus"
      have h' := fun tz => h ((l, Lst ws ep) :: upd n d od') (.ref l) od' tz (fun p hp hne => .tail _ (mem_upd_ne (a := p.1) (o := p.2) hp hne)) (.tail _ (mem_upd_self hd)) hd' (.inr ⟨by decide, l, _, _, rfl, .head _, hi⟩)
      rw [← Nat.add_assoc] at h'
      exact ⟨_, fun p hp => hp, h' _⟩
end
end

section
set_option maxHeartbeats 4000000
open PySem PySem.Spec PySem.Calls PyProof.Rows PySem.W

theorem sub_cons {x : Addr × Obj} {l l' : Led} (h : x ∈ l') (r : ∀ p ∈ l, p ∈ l') : ∀ p ∈ x :: l, p ∈ l' := fun p hp => (List.mem_cons.mp hp).elim (fun e => e ▸ h) (r p)
local macro_rules | `(tactic| walk_at "au_sub") => `(tactic| ((repeat (refine sub_cons (by walk_at "au_m") ?_)); intro p hp; (repeat apply List.Mem.tail); exact hp))
theorem DecF.mono {G : Gl} {fv : Value} {nd nd' : Led} {mode : Nat} {tag : List UInt8} {enc : Nat → List UInt8} {B : Nat → Prop} {key : Str} {k k' : Nat} (F : DecF G fv nd mode tag enc B key k) (hs : ∀ p ∈ nd, p ∈ nd') (hk : k ≤ k') : DecF G fv nd' mode tag enc B key k' where
  kp := fun n h => F.kp n fun p hp => h p (hs p hp)
  run := fun f A vs n pre post v r d od e t u te E Q h h2 h3 h4 h5 rm => F.run f A vs n pre post v r d od e t u te E Q (fun p hp => h p (hs p hp)) (fun p hp => h2 p (hs p hp)) h3 h4 h5 (rm.le hk)
/-- a reader of packed fields, as it was made -/
def PkD (fv : Value) (nd nv : Led) (dv : Value) (key : Str) : Prop :=
  ∃ fa c1 c2 c3 c4 dd o tk td, fv = .ref fa ∧ CloD dSD2 "_SimpleDecoder.<locals>.SpecificDecoder.<locals>.DecodePackedField" [("new_default", c1), ("local_DecodeVarint", c4), ("key", c3), ("decode_value", c2)] (.ref dd) o ∧
    ∀ p ∈ (fa, o) :: (c1, cellObj (some (.ref 245))) :: (c2, cellObj (some dv)) :: (c3, cellObj (some (.str key tk))) :: (dd, Tup [.int 0 td]) :: (c4, cellObj (some (.ref 191))) :: nv, p ∈ nd
/-- what makes readers of fields -/
structure DecM (G : Gl) (sv : Value) (nd : Led) (wire : Nat) (dv : Value) (nv : Led) (enc : Nat → List UInt8) (B : Nat → Prop) (k : Nat) : Prop where
  kp : ∀ n, (∀ p ∈ nd, p ∈ n) → KP G n sv
  run : ∀ (f : Fk) (A : Around) vs n (num mode : Nat) t key tk E (Q : Value → Vals → Led → Prop), (∀ p ∈ nd, p ∈ n) → Rm A k → num < 1073741824 → mode ≤ 2 →
    (∀ fv m, Fresh m n → DecF G fv (m ++ nd) mode (vint (8 * num + wire)) enc B key k → (mode = 2 → PkD fv (m ++ nd) nv dv key) → Q fv vs (m ++ n)) → Wp G f A (PySem.call sv [.int num t, .bool (decide (0 < mode)), .bool (decide (mode = 2)), .str key tk, .ref 245]) vs n Q E
section
variable {G : Gl} {f : Fk} {A : Around} {vs : Vals} {n : Led} {E : Value → Shared → Prop} {Q : Value → Vals → Led → Prop}
theorem simpleDecoder (hG : Ok G) (rm : Rm A 1) {wv dv : Value} (h : ∀ fa dd cw cd o, CloD dSD "_SimpleDecoder.<locals>.SpecificDecoder" [("wire_type", cw), ("decode_value", cd)] (.ref dd) o → (∀ p ∈ n, p.1 < cw ∧ p.1 < cd ∧ p.1 < dd ∧ p.1 < fa) → Q (.ref fa) vs ((fa, o) :: (dd, Tup [.bool false]) :: (cw, cellObj (some wv)) :: (cd, cellObj (some dv)) :: n)) :
    Wp G f A (PySem.call (.ref 198) [wv, dv]) vs n Q E := by
  refine Wp.callK hG (ns := ["SpecificDecoder"]) rm (by rfl) (by kernel_rfl) (fun s _ => BindsTo.of_eq (by rfl)) (by decide +kernel) (by rfl) (fun g L A' env he hlt rm' => ⟨[("wire_type", .cel (L + 1)), ("decode_value", .cel (L + 2)), ("SpecificDecoder", .loc 0)], [none], upd (upd ((L + 1, cellObj none) :: (L + 2, cellObj none) :: n) (L + 1) (cellObj (some wv))) (L + 2) (cellObj (some dv)), ?_, ?_, fun r => ?_⟩)
  · subst he; walk_at "au_slots"
  · exact .cel (by subst he; kernel_rfl) (by walk_at "au_m") (.head _) (.cel (by subst he; kernel_rfl) (by walk_at "au_m") (mem_upd_ne (.tail _ (.head _)) (addr_ne (i := 2) (j := 1) (by decide))) .nil)
  · rw [upd_cons, upd_cons_ne (by simp : L + 2 ≠ L + 1), upd_id (ne_add hlt)]
    rw [upd_cons_ne (by simp : L + 1 ≠ L + 2), upd_cons, upd_id (ne_add hlt)]
    refine Wp.cons (Wp.fdef1 (by subst he; rfl) (by subst he; rfl) (by subst he; rfl) (.inl (by rw [hG.codes]; simp)) (by subst he; rfl) (by rw [hG.q]; rfl) rfl rfl (by rfl) ?_)
    walk_at "aus"
    refine ⟨rfl, rfl, fun dd fa o hc hd hda => ?_⟩
    walk_at "aus"
    have hdn : ∀ p ∈ n, p.1 < dd := fun p hp => hd p (.tail _ (.tail _ hp))
    exact ⟨_, fun p hp => hp, h fa dd (L + 1) (L + 2) o hc fun p hp => ⟨lt_add hlt p hp, lt_add hlt p hp, hdn p hp, Nat.lt_trans (hdn p hp) hda⟩⟩
theorem specificDecoder (hG : Ok G) {fa dd cw cd : Addr} {o : Obj} {dv : Value} {nv : Led} {wire : Nat} {tw : Tok} {k : Nat} {enc : Nat → List UInt8} {B : Nat → Prop} (hw : wire ≤ 5) (hen : ∀ v, 0 < (enc v).length) (hc : CloD dSD "_SimpleDecoder.<locals>.SpecificDecoder" [("wire_type", cw), ("decode_value", cd)] (.ref dd) o) (D : DecV G dv nv enc id B k) (hk : 1 ≤ k) :
    DecM G (.ref fa) ((fa, o) :: (dd, Tup [.bool false]) :: (cw, cellObj (some (.int wire tw))) :: (cd, cellObj (some dv)) :: nv) wire dv nv enc B (k + 5) where
  kp := fun n hs => clo_fn (hs _ (.head _)) hc
  run := fun f A vs n num mode t key tk E Q hs rm hnum hmode h => by
    have hdd : (dd, Tup [.bool false]) ∈ n := hs _ (.tail _ (.head _))
    refine Wp.callN (ns := ["field_number", "is_repeated", "is_packed", "DecodePackedField", "DecodeRepeatedField", "DecodeField"]) (hs _ (.head _)) hc rm (binds := [("field_number", .int num t), ("is_repeated", .bool (decide (0 < mode))), ("is_packed", .bool (decide (mode = 2))), ("key", .str key tk), ("new_default", .ref 245), ("clear_if_default", .bool false)]) (fun s _ _ _ _ S => BindsTo.of_defaults (T := dd) rfl (S.get hdd) rfl (by rfl) (by kernel_rfl)) (by decide +kernel) (by rfl)
      (fun g2 L A2 env2 cx he2 hin hlt2 rm2 => ⟨[("field_number", .loc 0), ("is_repeated", .loc 1), ("is_packed", .loc 2), ("key", .cel (L + 1)), ("new_default", .cel (L + 2)), ("clear_if_default", .cel (L + 3)), ("DecodePackedField", .loc 3), ("DecodeRepeatedField", .loc 4), ("DecodeField", .loc 5), ("local_DecodeVarint", .cel (L + 4)), ("tag_bytes", .cel (L + 5)), ("tag_len", .cel (L + 6)), ("decode_value", .cel cd), ("wire_type", .cel cw), ("_DecodeVarint", .glo (.ref 191)), ("TagBytes", .glo (.ref 149)), ("len", .bui (.builtin "len"))],
        [some (.int num t), some (.bool (decide (0 < mode))), some (.bool (decide (mode = 2))), none, none, none], upd (upd (upd ((L + 1, cellObj none) :: (L + 2, cellObj none) :: (L + 3, cellObj none) :: (L + 4, cellObj none) :: (L + 5, cellObj none) :: (L + 6, cellObj none) :: n) (L + 1) (cellObj (some (.str key tk)))) (L + 2) (cellObj (some (.ref 245)))) (L + 3) (cellObj (some (.bool false))), ?_, ?_, fun r2 => ?_⟩)
    · rw [hG.K]; subst he2; walk_at "au_slots"
    · exact .loc (.head _) (by simp) (.loc (by walk_at "au_m") (by simp) (.loc (by walk_at "au_m") (by simp) (.cel (by subst he2; kernel_rfl) (by walk_at "au_m") (.head _) (.cel (by subst he2; kernel_rfl) (by walk_at "au_m") (mem_upd_ne (.tail _ (.head _)) (addr_ne (i := 2) (j := 1) (by decide))) (.cel (by subst he2; kernel_rfl) (by walk_at "au_m") (mem_upd_ne (mem_upd_ne (.tail _ (.tail _ (.head _))) (addr_ne (i := 3) (j := 1) (by decide))) (addr_ne (i := 3) (j := 2) (by decide))) .nil)))))
    · have hin' : ∀ a b c d e g, CodeIn G (a :: b :: c :: d :: e :: g :: n) cx := fun a b c d e g => codeIn_app [a, b, c, d, e, g] hin
      have k1 : ∀ n, KP G n (.ref 149) := fun _ => .k hG (by rfl) ⟨_, _, _, _, rfl⟩
      have hcw : (cw, cellObj (some (.int wire tw))) ∈ n := hs _ (.tail _ (.tail _ (.head _)))
      have hvl : (vint (8 * num + wire)).length ≤ 60 := vint_len_le _ (by omega)
      rw [upd_cons, upd_cons_ne (by simp : L + 2 ≠ L + 1), upd_cons_ne (by simp : L + 3 ≠ L + 1), upd_cons_ne (by simp : L + 4 ≠ L + 1), upd_cons_ne (by simp : L + 5 ≠ L + 1), upd_cons_ne (by simp : L + 6 ≠ L + 1), upd_id (ne_add hlt2)]
      rw [upd_cons_ne (by simp : L + 1 ≠ L + 2), upd_cons, upd_cons_ne (by simp : L + 3 ≠ L + 2), upd_cons_ne (by simp : L + 4 ≠ L + 2), upd_cons_ne (by simp : L + 5 ≠ L + 2), upd_cons_ne (by simp : L + 6 ≠ L + 2), upd_id (ne_add hlt2)]
      rw [upd_cons_ne (by simp : L + 1 ≠ L + 3), upd_cons_ne (by simp : L + 2 ≠ L + 3), upd_cons, upd_cons_ne (by simp : L + 4 ≠ L + 3), upd_cons_ne (by simp : L + 5 ≠ L + 3), upd_cons_ne (by simp : L + 6 ≠ L + 3), upd_id (ne_add hlt2)]
      refine Wp.conI ?_
      walk_at "aus"
      refine iB (fun hm2 => ?_) (fun hm2 => ?_)
      · subst hm2
        walk_at "aus"
        rw [upd_cons_ne (by simp : L + 1 ≠ L + 4), upd_cons_ne (by simp : L + 2 ≠ L + 4), upd_cons_ne (by simp : L + 3 ≠ L + 4), upd_cons, upd_cons_ne (by simp : L + 5 ≠ L + 4), upd_cons_ne (by simp : L + 6 ≠ L + 4), upd_id (ne_add hlt2)]
        refine Wp.cons (Wp.fdef1 (qual := "_SimpleDecoder.<locals>.SpecificDecoder.<locals>.DecodePackedField") (by subst he2; rfl) (by subst he2; rfl) (by subst he2; rfl) (hin' _ _ _ _ _ _) (by subst he2; rfl) (by rw [hG.q]; rfl) rfl rfl (by rfl) ?_)
        walk_at "aus"
        refine ⟨rfl, rfl, fun d fb ob hcb hd hdb => ?_⟩
        walk_at "aus"
        have hdn : ∀ p ∈ n, p.1 < d := fun p hp => hd p (.tail _ (.tail _ (.tail _ (.tail _ (.tail _ (.tail _ hp))))))
        have F := fun td => sd2 hG hen hcb D (fa := fb) (tag := vint (8 * num + wire)) (key := key) (tk := tk) (td := td)
        refine ⟨_, fun p hp => hp, h _ [(fb, ob), (d, Tup [.int 0 _]), (L + 1, cellObj (some (.str key tk))), (L + 2, cellObj (some (.ref 245))), (L + 3, cellObj (some (.bool false))), (L + 4, cellObj (some (.ref 191))), (L + 5, cellObj none), (L + 6, cellObj none)]
          (Fresh.cons (fun p hp => Nat.lt_trans (hdn p hp) hdb) (Fresh.cons hdn (Fresh.cons (lt_add hlt2) (Fresh.cons (lt_add hlt2) (Fresh.cons (lt_add hlt2) (Fresh.cons (lt_add hlt2) (Fresh.cons (lt_add hlt2) (Fresh.cons (lt_add hlt2) Fresh.nil)))))))) ((F _).mono (by walk_at "au_sub") (by omega)) fun _ => ⟨fb, L + 2, cd, L + 1, L + 4, d, ob, tk, _, rfl, hcb, by walk_at "au_sub"⟩⟩
      · walk_at "aus"
        refine iB (fun hm1 => ?_) (fun hm1 => ?_)
        · have : mode = 1 := by omega
          subst this
          walk_at "aus"
          refine ⟨k1 _, tagBytes hG (rm2.le (by omega)) (wire := wire) (by omega) hw fun tz => ?_⟩
          walk_at "aus"
          rw [upd_cons_ne (by simp : L + 1 ≠ L + 5), upd_cons_ne (by simp : L + 2 ≠ L + 5), upd_cons_ne (by simp : L + 3 ≠ L + 5), upd_cons_ne (by simp : L + 4 ≠ L + 5), upd_cons, upd_cons_ne (by simp : L + 6 ≠ L + 5), upd_id (ne_add hlt2)]
          walk_at "aus"
          refine ⟨.bui _, Wp.lenB (by rw [List.size_toArray]; omega) fun tl => ?_⟩
          rw [List.size_toArray]
          walk_at "aus"
          rw [upd_cons_ne (by simp : L + 1 ≠ L + 6), upd_cons_ne (by simp : L + 2 ≠ L + 6), upd_cons_ne (by simp : L + 3 ≠ L + 6), upd_cons_ne (by simp : L + 4 ≠ L + 6), upd_cons_ne (by simp : L + 5 ≠ L + 6), upd_cons, upd_id (ne_add hlt2)]
          refine Wp.cons (Wp.fdef1 (qual := "_SimpleDecoder.<locals>.SpecificDecoder.<locals>.DecodeRepeatedField") (by subst he2; rfl) (by subst he2; rfl) (by subst he2; rfl) (hin' _ _ _ _ _ _) (by subst he2; rfl) (by rw [hG.q]; rfl) rfl rfl (by rfl) ?_)
          walk_at "aus"
          refine ⟨rfl, rfl, fun d fb ob hcb hd hdb => ?_⟩
          walk_at "aus"
          have hdn : ∀ p ∈ n, p.1 < d := fun p hp => hd p (.tail _ (.tail _ (.tail _ (.tail _ (.tail _ (.tail _ hp))))))
          have F := fun td => sd1 hG (by omega) hcb D hk (fa := fb) (tag := vint (8 * num + wire)) (key := key) (tk := tk) (td := td) (tt := tz) (tl := tl)
          refine ⟨_, fun p hp => hp, h _ [(fb, ob), (d, Tup [.int 0 _]), (L + 1, cellObj (some (.str key tk))), (L + 2, cellObj (some (.ref 245))), (L + 3, cellObj (some (.bool false))), (L + 4, cellObj none), (L + 5, cellObj (some (.bytes (vint (8 * num + wire)).toArray tz))), (L + 6, cellObj (some (.int (vint (8 * num + wire)).length tl)))]
            (Fresh.cons (fun p hp => Nat.lt_trans (hdn p hp) hdb) (Fresh.cons hdn (Fresh.cons (lt_add hlt2) (Fresh.cons (lt_add hlt2) (Fresh.cons (lt_add hlt2) (Fresh.cons (lt_add hlt2) (Fresh.cons (lt_add hlt2) (Fresh.cons (lt_add hlt2) Fresh.nil)))))))) ((F _).mono (by walk_at "au_sub") (by omega)) fun e => by omega⟩
        · have : mode = 0 := by omega
          subst this
          refine Wp.cons (Wp.fdef1 (qual := "_SimpleDecoder.<locals>.SpecificDecoder.<locals>.DecodeField") (by subst he2; rfl) (by subst he2; rfl) (by subst he2; rfl) (hin' _ _ _ _ _ _) (by subst he2; rfl) (by rw [hG.q]; rfl) rfl rfl (by rfl) ?_)
          walk_at "aus"
          refine ⟨rfl, rfl, fun d fb ob hcb hd hdb => ?_⟩
          walk_at "aus"
          have hdn : ∀ p ∈ n, p.1 < d := fun p hp => hd p (.tail _ (.tail _ (.tail _ (.tail _ (.tail _ (.tail _ hp))))))
          have F := fun td => sd0 hG hcb D (fa := fb) (tag := vint (8 * num + wire)) (key := key) (tk := tk) (td := td)
          refine ⟨_, fun p hp => hp, h _ [(fb, ob), (d, Tup [.int 0 _]), (L + 1, cellObj (some (.str key tk))), (L + 2, cellObj (some (.ref 245))), (L + 3, cellObj (some (.bool false))), (L + 4, cellObj none), (L + 5, cellObj none), (L + 6, cellObj none)]
            (Fresh.cons (fun p hp => Nat.lt_trans (hdn p hp) hdb) (Fresh.cons hdn (Fresh.cons (lt_add hlt2) (Fresh.cons (lt_add hlt2) (Fresh.cons (lt_add hlt2) (Fresh.cons (lt_add hlt2) (Fresh.cons (lt_add hlt2) (Fresh.cons (lt_add hlt2) Fresh.nil)))))))) ((F _).mono (by walk_at "au_sub") (by omega)) fun e => by omega⟩
end
end

section
set_option maxHeartbeats 4000000
open PySem PySem.Spec PySem.Calls PyProof.Rows PySem.W

theorem EncV.sub {G : Gl} {ev : Value} {enc : Nat → List UInt8} {B B' : Nat → Prop} {k k' : Nat} (C : EncV G ev enc B' k) (h : ∀ v, B v → B' v) (hk : k ≤ k' := by decide) : EncV G ev enc B k' :=
  ⟨C.kp, fun wv P src kw W f A vs n bs ep v t det E Q h1 h2 rm h3 hB => C.run wv P src kw W f A vs n bs ep v t det E Q h1 h2 (rm.le (by omega)) h3 (h v hB)⟩
theorem SizeV.sub {G : Gl} {ev : Value} {enc : Nat → List UInt8} {B B' : Nat → Prop} {k k' : Nat} (C : SizeV G ev enc B' k) (h : ∀ v, B v → B' v) (hk : k ≤ k' := by decide) : SizeV G ev enc B k' :=
  ⟨C.kp, fun f A vs n v t E Q rm hB => C.run f A vs n v t E Q (rm.le hk) (h v hB)⟩
theorem DecV.sub {G : Gl} {ev : Value} {nv : Led} {enc : Nat → List UInt8} {B B' : Nat → Prop} {k k' : Nat} (C : DecV G ev nv enc id B' k) (h : ∀ v, B v → B' v) (hk : k ≤ k' := by decide) : DecV G ev nv enc id B k' :=
  ⟨C.kp, fun f A vs n pre post v t u E Q hs rm hB => C.run f A vs n pre post v t u E Q hs (rm.le hk) (h v hB)⟩
theorem app_sub {m l l' : Led} (h : ∀ p ∈ l, p ∈ l') : ∀ p ∈ m ++ l, p ∈ m ++ l' := fun p hp => (List.mem_append.mp hp).elim (fun q => List.mem_append_left _ q) fun q => List.mem_append_right _ (h p q)
theorem EncM.mono {G : Gl} {sv : Value} {nd nd' : Led} {wire : Nat} {enc : Nat → List UInt8} {B : Nat → Prop} {k k' : Nat} (F : EncM G sv nd wire enc B k) (hs : ∀ p ∈ nd, p ∈ nd') (hk : k ≤ k') : EncM G sv nd' wire enc B k' :=
  ⟨fun n h => F.kp n fun p hp => h p (hs p hp), fun f A vs n num mode t E Q h rm h1 h2 q => F.run f A vs n num mode t E Q (fun p hp => h p (hs p hp)) (rm.le hk) h1 h2 fun fv m hf X => q fv m hf (X.mono (app_sub hs) hk)⟩
theorem SizerM.mono {G : Gl} {sv : Value} {nd nd' : Led} {enc : Nat → List UInt8} {B : Nat → Prop} {k k' : Nat} (F : SizerM G sv nd enc B k) (hs : ∀ p ∈ nd, p ∈ nd') (hk : k ≤ k') : SizerM G sv nd' enc B k' :=
  ⟨fun n h => F.kp n fun p hp => h p (hs p hp), fun f A vs n num mode t E Q h rm h1 h2 q => F.run f A vs n num mode t E Q (fun p hp => h p (hs p hp)) (rm.le hk) h1 h2 fun fv m X => q fv m (X.mono (app_sub hs) hk)⟩
theorem DecM.mono {G : Gl} {sv rv : Value} {nd nd' nv : Led} {wire : Nat} {enc : Nat → List UInt8} {B : Nat → Prop} {k k' : Nat} (F : DecM G sv nd wire rv nv enc B k) (hs : ∀ p ∈ nd, p ∈ nd') (hk : k ≤ k') : DecM G sv nd' wire rv nv enc B k' :=
  ⟨fun n h => F.kp n fun p hp => h p (hs p hp), fun f A vs n num mode t key tk E Q h rm h1 h2 q => F.run f A vs n num mode t key tk E Q (fun p hp => h p (hs p hp)) (rm.le hk) h1 h2 fun fv m hf X Y => q fv m hf (X.mono (app_sub hs) hk) fun e => by
    obtain ⟨fa, c1, c2, c3, c4, dd, o, tk, td, e1, hc, hm⟩ := Y e
    exact ⟨fa, c1, c2, c3, c4, dd, o, tk, td, e1, hc, fun p hp => app_sub hs p (hm p hp)⟩⟩

def dMD : Stmt := sAt (dBody (sAt pTop 29)) 0
def dPD : Stmt := sAt (dBody (sAt pTop 30)) 2
section
variable {G : Gl} {f : Fk} {A : Around} {vs : Vals} {n : Led} {E : Value → Shared → Prop} {Q : Value → Vals → Led → Prop}
theorem halfV (hG : Ok G) : ModV G (.ref 301) (fun v => v / 2) (fun v => v ≤ 1000) 1 where
  kp := fun n => .k hG (by rfl) ⟨_, _, _, _, rfl⟩
  run := fun f A vs n v t E Q rm hv h => half hG rm (by omega) (by omega) fun t => by
    have := h t
    rw [show (((v / 2 : Nat)) : Int) = (v : Int) / 2 by omega] at this
    exact this
theorem innerM (hG : Ok G) {fi c1 c2 : Addr} {o : Obj} {dv mv : Value} {ec enc : Nat → List UInt8} {gt md : Nat → Nat} {B B2 B3 : Nat → Prop} {k : Nat} (hc : CloD dMD "_ModifiedDecoder.<locals>.InnerDecode" [("modify_value", c2), ("decode_value", c1)] .none o)
    (D : DecV G dv [] ec id B2 k) (M : ModV G mv md B3 k) (hen : ∀ v, enc v = ec (gt v)) (hB : ∀ v, B v → B2 (gt v) ∧ B3 (gt v) ∧ md (gt v) = v) :
    DecV G (.ref fi) [(fi, o), (c1, cellObj (some dv)), (c2, cellObj (some mv))] enc id B (k + 1) where
  kp := fun n hs => clo_fn (hs _ (.head _)) hc
  run := fun f A vs n pre post v t u E Q hs rm hv hz h => by
    obtain ⟨b1, b2, b3⟩ := hB v hv
    have h1 : (c1, cellObj (some dv)) ∈ n := hs _ (.tail _ (.head _))
    have h2 : (c2, cellObj (some mv)) ∈ n := hs _ (.tail _ (.tail _ (.head _)))
    rw [hen] at hz h ⊢
    generalize hbuf : pre ++ (ec (gt v) ++ post) = buf at hz ⊢
    refine Wp.callN (ns := ["buffer", "pos", "result", "new_pos"]) (hs _ (.head _)) hc rm (binds := [("buffer", .bytes buf.toArray t), ("pos", .int pre.length u)]) (fun s _ _ _ _ _ => BindsTo.of_eq (by kernel_rfl)) (by decide +kernel) (by rfl) (fun g2 L2 A2 env2 cc he2 hin hlt2 rm2 => ⟨[("buffer", .loc 0), ("pos", .loc 1), ("result", .loc 2), ("new_pos", .loc 3), ("decode_value", .cel c1), ("modify_value", .cel c2)], [some (.bytes buf.toArray t), some (.int pre.length u), none, none], n, ?_, ?_, fun r2 => ?_⟩)
    · rw [hG.K]; subst he2; walk_at "au_slots"
    · walk_at "au_pl"
    · refine Wp.conT rm2.hh ?_
      walk_at "aus"
      refine ⟨D.kp _ (fun p hp => by cases hp), D.run' (v := gt v) hbuf.symm rfl (fun p hp => by cases hp) rm2 b1 hz fun a t1 t2 ha => ⟨a, _, _, rfl, .head _, ?_⟩⟩
      walk_at "aus"
      refine ⟨M.kp _, M.run _ _ _ _ _ _ _ _ rm2 b2 fun tm => ?_⟩
      rw [b3]
      walk_at "aus"
      refine Wp.newTuple (by simp) fun a2 ha2 => ?_
      exact ⟨_, mem_skip, h a2 _ _ fun p hp => ha2 p (.tail _ hp)⟩
theorem innerP (hG : Ok G) {fi c1 c2 c3 : Addr} {o : Obj} {x : Str} {sz : Nat} {tx ts : Tok} (hx : FmtOk x sz) (hc : CloD dPD "_StructPackDecoder.<locals>.InnerDecode" [("value_size", c3), ("local_unpack", c2), ("format", c1)] .none o) :
    DecV G (.ref fi) [(fi, o), (c1, cellObj (some (.str x tx))), (c2, cellObj (some (.ref 85))), (c3, cellObj (some (.int sz ts)))] (fixB sz) id (fun v => v < 256 ^ sz) 3 where
  kp := fun n hs => clo_fn (hs _ (.head _)) hc
  run := fun f A vs n pre post v t u E Q hs rm hv hz h => by
    have h1 : (c1, cellObj (some (.str x tx))) ∈ n := hs _ (.tail _ (.head _))
    have h2 : (c2, cellObj (some (.ref 85))) ∈ n := hs _ (.tail _ (.tail _ (.head _)))
    have h3 : (c3, cellObj (some (.int sz ts))) ∈ n := hs _ (.tail _ (.tail _ (.tail _ (.head _))))
    have k1 : ∀ n, KP G n (.ref 85) := fun _ => .k hG (by rfl) ⟨_, _, _, _, rfl⟩
    have hcut := cut_mid (pre := pre) (mid := fixB sz v) (post := post)
    generalize hbuf : pre ++ (fixB sz v ++ post) = buf at hz hcut ⊢
    refine Wp.callN (ns := ["buffer", "pos", "new_pos", "result"]) (hs _ (.head _)) hc rm (binds := [("buffer", .bytes buf.toArray t), ("pos", .int pre.length u)]) (fun s _ _ _ _ _ => BindsTo.of_eq (by kernel_rfl)) (by decide +kernel) (by rfl) (fun g2 L2 A2 env2 cc he2 hin hlt2 rm2 => ⟨[("buffer", .loc 0), ("pos", .loc 1), ("new_pos", .loc 2), ("result", .loc 3), ("format", .cel c1), ("local_unpack", .cel c2), ("value_size", .cel c3)], [some (.bytes buf.toArray t), some (.int pre.length u), none, none], n, ?_, ?_, fun r2 => ?_⟩)
    · rw [hG.K]; subst he2; walk_at "au_slots"
    · walk_at "au_pl"
    · refine Wp.conA ?_
      walk_at "aus"
      rw [show ((pre.length : Int) + (sz : Int)) = ((pre.length + (fixB sz v).length : Nat) : Int) by rw [fixB_len]; push_cast; rfl]
      intro sl hsl
      refine Wp.cutB (.head _) (.int _ _) (.int _ _) (by rw [List.size_toArray]; omega) fun tb => ?_
      rw [hcut]
      walk_at "aus"
      refine ⟨k1 _, unpack hG (rm2.le (by decide)) hx hv fun a ta ha => ?_⟩
      walk_at "aus"
      refine Wp.itemT (.head _) (by decide) (by simp) rfl (by simp) ?_
      walk_at "aus"
      refine Wp.newTuple (by simp) fun a2 ha2 => ?_
      exact ⟨_, fun p hp => (List.mem_cons.mp hp).elim (fun e => e ▸ .head _) fun hp => .tail _ (.tail _ (.tail _ hp)), h a2 _ _ fun p hp => ha2 p (.tail _ (.tail _ hp))⟩
theorem modifiedDecoder (hG : Ok G) (rm : Rm A 2) {wv dv mv : Value} (h : ∀ fa dd cw cd fi c1 c2 o oi, CloD dSD "_SimpleDecoder.<locals>.SpecificDecoder" [("wire_type", cw), ("decode_value", cd)] (.ref dd) o → CloD dMD "_ModifiedDecoder.<locals>.InnerDecode" [("modify_value", c2), ("decode_value", c1)] .none oi →
      Q (.ref fa) vs ((fa, o) :: (dd, Tup [.bool false]) :: (cw, cellObj (some wv)) :: (cd, cellObj (some (.ref fi))) :: (fi, oi) :: (c1, cellObj (some dv)) :: (c2, cellObj (some mv)) :: n)) :
    Wp G f A (PySem.call (.ref 205) [wv, dv, mv]) vs n Q E := by
  refine Wp.callK hG (ns := ["wire_type", "InnerDecode"]) rm (by rfl) (by kernel_rfl) (fun s _ => BindsTo.of_eq (by rfl)) (by decide +kernel) (by rfl) (fun g L A' env he hlt rm' => ⟨[("wire_type", .loc 0), ("decode_value", .cel (L + 1)), ("modify_value", .cel (L + 2)), ("InnerDecode", .loc 1), ("_SimpleDecoder", .glo (.ref 198))], [some wv, none], upd (upd ((L + 1, cellObj none) :: (L + 2, cellObj none) :: n) (L + 1) (cellObj (some dv))) (L + 2) (cellObj (some mv)), ?_, ?_, fun r => ?_⟩)
  · subst he; walk_at "au_slots"
  · exact .loc (.head _) (by decide) (.cel (by subst he; kernel_rfl) (by walk_at "au_m") (.head _) (.cel (by subst he; kernel_rfl) (by walk_at "au_m") (mem_upd_ne (.tail _ (.head _)) (addr_ne (i := 2) (j := 1) (by decide))) .nil))
  · have k1 : ∀ n, KP G n (.ref 198) := fun _ => .k hG (by rfl) ⟨_, _, _, _, rfl⟩
    rw [upd_cons, upd_cons_ne (by simp : L + 2 ≠ L + 1), upd_id (ne_add hlt), upd_cons_ne (by simp : L + 1 ≠ L + 2), upd_cons, upd_id (ne_add hlt)]
    refine Wp.cons (Wp.fdef0 (by subst he; rfl) (by subst he; rfl) (by subst he; rfl) (.inl (by rw [hG.codes]; simp)) (by subst he; rfl) (by rw [hG.q]; rfl) rfl rfl (by rfl) fun fi oi hci hl => ?_)
    walk_at "aus"
    refine ⟨k1 _, simpleDecoder hG rm' fun fa dd cw cd o hc _ => ?_⟩
    exact ⟨_, fun p hp => hp, h fa dd cw cd fi (L + 1) (L + 2) o oi hc hci⟩
theorem structPackDecoder (hG : Ok G) (rm : Rm A 2) {wv : Value} {x : Str} {sz : Nat} {tx : Tok} (hx : FmtOk x sz) (h : ∀ fa dd cw cd fi c1 c2 c3 ts o oi, CloD dSD "_SimpleDecoder.<locals>.SpecificDecoder" [("wire_type", cw), ("decode_value", cd)] (.ref dd) o → CloD dPD "_StructPackDecoder.<locals>.InnerDecode" [("value_size", c3), ("local_unpack", c2), ("format", c1)] .none oi →
      Q (.ref fa) vs ((fa, o) :: (dd, Tup [.bool false]) :: (cw, cellObj (some wv)) :: (cd, cellObj (some (.ref fi))) :: (fi, oi) :: (c1, cellObj (some (.str x tx))) :: (c2, cellObj (some (.ref 85))) :: (c3, cellObj (some (.int sz ts))) :: n)) :
    Wp G f A (PySem.call (.ref 212) [wv, .str x tx]) vs n Q E := by
  refine Wp.callK hG (ns := ["wire_type", "InnerDecode"]) rm (by rfl) (by kernel_rfl) (fun s _ => BindsTo.of_eq (by rfl)) (by decide +kernel) (by rfl) (fun g L A' env he hlt rm' => ⟨[("wire_type", .loc 0), ("format", .cel (L + 1)), ("InnerDecode", .loc 1), ("local_unpack", .cel (L + 2)), ("value_size", .cel (L + 3)), ("_calcsize", .glo (.ref 71)), ("_unpack", .glo (.ref 85)), ("_SimpleDecoder", .glo (.ref 198))], [some wv, none], upd ((L + 1, cellObj none) :: (L + 2, cellObj none) :: (L + 3, cellObj none) :: n) (L + 1) (cellObj (some (.str x tx))), ?_, ?_, fun r => ?_⟩)
  · subst he; walk_at "au_slots"
  · exact .loc (.head _) (by decide) (.cel (by subst he; kernel_rfl) (by walk_at "au_m") (.head _) .nil)
  · have k1 : ∀ n, KP G n (.ref 198) := fun _ => .k hG (by rfl) ⟨_, _, _, _, rfl⟩
    have k2 : ∀ n, KP G n (.ref 71) := fun _ => .k hG (by rfl) ⟨_, _, _, _, rfl⟩
    rw [upd_cons, upd_cons_ne (by simp : L + 2 ≠ L + 1), upd_cons_ne (by simp : L + 3 ≠ L + 1), upd_id (ne_add hlt)]
    refine Wp.conA ?_
    walk_at "aus"
    refine ⟨k2 _, calcsize hG rm' hx fun ts => ?_⟩
    walk_at "aus"
    rw [upd_cons_ne (by simp : L + 1 ≠ L + 3), upd_cons_ne (by simp : L + 2 ≠ L + 3), upd_cons, upd_id (ne_add hlt)]
    walk_at "aus"
    rw [upd_cons_ne (by simp : L + 1 ≠ L + 2), upd_cons, upd_cons_ne (by simp : L + 3 ≠ L + 2), upd_id (ne_add hlt)]
    refine Wp.cons (Wp.fdef0 (by subst he; rfl) (by subst he; rfl) (by subst he; rfl) (.inl (by rw [hG.codes]; simp)) (by subst he; rfl) (by rw [hG.q]; rfl) rfl rfl (by rfl) fun fi oi hci hl => ?_)
    walk_at "aus"
    refine ⟨k1 _, simpleDecoder hG rm' fun fa dd cw cd o hc _ => ?_⟩
    exact ⟨_, fun p hp => hp, h fa dd cw cd fi (L + 1) (L + 2) (L + 3) ts o oi hc hci⟩
end
end

section
set_option maxHeartbeats 4000000
open PySem PySem.Spec PySem.Calls PyProof.Rows PySem.W
local macro_rules | `(tactic| walk_at "au_sub") => `(tactic| ((repeat (refine sub_cons (by walk_at "au_m") ?_)); intro p hp; (repeat apply List.Mem.tail); first | exact hp | exact absurd hp (by simp)))

/-- an encoder, a sizer, a decoder of one code -/
structure Mk3 (G : Gl) (ev sv dv : Value) (nd : Led) (wire : Nat) (enc : Nat → List UInt8) (B : Nat → Prop) : Prop where
  e : EncM G ev nd wire enc B 20
  s : SizerM G sv nd enc B 20
  d : ∃ rv nv, DecM G dv nd wire rv nv enc B 20 ∧ DecV G rv nv enc id B 20
section
variable {G : Gl} {f : Fk} {A : Around} {vs : Vals} {n : Led} {E : Value → Shared → Prop} {Q : Value → Vals → Led → Prop}
theorem law_makers (hG : Ok G) (rm : Rm A 4) {code wire : Nat} {t u : Tok} (hcd : code ≤ 2) (hw : wire ≤ 5) (h : ∀ a ev sv dv nd, Mk3 G ev sv dv nd wire (octs code) (fun v => v ≤ 13) → Q (.ref a) vs ((a, Tup [ev, sv, dv]) :: (nd ++ n))) :
    Wp G f A (PySem.call (.ref 315) [.int code t, .int wire u]) vs n Q E := by
  refine Wp.callK hG (ns := ["code", "wire"]) rm (by rfl) (by kernel_rfl) (fun s _ => BindsTo.of_eq (by rfl)) (by decide +kernel) (by rfl) (fun g L A' env he hlt rm' => ⟨[("code", .loc 0), ("wire", .loc 1), ("_SimpleEncoder", .glo (.ref 156)), ("_law_write_run", .glo (.ref 252)), ("_law_size_run", .glo (.ref 259)), ("_SimpleSizer", .glo (.ref 113)), ("_SimpleDecoder", .glo (.ref 198)), ("_law_read_run", .glo (.ref 266)), ("_law_write_figures", .glo (.ref 273)), ("_law_size_figures", .glo (.ref 280)), ("_law_read_figures", .glo (.ref 287)), ("_ModifiedEncoder", .glo (.ref 163)), ("_law_twice", .glo (.ref 294)), ("_ModifiedSizer", .glo (.ref 120)), ("_ModifiedDecoder", .glo (.ref 205)), ("_law_half", .glo (.ref 301))], [some (.int code t), some (.int wire u)], n, ?_, ?_, fun r => ?_⟩)
  · subst he; walk_at "au_slots"
  · walk_at "au_pl"
  · have k1 : ∀ n, KP G n (.ref 156) := fun _ => .k hG (by rfl) ⟨_, _, _, _, rfl⟩
    have k2 : ∀ n, KP G n (.ref 113) := fun _ => .k hG (by rfl) ⟨_, _, _, _, rfl⟩
    have k3 : ∀ n, KP G n (.ref 198) := fun _ => .k hG (by rfl) ⟨_, _, _, _, rfl⟩
    have k4 : ∀ n, KP G n (.ref 163) := fun _ => .k hG (by rfl) ⟨_, _, _, _, rfl⟩
    have k5 : ∀ n, KP G n (.ref 120) := fun _ => .k hG (by rfl) ⟨_, _, _, _, rfl⟩
    have k6 : ∀ n, KP G n (.ref 205) := fun _ => .k hG (by rfl) ⟨_, _, _, _, rfl⟩
    walk_at "aus"
    by_cases h0 : code = 0
    · subst h0
      refine iT (by decide) ?_
      walk_at "aus"
      refine ⟨k1 _, simpleEncoder hG (rm'.le (by decide)) fun fe cw ce cc oe hce _ => ?_⟩
      walk_at "aus"
      refine ⟨k2 _, simpleSizer hG (rm'.le (by decide)) fun fs cs os hcs _ _ => ?_⟩
      walk_at "aus"
      refine ⟨k3 _, simpleDecoder hG (rm'.le (by decide)) fun fd dd cw2 cd2 od hcd2 _ => ?_⟩
      walk_at "aus"
      refine Wp.newTuple (by simp) fun a ha => ⟨_, fun p hp => hp, ?_⟩
      have C : EncV G (.ref 252) runB (fun v => v ≤ 13) 1 := (write_run hG).sub fun v hv => by omega
      have S : SizeV G (.ref 259) runB (fun v => v ≤ 13) 1 := (size_runV hG).sub fun v hv => by omega
      have D : DecV G (.ref 266) [] runB id (fun v => v ≤ 13) 1 := (read_run hG).sub fun v hv => by omega
      refine h a _ _ _ [(fd, od), (dd, _), (cw2, _), (cd2, _), (fs, os), (cs, _), (fe, oe), (cw, _), (ce, _), (cc, _)] ⟨?_, ?_, .ref 266, [], ?_, D.sub fun _ x => x⟩
      · exact (specificEncoder hG hw hce C S (by decide)).mono (by walk_at "au_sub") (by decide)
      · exact (specificSizer hG hcs S).mono (by walk_at "au_sub") (by decide)
      · exact (specificDecoder hG hw (fun v => by rw [runB_len]; omega) hcd2 D (by decide)).mono (by walk_at "au_sub") (by decide)
    · refine iF (by simp; omega) ?_
      walk_at "aus"
      by_cases h1 : code = 1
      · subst h1
        refine iT (by decide) ?_
        walk_at "aus"
        refine ⟨k1 _, simpleEncoder hG (rm'.le (by decide)) fun fe cw ce cc oe hce _ => ?_⟩
        walk_at "aus"
        refine ⟨k2 _, simpleSizer hG (rm'.le (by decide)) fun fs cs os hcs _ _ => ?_⟩
        walk_at "aus"
        refine ⟨k3 _, simpleDecoder hG (rm'.le (by decide)) fun fd dd cw2 cd2 od hcd2 _ => ?_⟩
        walk_at "aus"
        refine Wp.newTuple (by simp) fun a ha => ⟨_, fun p hp => hp, ?_⟩
        refine h a _ _ _ [(fd, od), (dd, _), (cw2, _), (cd2, _), (fs, os), (cs, _), (fe, oe), (cw, _), (ce, _), (cc, _)] ⟨?_, ?_, .ref 287, [], ?_, (read_figures hG).sub fun _ x => x⟩
        · exact (specificEncoder hG hw hce (write_figures hG) (size_figures hG) (by decide)).mono (by walk_at "au_sub") (by decide)
        · exact (specificSizer hG hcs (size_figures hG)).mono (by walk_at "au_sub") (by decide)
        · exact (specificDecoder hG hw (fun v => by show 0 < (figB v).length; rw [figB_len]; omega) hcd2 (read_figures hG) (by decide)).mono (by walk_at "au_sub") (by decide)
      · have : code = 2 := by omega
        subst this
        refine iF (by decide) ?_
        walk_at "aus"
        refine ⟨k4 _, modifiedEncoder hG (rm'.le (by decide)) fun fe cw ce cc cm oe hce _ => ?_⟩
        walk_at "aus"
        refine ⟨k5 _, modifiedSizer hG (rm'.le (by decide)) fun fs cs c4 os hcs _ _ _ => ?_⟩
        walk_at "aus"
        refine ⟨k6 _, modifiedDecoder hG (rm'.le (by decide)) fun fd dd cw2 cd2 fi ci1 ci2 od oi hcd2 hci => ?_⟩
        walk_at "aus"
        refine Wp.newTuple (by simp) fun a ha => ⟨_, fun p hp => hp, ?_⟩
        have I := innerM hG (fi := fi) (enc := octs 2) (gt := fun v => 2 * v) (B := fun v => v ≤ 13) hci (read_run hG) (halfV hG) (fun v => rfl) (fun v hv => ⟨by show 2 * v ≤ 1000; omega, by show 2 * v ≤ 1000; omega, by show 2 * v / 2 = v; omega⟩)
        refine h a _ _ _ [(fd, od), (dd, _), (cw2, _), (cd2, _), (fi, oi), (ci1, _), (ci2, _), (fs, os), (cs, _), (c4, _), (fe, oe), (cw, _), (ce, _), (cc, _), (cm, _)] ⟨?_, ?_, .ref fi, _, ?_, I.sub fun _ x => x⟩
        · exact (specificMEncoder hG hw hce (write_run hG) (size_runV hG) (twiceV hG) (fun v hv => by show 2 * v ≤ 1000; omega) (fun v => rfl) (by decide)).mono (by walk_at "au_sub") (by decide)
        · exact (specificMSizer hG hcs (size_runV hG) (twiceV hG) (fun v hv => by show 2 * v ≤ 1000; omega)).mono (by walk_at "au_sub") (by decide)
        · exact (specificDecoder hG hw (fun v => by show 0 < (runB (2 * v)).length; rw [runB_len]; omega) hcd2 I (by decide)).mono (by walk_at "au_sub") (by decide)
end
end

section
set_option maxHeartbeats 4000000
open PySem PySem.Spec PySem.Calls PyProof.Rows PySem.W

section
variable {G : Gl} {f : Fk} {A : Around} {vs : Vals} {n : Led} {E : Value → Shared → Prop} {env : Env} {Q : Value → Vals → Led → Prop}
/-- {'x': e} -/
theorem Wp.dict1 {x : Str} {k : Nat} {p pos : Pos} {e : Expr}
    (h : ∀ d o0, (∀ p ∈ n, p.1 < d) → (d == sysModules) = false → Wp G f A (eval e env) vs ((d, o0) :: n) (fun v vs1 n1 => (d, o0) ∈ n1 ∧ ∀ o', DicO G o' [(x, v)] → Q (.ref d) vs1 (upd n1 d o')) E) :
    Wp G f A (eval (.Dict [some (.Constant (.str x) k p)] [e] pos) env) vs n Q E := by
  constructor; intro s S
  refine wpAny_Dict_pairs (knd := strKind G.prog G.w) (pairs := [(eval (.Constant (.str x) k p) env, do let x ← eval e env; PySem.standAt pos; Pure.pure x)]) rfl (by simp) (by simp) ?_
  have S1 := S.push (o := { cls := .type "dict", data := .dict #[] }) (dic_new (G := G)).tm rfl s.toks
  have hq := h s.heap.objs.size { cls := .type "dict", data := .dict #[] } S.lt S.notMod
  refine evalPairs_cons ?_
  refine wpAny_mono ((Wp.cstr (Q := fun kv vs1 n1 => (∃ t, kv = .str x t) ∧ vs1 = vs ∧ n1 = (s.heap.objs.size, { cls := .type "dict", data := .dict #[] }) :: n) (E := E) fun t => ⟨⟨t, rfl⟩, rfl, rfl⟩).run _ S1) (fun kv s2 ⟨vs2, n2, S2, ⟨t, e1⟩, e2, e3⟩ => ?_) fun _ _ x => x
  subst e1 e2 e3
  refine wpAny_bind (wpAny_mono (hq.run s2 S2) (fun v s3 ⟨vs3, n3, S3, hm, q⟩ => ?_) fun _ _ x => x)
  refine wpAny_bind (wpAny_standAt (wpAny_pure ?_))
  refine evalPairs_nil ⟨[(x, v)], ⟨strKind_is _ _ x t, rfl, trivial⟩, (dic_new (G := G)).at_ S3 hm, fun h' hd hs => ?_⟩
  obtain ⟨o', ho', hd'⟩ := Heap.dictOf_iff.mp hd
  have hd2 : DicO G o' [(x, v)] := hd'
  exact ⟨_, _, S3.updE hm (dic_new (G := G)).pc hd2.tm hs.extBut ho' _, q o' hd2⟩

/-- two values that are alike -/
def Alike (n : Led) (a b : Value) : Prop := (∃ x t u, a = .int x t ∧ b = .int x u) ∨ ∃ l m ws us e1 e2 ks, a = .ref l ∧ b = .ref m ∧ (l, Lst ws e1) ∈ n ∧ (m, Lst us e2) ∈ n ∧ IntsAre ws ks ∧ IntsAre us ks
theorem ArgV.alike {n : Led} {mode : Nat} {vals : List Nat} {a b : Value} (h1 : ArgV n mode vals a) (h2 : ArgV n mode vals b) : Alike n a b := by
  rcases h1 with ⟨m1, x, t, e1, rfl⟩ | ⟨m1, l, ws, ep, rfl, hl, hi⟩
  · rcases h2 with ⟨_, y, u, e2, rfl⟩ | ⟨m2, _⟩
    · rw [e1] at e2
      cases e2
      exact .inl ⟨_, t, u, rfl, rfl⟩
    · omega
  · rcases h2 with ⟨m2, _⟩ | ⟨_, m, us, eq, rfl, hm, hj⟩
    · omega
    · exact .inr ⟨l, m, ws, us, ep, eq, _, rfl, rfl, hl, hm, hi, hj⟩
theorem Alike.hits {s : Shared} {x : Str} {a b : Value} (S : St G f vs n s) (h : Alike n a b) (hu : A.in1.units + 64 < cLine) : KeqHits A.in1 s [(x, b)] [(x, a)] true := by
  have hv : valueAt [(x, b)] x = some b := by simp [valueAt]
  rcases h with ⟨y, t, u, rfl, rfl⟩ | ⟨l, m, ws, us, e1, e2, ks, rfl, rfl, hl, hm, hi, hj⟩
  · have := SeqAt.EqAt.int_int (A := A.in1) (s := s) y t y u
    rw [beq_self_eq_true] at this
    exact .hit (e := true) (b := true) hv this .nil
  · have := keq_ints (A := A) (S.list hl) hi (S.list hm) hj hu
    rw [decide_eq_true rfl] at this
    exact .hit (e := true) (b := true) hv this .nil
theorem Wp.dneT {d1 d2 : Addr} {o1 o2 : Obj} {x : Str} {a b : Value} {k : Nat} (rm : Rm A k) (h1 : (d1, o1) ∈ n) (h2 : (d2, o2) ∈ n) (hd1 : DicO G o1 [(x, a)]) (hd2 : DicO G o2 [(x, b)]) (l1 : (d1 == sysModules) = false) (l2 : (d2 == sysModules) = false) (ha : Alike n a b) (h : Q (.bool false) vs n) :
    Wp G f A (compareOp .NotEq (.ref d1) (.ref d2)) vs n Q E := by
  have hu0 : A.units < cLine := rm.units
  have hu : A.in1.units + 64 < cLine := by have := rm.u; show A.units + 1 + 64 < 9900; omega
  exact ⟨fun s S => keq_ne (r := true) l1 l2 (hd1.at_ S h1) (hd2.at_ S h2) hu0 (fun _ => ha.hits S hu) ⟨_, _, S, h⟩⟩
theorem Wp.deqT {d1 d2 : Addr} {o1 o2 : Obj} {x : Str} {a b : Value} {k : Nat} (rm : Rm A k) (h1 : (d1, o1) ∈ n) (h2 : (d2, o2) ∈ n) (hd1 : DicO G o1 [(x, a)]) (hd2 : DicO G o2 [(x, b)]) (l1 : (d1 == sysModules) = false) (l2 : (d2 == sysModules) = false) (ha : Alike n a b) (h : Q (.bool true) vs n) :
    Wp G f A (compareOp .Eq (.ref d1) (.ref d2)) vs n Q E := by
  have hu0 : A.units < cLine := rm.units
  have hu : A.in1.units + 64 < cLine := by have := rm.u; show A.units + 1 + 64 < 9900; omega
  exact ⟨fun s S => keq_eq (r := true) l1 l2 (hd1.at_ S h1) (hd2.at_ S h2) hu0 (fun _ => ha.hits S hu) ⟨_, _, S, h⟩⟩
end

theorem vint_low {num w : Nat} (hw : w < 8) : (vint (8 * num + w)).length = (vint (8 * num)).length := by
  by_cases h : num < 16
  · rw [vint_len1 (by omega), vint_len1 (by omega)]
  · rw [vint_lenS (n := 8 * num + w) (by omega), vint_lenS (n := 8 * num) (by omega), show (8 * num + w) / 128 = 8 * num / 128 by omega]
theorem vint_not0 {x : Nat} (h : 0 < x) : ∃ b r, vint x = b :: r ∧ b ≠ 0 := by
  by_cases hx : x < 128
  · refine ⟨_, _, vint_lt hx, fun e => ?_⟩
    have := congrArg UInt8.toNat e
    simp at this
    omega
  · refine ⟨_, _, vint_ge hx, fun e => ?_⟩
    have := congrArg UInt8.toNat e
    simp at this
    omega
theorem due_rest {mode : Nat} {tag tag2 : List UInt8} {enc : Nat → List UInt8} {v : Nat} {r : List Nat} (h0 : mode ≤ 2) (hr : mode = 0 → r = []) : dueB mode tag tag2 enc (v :: r) = (if mode = 2 then tag2 else tag) ++ restB mode tag enc (v :: r) := by
  have : mode = 0 ∨ mode = 1 ∨ mode = 2 := by omega
  rcases this with rfl | rfl | rfl
  · rfl
  · exact (restR_tag tag enc v r).symm
  · show tag2 ++ vint _ ++ _ = _; rw [List.append_assoc]; rfl
theorem due_len {mode tl : Nat} {tag tag2 : List UInt8} {enc : Nat → List UInt8} {vals : List Nat} (h0 : mode ≤ 2) (h1 : tag.length = tl) (h2 : tag2.length = tl) : (dueB mode tag tag2 enc vals).length = dueLen mode tl enc vals := by
  have : mode = 0 ∨ mode = 1 ∨ mode = 2 := by omega
  rcases this with rfl | rfl | rfl
  · simp [dueB, dueLen, h1]
  · show (bodyB (fun v => tag ++ enc v) vals).length = tl * vals.length + (bodyB enc vals).length
    induction vals with
    | nil => simp [bodyB]
    | cons v r ih => rw [bodyB_cons, bodyB_cons, List.length_append, List.length_append, List.length_append, ih, h1, List.length_cons, Nat.mul_add]; omega
  · show (tag2 ++ vint _ ++ _).length = _; rw [List.length_append, List.length_append, h2]; simp only [dueLen]; rw [if_neg (by decide), if_neg (by decide)]; omega
end

section
set_option maxHeartbeats 4000000
open PySem PySem.Spec PySem.Calls PyProof.Rows PySem.W

def fBody : Stmt → List Stmt
  | .For _ _ b _ _ => b
  | _ => []
def dLH : Stmt := sAt pTop 47
def nsLH : List Str := ["made", "number", "wire", "values", "octets", "encode", "size", "decode", "body", "packed", "dues", "mode", "value", "pieces", "due", "table", "first", "read"]
def RLH (L : Addr) : List (Str × Slot) := [("made", .loc 0), ("number", .loc 1), ("wire", .loc 2), ("values", .loc 3), ("octets", .loc 4), ("encode", .loc 5), ("size", .loc 6), ("decode", .loc 7), ("plain", .cel (L + 1)), ("body", .loc 8), ("packed", .loc 9), ("dues", .loc 10), ("mode", .loc 11), ("value", .loc 12), ("pieces", .loc 13), ("due", .loc 14), ("table", .loc 15), ("first", .loc 16), ("read", .loc 17), ("_law_varint", .glo (.ref 231)), ("len", .bui (.builtin "len")), ("_law_new", .glo (.ref 245))]
section
variable {G : Gl} {f : Fk} {A : Around} {n : Led} {env : Env}
theorem Wp.still {α : Type} {t : Sem α} {f : Fk} {A : Around} {vs : Vals} {E : Value → Shared → Prop} {Q : α → Vals → Led → Prop} (P : α → Prop) (h1 : Wp G f A t vs n (fun v vs1 n1 => vs1 = vs ∧ n1 = n ∧ P v) E) (h2 : ∀ v, P v → Q v vs n) : Wp G f A t vs n Q E :=
  h1.monoQ fun v _ _ ⟨e1, e2, p⟩ => e1 ▸ e2 ▸ h2 v p
theorem ite_still {α : Type} {t1 t2 : Sem α} {f : Fk} {A : Around} {vs : Vals} {E : Value → Shared → Prop} {Q : α → Vals → Led → Prop} {p : Prop} [Decidable p] (P : α → Prop) (h1 : p → Wp G f A t1 vs n (fun v vs1 n1 => vs1 = vs ∧ n1 = n ∧ P v) E) (h2 : ¬ p → Wp G f A t2 vs n (fun v vs1 n1 => vs1 = vs ∧ n1 = n ∧ P v) E) (h : ∀ v, P v → Q v vs n) :
    (decide p = true → Wp G f A t1 vs n Q E) ∧ (decide p = false → Wp G f A t2 vs n Q E) := ⟨fun e => Wp.still P (h1 (of_decide_eq_true e)) h, fun e => Wp.still P (h2 (of_decide_eq_false e)) h⟩
theorem lh_turn (hG : Ok G) {g : Heap} {L : Addr} {A' : Around} (r : Res G ⟨g, L, nsLH⟩ env (RLH L)) (hint : interactive env = false) (rm : Rm A' 24) {ev sv dv : Value} {nd : Led} {wire num i v : Nat} {rr : List Nat} {enc : Nat → List UInt8} {B : Nat → Prop} (M : Mk3 G ev sv dv nd wire enc B)
    (hnd : ∀ p ∈ nd, p ∈ n) (hw : wire ≤ 5) (hn1 : 1 ≤ num) (hn2 : num < 1073741824) (hi : i ≤ 2) {ld lv : Addr} {dl ws : List Value} {ed ew : Nat} {td ti tn tp tq : Tok} (hld : (ld, Lst dl ed) ∈ n) (hdl : dl[i]? = some (.bytes (dueB i (vint (8 * num + wire)) (vint (8 * num + 2)) enc (v :: if i = 0 then [] else rr)).toArray td))
    (hlv : (lv, Lst ws ew) ∈ n) (hws : IntsAre ws ((v :: rr).map fun x => ((x : Nat) : Int))) (hpl : (L + 1, cellObj (some (.bytes (vint (8 * num + wire)).toArray tp))) ∈ n)
    (hB : ∀ x ∈ v :: rr, B x) (hrr : rr.length ≤ 20) (hen : ∀ x ∈ v :: rr, (enc x).length ≤ 1000) {o0 o2 o4 o8 o12 o13 o14 o15 o16 o17 : Option Value} :
    Wp G ⟨g, L, nsLH⟩ A' (execs (fBody (sAt (dBody dLH) 5)) env) [o0, some (.int num tn), o2, some (.ref lv), o4, some ev, some sv, some dv, o8, some (.bytes (vint (8 * num + 2)).toArray tq), some (.ref ld), some (.int i ti), o12, o13, o14, o15, o16, o17] n
      (LoopQ (fun vs3 n3 => (∀ p ∈ n, p ∈ n3) ∧ ∃ o11 o12 o13 o14 o15 o16 o17, vs3 = [o0, some (.int num tn), o2, some (.ref lv), o4, some ev, some sv, some dv, o8, some (.bytes (vint (8 * num + 2)).toArray tq), some (.ref ld), o11, o12, o13, o14, o15, o16, o17]) (fun _ _ => False) (fun _ _ _ => False)) Bot := by
  unfold RLH at r
  have b1 : decide ((0 : Int) < (i : Int)) = decide (0 < i) := decide_eq_decide.mpr (by omega)
  have b2 : ((i : Int) == 2) = decide (i = 2) := by rw [Bool.eq_iff_iff, beq_iff_eq, decide_eq_true_iff]; omega
  have hbb : ∀ l : List Nat, l.length ≤ 30 → (∀ x ∈ l, (enc x).length ≤ 1000) → (bodyB enc l).length ≤ l.length * 1000 := by
    intro l
    induction l with
    | nil => intro _ _; simp [bodyB]
    | cons a l ih =>
      intro h1 h2
      rw [bodyB_cons, List.length_append]
      have := ih (by simp at h1; omega) fun x hx => h2 x (.tail _ hx)
      have := h2 a (.head _)
      simp only [List.length_cons]; omega
  generalize htag : vint (8 * num + wire) = tag at hdl hpl ⊢
  generalize htag2 : vint (8 * num + 2) = tag2 at hdl ⊢
  have htl : tag.length = (vint (8 * num)).length := by rw [← htag]; exact vint_low (by omega)
  have htl2 : tag2.length = (vint (8 * num)).length := by rw [← htag2]; exact vint_low (by omega)
  have hvl : (vint (8 * num)).length ≤ 60 := vint_len_le _ (by omega)
  generalize hr' : (if i = 0 then [] else rr : List Nat) = r' at hdl
  have hr0 : i = 0 → r' = [] := fun e => by rw [← hr', if_pos e]
  have hrl : r'.length ≤ 20 := by
    rw [← hr']
    split
    · exact Nat.zero_le _
    · exact hrr
  have hsub : ∀ x ∈ v :: r', x ∈ v :: rr := by rw [← hr']; intro x hx; split at hx <;> simp_all
  have hB' : ∀ x ∈ v :: r', B x := fun x hx => hB x (hsub x hx)
  have hbl : (bodyB enc (v :: r')).length ≤ 21000 := by
    have := hbb (v :: r') (by simp; omega) fun x hx => hen x (hsub x hx)
    simp only [List.length_cons] at this; omega
  have hdr := due_rest (tag := tag) (tag2 := tag2) (enc := enc) (v := v) hi hr0
  have hdL := due_len (tag := tag) (tag2 := tag2) (enc := enc) (vals := v :: r') hi htl htl2
  generalize hdue : dueB i tag tag2 enc (v :: r') = due at hdl hdr hdL
  have hdl2 : due.length ≤ 50000 := by
    have e : i = 0 ∨ i = 1 ∨ i = 2 := by omega
    have e2 := vint_len_le (bodyB enc (v :: r')).length (by omega)
    rw [hdL, dueLen]
    have h60 : (vint (8 * num)).length * (v :: r').length ≤ 60 * 21 := Nat.mul_le_mul hvl (by simp; omega)
    split
    · omega
    · split <;> omega
  have hn0 : ∃ b rt, tag = b :: rt ∧ b ≠ 0 := by rw [← htag]; exact vint_not0 (by omega)
  refine Wp.conA ?_
  refine Wp.still (ArgV n i (v :: r')) ?_ ?_
  · walk_at "aus"
    rw [b1]
    refine iB (fun h0 => ?_) (fun h0 => ?_)
    · walk_at "aus"
      exact ⟨rfl, rfl, .inr ⟨h0, lv, ws, ew, rfl, hlv, by rw [← hr', if_neg (by omega)]; exact hws⟩⟩
    · have : i = 0 := by omega
      subst this
      walk_at "aus"
      cases hws with
      | cons a tv hws' =>
        refine Wp.itemL hlv (by decide) (by decide) rfl ⟨rfl, rfl, .inl ⟨rfl, v, tv, by rw [hr0 rfl], rfl⟩⟩
  intro value hval
  walk_at "aus"
  refine Wp.newList (by simp) fun P hP => ?_
  walk_at "aus"
  refine Wp.conE ?_ (hi := hint)
  walk_at "aus"
  rw [b1, b2]
  refine ⟨M.e.kp _ fun p hp => .tail _ (hnd p hp), M.e.run _ _ _ _ num i tn _ _ (fun p hp => .tail _ (hnd p hp)) (rm.le (by decide)) hn2 hi fun fe me hfe F => ?_⟩
  rw [htag, htag2] at F
  have hmem : ∀ p ∈ (P, Lst []) :: n, p ∈ me ++ (P, Lst []) :: n := fun p hp => List.mem_append_right _ hp
  walk_at "aus"
  refine Wp.attrApp ?_
  walk_at "aus"
  refine ⟨P, [], 0, rfl, hmem _ (.head _), fun b hb => ?_⟩
  walk_at "aus"
  have hbP : b ≠ P := Nat.ne_of_gt (hb (P, Lst []) (hmem _ (.head _)))
  have hndP : ∀ p ∈ me ++ nd, p.1 ≠ P := fun p hp => (List.mem_append.mp hp).elim (fun q => Nat.ne_of_gt (hfe p q (P, Lst []) (.head _))) fun q => Nat.ne_of_lt (hP p (hnd p q))
  have hndm : ∀ p ∈ me ++ nd, p ∈ (b, bnd P) :: (me ++ (P, Lst []) :: n) := fun p hp => .tail _ ((List.mem_append.mp hp).elim (fun q => List.mem_append_left _ q) fun q => hmem p (.tail _ (hnd p q)))
  have hvP : value ≠ .ref P := fun e => by
    rcases hval with ⟨_, x, t, _, e2⟩ | ⟨_, l, us, eq, e2, hm, _⟩
    · rw [e2] at e; cases e
    · rw [e2] at e; cases e
      exact Nat.lt_irrefl _ (hP _ hm)
  refine ⟨F.kp _ hndm, F.run (.ref b) P [(b, bnd P)] 0 (writer_bnd hbP) _ _ _ _ [] 0 value (v :: r') _ _ _ hndm hndP (fun p hp => by rw [List.mem_singleton.mp hp]; exact .head _) (.tail _ (hmem _ (.head _))) (rm.le (by decide)) (by simp) (hval.sub fun p hp => .tail _ (hmem p (.tail _ hp))) hvP hB' (by simp; omega) (by omega) fun bs' ep' hfl hln => ⟨rfl, ?_⟩⟩
  rw [hdue] at hfl
  have hneP : ∀ p ∈ n, p.1 ≠ P := fun p hp => Nat.ne_of_lt (hP p hp)
  refine Wp.drop (n' := (P, Lst (bs'.map byVal) ep') :: n) (fun p hp => ?_) ?_
  · rcases List.mem_cons.mp hp with rfl | hp
    · exact mem_upd_self (.tail _ (hmem _ (.head _)))
    · exact mem_upd_ne (a := p.1) (o := p.2) (.tail _ (hmem p (.tail _ hp))) (hneP p hp)
  walk_at "aus"
  refine Wp.itemL (.tail _ hld) (by omega) (by omega) (by rw [Int.toNat_natCast]; exact hdl) ?_
  walk_at "aus"
  refine Wp.gmBy slot_join type_join ?_
  walk_at "aus"
  refine ⟨.bui _, Wp.joinB (.head _) (by rw [hfl]; omega) fun tj => ?_⟩
  rw [hfl]
  walk_at "aus"
  refine iF (by simp) ?_
  walk_at "aus"
  rw [b1, b2]
  refine ⟨M.s.kp _ fun p hp => .tail _ (hnd p hp), M.s.run _ _ _ _ num i tn _ _ (fun p hp => .tail _ (hnd p hp)) (rm.le (by decide)) hn2 hi fun fs ms X => ?_⟩
  have hmem2 : ∀ p ∈ n, p ∈ ms ++ (P, Lst (bs'.map byVal) ep') :: n := fun p hp => List.mem_append_right _ (.tail _ hp)
  have hndm2 : ∀ p ∈ ms ++ nd, p ∈ ms ++ (P, Lst (bs'.map byVal) ep') :: n := fun p hp => (List.mem_append.mp hp).elim (fun q => List.mem_append_left _ q) fun q => hmem2 p (hnd p q)
  walk_at "aus"
  refine ⟨X.kp _ hndm2, X.run _ _ _ _ value (v :: r') _ _ hndm2 (rm.le (by decide)) (hval.sub hmem2) hB' (by simp; omega) (by omega) fun ts => ?_⟩
  walk_at "aus"
  refine ⟨.bui _, Wp.lenB (by rw [List.size_toArray]; omega) fun tz => ?_⟩
  rw [List.size_toArray, hdL]
  walk_at "aus"
  refine iF (by simp) ?_
  walk_at "aus"
  refine iF rfl ?_
  refine Wp.drop (n' := n) hmem2 ?_
  walk_at "aus"
  refine Wp.dict0 fun d od hd hsm hdo => ?_
  walk_at "aus"
  rw [b2]
  refine ite_still (fun bv : Value => ∃ t, bv = Value.bytes (if i = 2 then tag2 else tag).toArray t) (fun h2 => ?_) (fun h2 => ?_) ?_
  · rw [if_pos h2]
    walk_at "aus"
    exact ⟨rfl, rfl, _, rfl⟩
  · rw [if_neg h2]
    have hpl' : (L + 1, cellObj (some (.bytes tag.toArray tp))) ∈ (d, od) :: n := .tail _ hpl
    walk_at "aus"
    exact ⟨rfl, rfl, _, rfl⟩
  rintro bv ⟨tb, rfl⟩
  generalize hpre : (if i = 2 then tag2 else tag) = pre at hdr
  have hprel : pre.length ≤ 60 := by rw [← hpre]; split <;> omega
  walk_at "aus"
  refine ⟨.bui _, Wp.lenB (by rw [List.size_toArray]; omega) fun tf => ?_⟩
  rw [List.size_toArray]
  walk_at "aus"
  rw [b1, b2]
  refine Exists.elim M.d fun rv hM => Exists.elim hM fun nv hM => ?_
  have MD := hM.1
  refine ⟨MD.kp _ fun p hp => .tail _ (hnd p hp), MD.run _ _ _ _ num i tn _ _ _ _ (fun p hp => .tail _ (hnd p hp)) (rm.le (by decide)) hn2 hi fun fd md hfd D _ => ?_⟩
  rw [htag] at D
  have hmem3 : ∀ p ∈ (d, od) :: n, p ∈ md ++ (d, od) :: n := fun p hp => List.mem_append_right _ hp
  have hndm3 : ∀ p ∈ md ++ nd, p ∈ md ++ (d, od) :: n := fun p hp => (List.mem_append.mp hp).elim (fun q => List.mem_append_left _ q) fun q => hmem3 p (.tail _ (hnd p q))
  have hnd3 : ∀ p ∈ md ++ nd, p.1 ≠ d := fun p hp => (List.mem_append.mp hp).elim (fun q => Nat.ne_of_gt (hfd p q (d, od) (.head _))) fun q => Nat.ne_of_lt (hd p (hnd p q))
  have hrest : pre.length + (restB i tag enc (v :: r')).length = due.length := by rw [hdr, List.length_append]
  walk_at "aus"
  refine Wp.addB (by rw [List.size_toArray, List.size_toArray]; show _ + 2 ≤ _; omega) fun tu => ?_
  walk_at "aus"
  refine ⟨.bui _, Wp.lenB (by rw [List.size_toArray]; omega) fun tz => ?_⟩
  rw [List.size_toArray]
  walk_at "aus"
  rw [show ((due.length : Nat) : Int) + 2 = ((due.length + 2 : Nat) : Int) by omega, List.append_toArray, show due ++ [0, 0] = pre ++ (restB i tag enc (v :: r') ++ [0, 0]) by rw [hdr, List.append_assoc]]
  refine ⟨D.kp _ hndm3, D.run _ _ _ _ pre [0, 0] v r' d od (due.length + 2) _ _ _ _ _ hndm3 hnd3 (hmem3 _ (.head _)) hdo hsm (rm.le (by decide)) hB' hr0 (by omega) (by rw [List.length_append, List.length_append]; show _ + (_ + 2) ≤ _; omega) (by omega) ?_ fun n4 dv4 od4 t4 hn4 hd4 hdo4 hval4 => ?_⟩
  · obtain ⟨b, rt, e, hb0⟩ := hn0
    rw [e]
    intro hx
    rw [List.length_cons] at hx
    exact hb0 (List.cons.inj hx).1.symm
  have hn14 : ∀ p ∈ n, p ∈ n4 := fun p hp => hn4 p (hmem3 p (.tail _ hp)) (Nat.ne_of_lt (hd p hp))
  rw [hrest]
  walk_at "aus"
  refine ⟨.bui _, Wp.lenB (by rw [List.size_toArray]; omega) fun tz => ?_⟩
  rw [List.size_toArray]
  walk_at "aus"
  refine iF (by simp) ?_
  walk_at "aus"
  refine Wp.dict1 fun d5 o5 hd5 hsm5 => ?_
  walk_at "aus"
  refine ⟨.head _, fun o6 hdo6 => ?_⟩
  have hne5 : d ≠ d5 := Nat.ne_of_lt (hd5 (d, od4) hd4)
  have hup : ∀ p ∈ n4, p ∈ upd ((d5, o5) :: n4) d5 o6 := fun p hp => mem_upd_ne (a := p.1) (o := p.2) (.tail _ hp) (Nat.ne_of_lt (hd5 p hp))
  refine Wp.dneT (rm.le (by decide) : Rm A' 1) (hup _ hd4) (mem_upd_self (.head _)) hdo4 hdo6 hsm hsm5 ((hval4.sub hup).alike ((hval.sub hn14).sub hup)) ?_
  walk_at "aus"
  refine iF rfl ?_
  walk_at "aus"
  refine iF rfl ?_
  walk_at "aus"
  exact ⟨fun p hp => hup p (hn14 p hp), _, _, _, _, _, _, _, rfl⟩
end
end

section
set_option maxHeartbeats 4000000
open PySem PySem.Spec PySem.Calls PyProof.Rows PySem.W

theorem bodyB_le {enc : Nat → List UInt8} : ∀ l : List Nat, (∀ x ∈ l, (enc x).length ≤ 1000) → (bodyB enc l).length ≤ l.length * 1000
  | [], _ => by simp [bodyB]
  | a :: l, h => by
    rw [bodyB_cons, List.length_append, List.length_cons]
    have := bodyB_le l fun x hx => h x (.tail _ hx)
    have := h a (.head _)
    omega
section
variable {G : Gl} {f : Fk} {A : Around} {vs : Vals} {n : Led} {E : Value → Shared → Prop} {env : Env} {rest : List Stmt} {Q : Flow → Vals → Led → Prop}
/-- for x in iter, what is gone through told behind the look at iter -/
theorem Wp.conFx {x : Str} {tpos : Pos} {iter : Expr} {body : List Stmt} {pos : Pos}
    (h : Wp G f A (eval iter env) vs n (fun v vs1 n1 => ∃ (item : Nat → Value → Prop) (N : Nat) (src : Led) (I : Nat → Vals → Led → Prop), ItrOf G f A v n1 item N src ∧ I 0 vs1 n1 ∧ ForI src n1 I ∧
      (∀ it o i v vs' n', (∀ p ∈ n1, p.1 < it) → (∀ p ∈ n', p.1 < it) → i < N → item i v → I i vs' n' → Wp G f A (storeName env x v) vs' ((it, o) :: n') (fun _ vs2 n2 => Wp G f A (execs body env) vs2 n2
        (LoopQ (fun vs3 n3 => ∃ n4, (∀ p ∈ (it, o) :: n4, p ∈ n3) ∧ I (i + 1) vs3 n4) (fun _ _ => False) (fun _ _ _ => False)) Bot) Bot) ∧
      (∀ vs' n', I N vs' n' → Wp G f A (execs rest env) vs' n' Q E)) E)
    (hs : ∀ x, foldedSetIterable iter env x = Pure.pure x := by intro _; rfl) :
    Wp G f A (execs (.For (.Name x tpos) iter body [] pos :: rest) env) vs n Q E := by
  refine Wp.cons ⟨fun s S => wpAny_For (wpAny_mono (h.run s S) (fun v s1 ⟨vs1, n1, S1, item, N, src, I, hit, h0, FI, turn, fin⟩ => ?_) fun _ _ x => x) hs⟩
  refine wpAny_mono ((hit vs1 E (fun itv vs2 n2 => ∃ it o MK, itv = .ref it ∧ vs2 = vs1 ∧ n2 = (it, o) :: n1 ∧ (∀ p ∈ n1, p.1 < it) ∧ Itr G A it MK item N src ∧ MK 0 o) (fun it o MK hl T hm => ⟨it, o, MK, rfl, rfl, rfl, hl, T, hm⟩)).run s1 S1) (fun itv s2 ⟨vs2, n2, S2, it, o, MK, e, e1, e2, hl, T, hm⟩ => ?_) fun _ _ x => x
  subst e e1 e2
  exact forGo (n1 := n1) S2 T hm FI hl h0 (fun o i v vs' n' hi hv hl' hI => turn it o i v vs' n' hl hl' hi hv hI) fun vs' n' s' hI S' => ⟨vs', n', S', fin vs' n' hI⟩
end
section
variable {G : Gl} {f : Fk} {A : Around} {vs : Vals} {n : Led} {E : Value → Shared → Prop} {Q : Value → Vals → Led → Prop}
theorem law_holds (hG : Ok G) (rm : Rm A 26) {ev sv dv : Value} {nd : Led} {wire num v : Nat} {rr : List Nat} {enc : Nat → List UInt8} {B : Nat → Prop} (M : Mk3 G ev sv dv nd wire enc B)
    (hnd : ∀ p ∈ nd, p ∈ n) (hw : wire ≤ 5) (hn1 : 1 ≤ num) (hn2 : num < 1073741824) {am lv lo : Addr} {ws : List Value} {bs : List (List UInt8 × Tok)} {ew eo : Nat} {tn tw : Tok} (ham : (am, Tup [ev, sv, dv]) ∈ n) (hlv : (lv, Lst ws ew) ∈ n) (hws : IntsAre ws ((v :: rr).map fun x => ((x : Nat) : Int)))
    (hlo : (lo, Lst (bs.map byVal) eo) ∈ n) (hbs : bs.map (·.1) = (v :: rr).map enc) (hB : ∀ x ∈ v :: rr, B x) (hrr : rr.length ≤ 20) (hen : ∀ x ∈ v :: rr, (enc x).length ≤ 1000) (h : Q (.bool true) vs n) :
    Wp G f A (PySem.call (.ref 320) [.ref am, .int num tn, .int wire tw, .ref lv, .ref lo]) vs n Q E := by
  refine Wp.callK hG (ns := nsLH) rm (by rfl) (by kernel_rfl) (fun s _ => BindsTo.of_eq (by rfl)) (by decide +kernel) (by rfl) (fun g L A' env he hlt rm' => ⟨RLH L, [some (.ref am), some (.int num tn), some (.int wire tw), some (.ref lv), some (.ref lo), none, none, none, none, none, none, none, none, none, none, none, none, none], (L + 1, cellObj none) :: n, ?_, ?_, fun r => ?_⟩)
  · subst he; unfold RLH nsLH; walk_at "au_slots"
  · unfold RLH nsLH; walk_at "au_pl"
  · have r0 := r
    unfold RLH at r
    have hint : interactive env = false := by subst he; rfl
    have k1 : ∀ n, KP G n (.ref 231) := fun _ => .k hG (by rfl) ⟨_, _, _, _, rfl⟩
    have hbl := bodyB_le (v :: rr) hen
    rw [List.length_cons] at hbl
    have hfl : (bs.map (·.1)).flatten = bodyB enc (v :: rr) := by rw [hbs]; rfl
    have hbn : bs.length = rr.length + 1 := by have := congrArg List.length hbs; simpa using this
    obtain ⟨tb0, br, rfl⟩ : ∃ tb br, bs = (enc v, tb) :: br := by
      cases bs with
      | nil => cases hbs
      | cons b br =>
        obtain ⟨b1, b2⟩ := b
        rw [List.map_cons, List.map_cons] at hbs
        have := (List.cons.inj hbs).1
        exact ⟨b2, br, by rw [← this]⟩
    have hev := hen v (.head _)
    generalize hbsg : (enc v, tb0) :: br = bs at hlo hbs hfl hbn
    have hl0 : (bs.map byVal)[0]? = some (Value.bytes (enc v).toArray tb0) := by rw [← hbsg]; rfl
    have htl := vint_len_le (8 * num + wire) (by omega)
    have htl2 := vint_len_le (8 * num + 2) (by omega)
    refine Wp.conTup ?_
    walk_at "aus"
    refine Wp.asgT rm'.hh (.tail _ ham) (Wp.aio ?_)
    walk_at "aus"
    refine Wp.aio ?_
    walk_at "aus"
    refine Wp.aio ?_
    walk_at "aus"
    refine Wp.aio0 ?_
    walk_at "aus"
    refine Wp.mul (IntMulOk.of_left (by decide)) fun _ => ?_
    walk_at "aus"
    rw [show (8 * (num : Int) + (wire : Int)) = ((8 * num + wire : Nat) : Int) by push_cast; rfl]
    refine ⟨k1 _, law_varint hG (rm'.le (by decide)) (by omega) fun tp => ?_⟩
    walk_at "aus"
    rw [upd_cons, upd_id fun p hp => Nat.ne_of_lt (Nat.lt_succ_of_lt (hlt p hp))]
    generalize htag : vint (8 * num + wire) = tag at htl
    refine Wp.gmBy slot_join type_join ?_
    walk_at "aus"
    refine ⟨.bui _, Wp.joinB (.tail _ hlo) (by rw [hfl]; omega) fun tj => ?_⟩
    rw [hfl]
    walk_at "aus"
    refine Wp.mul (IntMulOk.of_left (by decide)) fun _ => ?_
    walk_at "aus"
    rw [show (8 * (num : Int) + 2) = ((8 * num + 2 : Nat) : Int) by push_cast; rfl]
    refine ⟨k1 _, law_varint hG (rm'.le (by decide)) (by omega) fun tq => ?_⟩
    generalize htag2 : vint (8 * num + 2) = tag2 at htl2
    walk_at "aus"
    refine Wp.itemL (.tail _ hlo) (by decide) (by decide) hl0 ?_
    refine Wp.addB (by rw [List.size_toArray, List.size_toArray]; omega) fun t0 => ?_
    rw [List.append_toArray]
    walk_at "aus"
    refine Wp.gmBy slot_join type_join ?_
    walk_at "aus"
    refine Wp.comp (cl := [("plain", L + 1)]) (fun i v => (bs.map byVal)[i]? = some v) (bs.map byVal).length [(lo, Lst (bs.map byVal) eo)] ["one"] (fun C i us vs1 n1 => (∃ o, vs1 = [o]) ∧ n1 = (L + 1, cellObj (some (.bytes tag.toArray tp))) :: n ∧ ∃ bs' : List (List UInt8 × Tok), us = bs'.map byVal ∧ bs'.map (·.1) = (bs.take i).map fun b => tag ++ b.1) (by subst he; rfl) (by rfl) (by decide +kernel) (by simp; omega) ?_
    walk_at "aus"
    refine ⟨itr_list rm'.hh (.tail _ hlo), ⟨fun C i us vs1 n1 ⟨_, e, _⟩ p hp => (by subst e; rw [List.mem_singleton.mp hp]; exact .tail _ hlo), fun C i us vs1 n1 ⟨_, e, _⟩ => (by subst e; exact Sub.rfl'), ?_⟩, ?_, ?_⟩
    · rintro g2 C D it o i x us vs1 n1 hit hid hdc hi2 hv ⟨⟨o1, rfl⟩, rfl, bs', rfl, hbs'⟩ hne
      rw [List.getElem?_map] at hv
      obtain ⟨⟨b1, b2⟩, hb, rfl⟩ := Option.map_eq_some_iff.mp hv
      have hb1 : b1.length ≤ 1000 := by
        have : b1 ∈ bs.map (·.1) := List.mem_map.mpr ⟨_, List.mem_of_getElem? hb, rfl⟩
        rw [hbs] at this
        obtain ⟨y, hy, e⟩ := List.mem_map.mp this
        rw [← e]; exact hen y hy
      generalize hce : cEnv _ _ C env = ce
      have rc : Res G ⟨g2, C, ["one"]⟩ ce [("one", .loc 0), ("plain", .cel (L + 1))] := by
        subst hce he
        refine ⟨by rfl, rfl, rfl, rfl, (by decide +kernel : (["one"] : List Str).Nodup), ?_⟩
        rw [hG.K]
        exact SlotsOk.all (R := [("one", .loc 0), ("plain", .cel (L + 1))]) (by walk_at "au_slots")
      show Wp _ _ _ (storeName ce _ (Value.bytes b1.toArray b2)) _ _ _ _
      walk_at "aus"
      refine Wp.addB (by rw [List.size_toArray, List.size_toArray]; omega) fun tz => ?_
      rw [List.append_toArray]
      refine ⟨(L + 1, cellObj (some (.bytes tag.toArray tp))) :: n, fun p hp => hp, ⟨_, rfl⟩, rfl, bs' ++ [(tag ++ b1, tz)], by rw [List.map_append]; rfl, ?_⟩
      rw [List.map_append, hbs', List.take_add_one, hb]
      simp
    · intro C hC
      exact ⟨⟨none, rfl⟩, rfl, [], rfl, rfl⟩
    · rintro D C us vs1 n1 hD ⟨_, rfl, bs', rfl, hbs'⟩ hul
      rw [List.length_map, List.take_length] at hbs'
      have hf1 : (bs'.map (·.1)).flatten = bodyB (fun v => tag ++ enc v) (v :: rr) := by
        rw [hbs', show (bs.map fun b => tag ++ b.1) = (bs.map (·.1)).map fun b => tag ++ b by rw [List.map_map]; rfl, hbs, List.map_map]; rfl
      have hfl1 : (bodyB (fun v => tag ++ enc v) (v :: rr)).length ≤ 100000 := by
        have := bodyB_le (enc := fun v => tag ++ enc v) []
        have e := due_len (mode := 1) (tag := tag) (tag2 := tag) (enc := enc) (vals := v :: rr) (by decide) rfl rfl
        rw [show dueB 1 tag tag enc (v :: rr) = bodyB (fun v => tag ++ enc v) (v :: rr) from rfl] at e
        rw [e, show dueLen 1 tag.length enc (v :: rr) = tag.length * (v :: rr).length + (bodyB enc (v :: rr)).length from rfl]
        have h60 : tag.length * (v :: rr).length ≤ 60 * 21 := Nat.mul_le_mul htl (by simp; omega)
        omega
      refine ⟨(D, Lst (bs'.map byVal) (bs.map byVal).length) :: (L + 1, cellObj (some (.bytes tag.toArray tp))) :: n, fun p hp => hp, ?_⟩
      walk_at "aus"
      refine ⟨.bui _, Wp.joinB (.head _) (by rw [hf1]; omega) fun tj2 => ?_⟩
      rw [hf1]
      refine Wp.drop (n' := (L + 1, cellObj (some (.bytes tag.toArray tp))) :: n) (fun p hp => .tail _ hp) ?_
      walk_at "aus"
      refine ⟨.bui _, Wp.lenB (by rw [List.size_toArray]; omega) fun tz => ?_⟩
      rw [List.size_toArray]
      walk_at "aus"
      have hvv := vint_len_le (bodyB enc (v :: rr)).length (by omega)
      refine ⟨k1 _, law_varint hG (rm'.le (by decide)) (by omega) fun ty => ?_⟩
      refine Wp.addB (by rw [List.size_toArray, List.size_toArray]; omega) fun tx => ?_
      rw [List.append_toArray]
      walk_at "aus"
      refine Wp.addB (by rw [List.size_toArray, List.size_toArray, List.length_append]; omega) fun t2 => ?_
      rw [List.append_toArray]
      walk_at "aus"
      refine Wp.newList (by simp) fun ld hld => ?_
      walk_at "aus"
      generalize hn0 : (ld, Lst [Value.bytes (tag ++ enc v).toArray t0, Value.bytes (bodyB (fun v => tag ++ enc v) (v :: rr)).toArray tj2, Value.bytes (tag2 ++ vint (bodyB enc (v :: rr)).length ++ bodyB enc (v :: rr)).toArray t2]) :: (L + 1, cellObj (some (Value.bytes tag.toArray tp))) :: n = n0
      have hnn : ∀ p ∈ n, p ∈ n0 := fun p hp => by rw [← hn0]; exact .tail _ (.tail _ hp)
      have hpl0 : (L + 1, cellObj (some (Value.bytes tag.toArray tp))) ∈ n0 := by rw [← hn0]; exact .tail _ (.head _)
      have hld0 : (ld, Lst [Value.bytes (tag ++ enc v).toArray t0, Value.bytes (bodyB (fun v => tag ++ enc v) (v :: rr)).toArray tj2, Value.bytes (tag2 ++ vint (bodyB enc (v :: rr)).length ++ bodyB enc (v :: rr)).toArray t2]) ∈ n0 := by rw [← hn0]; exact .head _
      refine Wp.conFx ?_
      walk_at "aus"
      refine Wp.newTuple (by simp) fun tu htu => ?_
      generalize hit : ([_, _, _] : List Value) = items
      refine ⟨fun i v => items[i]? = some v, items.length, [(tu, Tup items)], fun i vs' n' => n' = (tu, Tup items) :: n0 ∧ ∃ o11 o12 o13 o14 o15 o16 o17, vs' = [some (.ref am), some (.int num tn), some (.int wire tw), some (.ref lv), some (.ref lo), some ev, some sv, some dv, some (.bytes (bodyB enc (v :: rr)).toArray tj), some (.bytes tag2.toArray tq), some (.ref ld), o11, o12, o13, o14, o15, o16, o17],
        itr_tuple rm'.hh (.head _), ⟨rfl, _, _, _, _, _, _, _, rfl⟩, ⟨fun i vs' n' ⟨e, _⟩ p hp => (by subst e; rw [List.mem_singleton.mp hp]; exact .head _), fun i vs' n' ⟨e, _⟩ => (by subst e; exact Sub.rfl')⟩, ?_, ?_⟩
      · rintro it o i w vs' n' hit1 _ hi hw2 ⟨rfl, o11, o12, o13, o14, o15, o16, o17, rfl⟩
        obtain ⟨ti, rfl, hi3⟩ : ∃ t, w = Value.int (i : Nat) t ∧ i ≤ 2 := by
          subst hit
          match i, hw2 with
          | 0, h => exact ⟨_, (Option.some.inj h).symm, by decide⟩
          | 1, h => exact ⟨_, (Option.some.inj h).symm, by decide⟩
          | 2, h => exact ⟨_, (Option.some.inj h).symm, by decide⟩
          | i + 3, h => cases h
        walk_at "au"
        obtain ⟨td, hdl⟩ : ∃ t, ([Value.bytes (tag ++ enc v).toArray t0, Value.bytes (bodyB (fun v => tag ++ enc v) (v :: rr)).toArray tj2, Value.bytes (tag2 ++ vint (bodyB enc (v :: rr)).length ++ bodyB enc (v :: rr)).toArray t2] : List Value)[i]? = some (.bytes (dueB i tag tag2 enc (v :: if i = 0 then [] else rr)).toArray t) := by
          have : i = 0 ∨ i = 1 ∨ i = 2 := by omega
          rcases this with rfl | rfl | rfl
          · exact ⟨t0, by simp [dueB, bodyB]⟩
          · exact ⟨tj2, rfl⟩
          · exact ⟨t2, rfl⟩
        subst htag htag2
        refine (lh_turn hG r0 hint (rm'.le (by decide)) (n := (it, o) :: (tu, Tup items) :: n0) (i := i) (ti := ti) (tn := tn) (tq := tq) M (fun p hp => .tail _ (.tail _ (hnn p (hnd p hp)))) hw hn1 hn2 hi3 (.tail _ (.tail _ hld0)) hdl (.tail _ (.tail _ (hnn _ hlv))) hws (.tail _ (.tail _ hpl0)) hB hrr hen).monoQ fun fl vs3 n3 q => ?_
        cases fl with
        | next => exact ⟨_, q.1, rfl, q.2⟩
        | cont => exact ⟨_, q.1, rfl, q.2⟩
        | brk => exact q
        | ret v => exact q
      · rintro vs' n' ⟨rfl, _⟩
        walk_at "aus"
        exact ⟨n, fun p hp => .tail _ (hnn p hp), h⟩
end
end

section
set_option maxHeartbeats 4000000
open PySem PySem.Spec PySem.Calls PyProof.Rows PySem.W

section
variable {G : Gl} {f : Fk} {A : Around} {vs : Vals} {n : Led} {E : Value → Shared → Prop} {env : Env} {rest : List Stmt}
/-- del o[i] -/
theorem Wp.conDel {o i : Expr} {p pos : Pos} {Q : Flow → Vals → Led → Prop} (h : Wp G f A (eval o env) vs n (fun ov vs1 n1 => Wp G f A (eval i env) vs1 n1 (fun iv vs2 n2 => Wp G f A (delItem ov iv) vs2 n2 (fun _ vs3 n3 => Wp G f A (execs rest env) vs3 n3 Q E) E) E) E) :
    Wp G f A (execs (.Delete [.Subscript o i p] pos :: rest) env) vs n Q E := by
  refine Wp.cons ⟨fun s S => wpAny_Delete (wpAny_deleteEach_cons ?_)⟩
  rw [arm_delete_Subscript]
  refine (Wp.bind (m := eval o env) (h.monoQ fun ov vs1 n1 q1 => Wp.bind (Wp.holding (q1.monoQ fun iv vs2 n2 q2 => Wp.bind (Wp.standAt (Wp.bind (Wp.holding (q2.monoQ fun _ vs3 n3 q3 => ?_)))))))).run s S |> fun z => wpAny_mono z (fun _ s1 ⟨_, _, S1, q⟩ => wpAny_deleteEach_nil ⟨_, _, S1, q⟩) fun _ _ x => x
  exact Wp.release q3
/-- raise C('..') -/
theorem Wp.raiseOwn (hG : Ok G) {R : List (Str × Slot)} {x text : Str} {C : Addr} {k : Nat} {np tp cpos pos : Pos} {Q : Flow → Vals → Led → Prop} (r : Res G f env R) (hx : (x, Slot.glo (.ref C)) ∈ R) (hh : A.handled = none)
    (e1 : nsIn (hdK G.w) mainGlobals x = some (some (.ref C))) (e2 : excIn (hdK G.w) C [.type "Exception", .type "BaseException", .type "object"] "Exception.__new__" = true)
    (h : ∀ s h' e tk, St G f vs n s → Heap.MadeExcOf s.heap h' e (.ref C) [.str text tk] → E (.ref e) { s with heap := h' }) :
    Wp G f A (execs (.Raise (some (.Call (.Name x np) [.Constant (.str text) k tp] [] cpos)) none pos :: rest) env) vs n Q E := by
  refine Wp.cons ⟨fun s S => ?_⟩
  have X := S.X
  rw [hG.K] at X
  have O := own_of_in X (topRead_of S.T) e1 e2
  obtain ⟨tl, N, nm, q, bs, hdct, sn, sub, ab, col, dd, k0, k1, k2, k3, k5, mN, hC, hN, hni, T⟩ := O.obj
  refine wpAny_Raise_call_subT (C := C) (nm := nm) (q := q) (N := N) (bs := bs) (bm := tl) (hdct := hdct) (sn := sn) (sub := sub) (ab := ab) (col := col) (dd := dd) (k0 := k0) (k1 := k1) (k2 := k2) (k3 := k3) (k5 := k5)
    PySem.F.excBase_Exception (mN := mN) (T.hasType PySem.F.excBase_Exception.hasBase) hh (by rfl) hni ?_
  refine wpAny_mono ((Wp.nmg (E := E) (Q := fun v vs1 n1 => v = .ref C ∧ vs1 = vs ∧ n1 = n) r hx ⟨rfl, rfl, rfl⟩).run s S) (fun v s1 ⟨vs1, n1, S1, e3, e4, e5⟩ => ?_) fun _ _ x => x
  subst e3 e4 e5
  refine ⟨rfl, ?_⟩
  have he : starEach [.Constant (.str text) k tp] env = (false, eval (.Constant (.str text) k tp) env) :: starEach [] env := rfl
  have h0 := (Wp.spl (pos := cpos) (E := E) (Q := fun ws vs2 n2 => (∃ tk, ws = [Value.str text tk]) ∧ vs2 = vs1 ∧ n2 = n1) (Wp.cstr (k := k) (pos := tp) (x := text) (A := A) (env := env) fun tk => Wp.spl0 ⟨⟨tk, rfl⟩, rfl, rfl⟩)).run s1 S1
  rw [he] at h0 ⊢
  refine Calls.evalArgs_plain (wpAny_mono h0 (fun ws s2 ⟨vs2, n2, S2, ⟨tk, e3⟩, e4, e5⟩ => ?_) fun _ _ x => x)
  subst e3 e4 e5
  have keep := S2.F.keep
  exact ⟨rfl, by show 1 ≤ sizeLine; decide, keep _ _ hC, hN.keeps keep, T.keeps keep, fun h' e hm => h s2 h' e tk S2 hm⟩

/-- back in the caller's frame -/
theorem St.backTo {f' : Fk} {vs0 vs' : Vals} {n0 n' : Led} {s0 s' : Shared} (S0 : St G f vs0 n0 s0) (S' : St G f' vs' n' s') (st : f.h₀.StaysIn f'.h₀) (hns : f'.h₀.Ns f.L (look f.ns vs)) : St G f vs n' s' := by
  obtain ⟨F, X, T, _⟩ := S0
  obtain ⟨F', _, _, g', os', nJ', N', J'⟩ := S'
  obtain ⟨oL, es, ep, hL, hLd, hLk, hLf⟩ := hns
  refine ⟨⟨⟨oL, es, ep, F'.keep _ _ hL, hLd, hLk, hLf⟩, fun b o e => F'.keep b o (st b o e), F.above⟩, X, T, g', os', nJ', fun p hp => ⟨(N' p hp).1, fun q => ?_, ?_⟩, J'⟩
  · have := (N' p hp).2.2; rw [q, hL] at this; cases this
  · cases q : f.h₀.get? p.1 with
    | none => rfl
    | some o => have := (N' p hp).2.2; rw [st _ _ q] at this; cases this
theorem newEnv_St2 {s : Shared} (S : St G f vs n s) (names : List (Str × NameKind)) (ns : List Str) (fc : Value) :
    ∃ g : Heap, f.h₀.StaysIn g ∧ g.Ns f.L (look f.ns vs) ∧ (∀ p ∈ n, p.1 < s.heap.objs.size) ∧ g.objs.size = s.heap.objs.size ∧
      St G ⟨g, s.heap.objs.size, ns⟩ (List.replicate ns.length none) (cellLed (s.heap.objs.size + 1) names ++ n) { s with heap := pushCells (s.heap.push { cls := fc, data := .dict #[] }) names } := by
  obtain ⟨F, X, T, g, os, nJ, N, J⟩ := S
  have nm : ∀ b o, f.h₀.get? b = some o → b ∉ (n ++ nJ).map (fun p => p.1) := fun b o e q => by
    obtain ⟨p, hp, rfl⟩ := List.mem_map.mp q
    rw [(N p hp).2.2] at e; cases e
  have st : f.h₀.StaysIn (hideAll s.heap ((n ++ nJ).map (fun p => p.1))) := fun b o e => hideAll_get _ (F.keep b o e) (nm b o e)
  have nL : f.L ∉ (n ++ nJ).map (fun p => p.1) := fun q => by
    obtain ⟨p, hp, e⟩ := List.mem_map.mp q
    exact (N p hp).2.1 e
  have hz : (s.heap.push { cls := fc, data := .dict #[] }).objs.size = s.heap.objs.size + 1 := Heap.size_push ..
  have keep : ∀ b o, s.heap.get? b = some o → (pushCells (s.heap.push { cls := fc, data := .dict #[] }) names).get? b = some o := fun b o e => pushCells_keeps _ _ _ _ (Heap.get?_push_of_some _ e)
  refine ⟨hideAll s.heap ((n ++ nJ).map (fun p => p.1)), st, ?_, fun p hp => Heap.lt_size (N p (List.mem_append_left _ hp)).1, hideAll_size _ _, ⟨⟨?_, fun b o e => keep b o (of_hideAll _ e), Nat.le_of_eq (hideAll_size _ _)⟩, by exact Frag.In.keeps X st, by exact Top.keeps T st, g, os, nJ, fun p hp => ?_, J.app (cellLed_noFn _ _)⟩⟩
  · obtain ⟨oL, es, ep, hL, r⟩ := F.ns
    exact ⟨oL, es, ep, hideAll_get _ hL nL, r⟩
  · show Heap.Ns _ _ (look ns (List.replicate ns.length none))
    rw [look_none]
    exact (Heap.Ns.new s.heap fc).keeps (pushCells_keeps _ _)
  · rw [List.append_assoc] at hp
    rcases List.mem_append.mp hp with hp | hp
    · have z := pushCells_led names (s.heap.push { cls := fc, data := .dict #[] }) p (by rw [hz]; exact hp)
      rw [hz] at z
      refine ⟨z.1, Nat.ne_of_gt z.2, ?_⟩
      exact Heap.get?_none_of_le (by rw [hideAll_size]; omega)
    · exact ⟨keep _ _ (N p hp).1, Nat.ne_of_lt (Heap.lt_size (N p hp).1), hideAll_none _ (List.mem_map_of_mem hp)⟩
/-- a call, the frames told -/
theorem callRaw {s : Shared} (S : St G f vs n s) {fa : Addr} {fd : FuncData} {body : List Stmt} {args : List Value} {kw : List (Str × Value)} {binds : List (Str × Value)} {ns : List Str} {Q : Value → Shared → Prop}
    (hroom : A.depth < recursionLimit) (hf : FnIs s.heap fa fd) (hbody : fd.body = .stmts body) (hb : BindsTo s fd ⟨args, kw⟩ binds)
    (h : ∀ g L env, env = newEnv fd.scope L fd.globals (cellsFrom (L + 1) fd.scope.names fd.closure) (fd.qualname ++ ".<locals>.") (some fa) fd.code none fd.builtins → (∀ p ∈ n, p.1 < L) → f.h₀.StaysIn g → g.Ns f.L (look f.ns vs) → g.get? L = none →
      ∃ R vs' n', Res G ⟨g, L, ns⟩ env R ∧ Pl ⟨g, L, ns⟩ env R binds (List.replicate ns.length none) (cellLed (L + 1) fd.scope.names ++ n) vs' n' ∧
        ∀ s₂, St G ⟨g, L, ns⟩ vs' n' s₂ → wpAny (model G.prog G.w) (A.deeper env) (execs body env) (fun fl s₃ => Q (retOf fl) s₃) (callE A env E (model G.prog G.w)) s₂)
    (hco : fd.scope.isCoroutine = false := by rfl) (hgen : fd.scope.isGenerator = false := by rfl) : wpAny (model G.prog G.w) A (call (.ref fa) args kw) Q E s := by
  obtain ⟨⟨oc, od, sl, ho⟩, hrc⟩ := hf
  obtain ⟨g, st, hns, hlt, hgs, S'⟩ := newEnv_St2 S fd.scope.names ns (.type "frame")
  obtain ⟨R, vs', n', r, P, W⟩ := h g s.heap.objs.size _ rfl hlt st hns (Heap.get?_none_of_le (Nat.le_of_eq hgs))
  refine wpAny_call (codeAny_call_function hroom ho rfl hco hgen hbody hrc (hb _ _ _ _ ?_))
  unfold newFunctionEnv
  simp only [Option.isSome_none, Bool.false_eq_true, if_false]
  refine wpAny_bind (wpAny_alloc ?_)
  refine wpAny_bind (wpAny_layCells _ (fun name kind cells => by cases hkc : kind == NameKind.cell <;> simp) _ _ _ _ ?_)
  rw [show ({ s with heap := s.heap.push { cls := .type "frame", data := .dict #[] } } : Shared).heap.objs.size = s.heap.objs.size + 1 from Heap.size_push ..]
  refine wpAny_bind (wpAny_mono ((Wp.binds (A := A.in1) (E := fun e s' => match (Except.error e : Result) with | .ok (.ret v) => Q v s' | .ok _ => False | .error e => E e s') r _ (fun _ _ _ => rfl) P (Q := fun _ v m => v = vs' ∧ m = n') ⟨rfl, rfl⟩).run _ S') (fun _ s₂ ⟨v₂, n₂, S₂, e1, e2⟩ => ?_) fun _ _ x => x)
  subst e1 e2
  refine wpAny_pure ⟨S₂.T.nolimit.keeps S₂.F.keep, codeAny_func (wpAny_mono (W s₂ S₂) (fun fl s₃ q => ?_) fun _ _ x => x)⟩
  cases fl <;> exact q
end
end

section
set_option maxHeartbeats 4000000
open PySem PySem.Spec PySem.Calls PyProof.Rows PySem.W

theorem stays_none {h h' : Heap} (k : h.StaysIn h') {b : Addr} (e : h'.get? b = none) : h.get? b = none := by
  cases q : h.get? b with
  | none => rfl
  | some o => have := k b o q; rw [e] at this; cases this
/-- what stands of the frames when an exception flies -/
structure Stk (G : Gl) (h₁ : Heap) (L₁ : Addr) (m₁ : Str → Option Value) (g₂ : Heap) (L₂ : Addr) (g₃ : Heap) (L₃ : Addr) : Prop where
  X : G.K.In h₁
  T : Top G.p G.loose G.mean G.mg G.mb h₁
  n1 : h₁.get? L₁ = none
  st12 : h₁.StaysIn g₂
  ns1 : g₂.Ns L₁ m₁
  n2 : g₂.get? L₂ = none
  ab : g₂.objs.size ≤ L₂
  st23 : g₂.StaysIn g₃
  n3 : g₃.get? L₃ = none
section
variable {G : Gl} {h₁ g₂ g₃ : Heap} {L₁ L₂ L₃ : Addr} {m₁ : Str → Option Value} {ns₂ ns₃ : List Str} {vs₂ vs₃ : Vals} {n₃ : Led} {s₃ : Shared}
theorem recover (K : Stk G h₁ L₁ m₁ g₂ L₂ g₃ L₃) (hns₂ : g₃.Ns L₂ (look ns₂ vs₂)) (S₃ : St G ⟨g₃, L₃, ns₃⟩ vs₃ n₃ s₃) {h₆ : Heap} (hB : (hideAll s₃.heap [L₃, L₂, L₁]).StaysIn h₆) (hU : s₃.heap.UpToSlots h₆) :
    ∃ g₆, h₁.StaysIn g₆ ∧ g₆.Ns L₁ m₁ ∧ St G ⟨g₆, L₂, ns₂⟩ vs₂ n₃ { s₃ with heap := h₆ } := by
  obtain ⟨F, X, T, gg, os, nJ, N, J⟩ := S₃
  obtain ⟨o₁, es, ep, hL₁, hd₁, r₁⟩ := K.ns1
  have hL₁3 := F.keep _ _ (K.st23 _ _ hL₁)
  obtain ⟨sl, hs⟩ := hU _ _ hL₁3 (fun vs q => by rw [hd₁] at q; cases q)
  have hg₆ := Heap.get?_update_self (fun o => { o with slots := sl }) hL₁ ((kts_isFreed o₁ sl).trans (Heap.get?_some_iff.mp hL₁).2)
  have hne : ∀ b, b ≠ L₁ → (g₂.update L₁ fun o => { o with slots := sl }).get? b = g₂.get? b := fun b hb => Heap.get?_update_other _ _ (Ne.symm hb)
  have st16 : h₁.StaysIn (g₂.update L₁ fun o => { o with slots := sl }) := fun b o e => (hne b fun q => by rw [q, K.n1] at e; cases e).trans (K.st12 b o e)
  obtain ⟨o₂, es₂, ep₂, hL₂, hd₂, r₂⟩ := hns₂
  have keepB : ∀ b o, s₃.heap.get? b = some o → b ≠ L₁ → b ≠ L₂ → b ≠ L₃ → h₆.get? b = some o := fun b o e h1 h2 h3 => hB b o (hideAll_get _ e (by simp [h1, h2, h3]))
  refine ⟨g₂.update L₁ fun o => { o with slots := sl }, st16, ⟨_, es, ep, hg₆, hd₁, r₁⟩, ⟨⟨?_, fun b o e => ?_, ?_⟩, K.X.keeps st16, K.T.keeps st16, gg, os, nJ, fun p hp => ?_, J⟩⟩
  · exact hU.ns ⟨o₂, es₂, ep₂, F.keep _ _ hL₂, hd₂, r₂⟩
  · by_cases hb : b = L₁
    · subst hb
      rw [hg₆] at e
      cases e
      exact hs
    · rw [hne b hb] at e
      have e3 := K.st23 _ _ e
      refine keepB b o (F.keep _ _ e3) hb (fun q => ?_) fun q => ?_
      · rw [q, K.n2] at e; cases e
      · rw [q, K.n3] at e3; cases e3
  · rw [Heap.size_after_update]; exact K.ab
  · have z := N p hp
    have h1 : p.1 ≠ L₁ := fun q => by have := z.2.2; rw [q, K.st23 _ _ hL₁] at this; cases this
    have h2 : p.1 ≠ L₂ := fun q => by have := z.2.2; rw [q, hL₂] at this; cases this
    exact ⟨keepB _ _ z.1 h1 h2 z.2.1, h2, (hne _ h1).trans (stays_none K.st23 z.2.2)⟩
end

section
variable {G : Gl} {h₁ g₂ g₃ : Heap} {L₁ L₂ L₃ e : Addr} {m₁ : Str → Option Value} {ns₂ ns₃ : List Str} {vs₂ vs₃ : Vals} {n₃ : Led} {s₃ : Shared} {A₂ : Around} {env₁ env₂ env₃ : Env} {R : List (Str × Slot)} {x : Str} {C : Addr} {b₀ : Stmt} {suite : List Stmt} {np pos : Pos} {hs : List ExceptHandler} {QQ : Flow → Vals → Led → Prop} {h' : Heap} {ws : List Value} {E : Value → Shared → Prop}
theorem caught (hG : Ok G) (K : Stk G h₁ L₁ m₁ g₂ L₂ g₃ L₃) (hns₂ : g₃.Ns L₂ (look ns₂ vs₂)) (S₃ : St G ⟨g₃, L₃, ns₃⟩ vs₃ n₃ s₃) (hfr : A₂.frames = some [env₂, env₁]) (hf₁ : env₁.frame = some L₁) (hf₂ : env₂.frame = some L₂) (hf₃ : env₃.frame = some L₃)
    (hk₁ : env₁.scope.kind ≠ .module) (hk₂ : env₂.scope.kind ≠ .module) (hk₃ : env₃.scope.kind ≠ .module) (hm : Heap.MadeExcOf s₃.heap h' e (.ref C) ws) (r : ∀ g, Res G ⟨g, L₂, ns₂⟩ env₂ R) (hx : (x, Slot.glo (.ref C)) ∈ R) (hc : ktsIn (hdK G.w) C "BaseException" = true)
    (k : ∀ g₆, h₁.StaysIn g₆ → g₆.Ns L₁ m₁ → Wp G ⟨g₆, L₂, ns₂⟩ (A₂.mark (some (.ref e))) (execs (b₀ :: suite) env₂) vs₂ n₃ QQ Bot) :
    wpAny (model G.prog G.w) (A₂.deeper env₃) (leaving env₃ (.ref e)) (fun _ s₄ => wpAny (model G.prog G.w) A₂ (noteFrame (.ref e) env₂) (fun _ s₅ => wpAny (model G.prog G.w) A₂ (setFlight (.ref e) none) (fun _ s₆ =>
      wpAny (model G.prog G.w) A₂ (handleBy (.ref e) env₂ (.ExceptHandler (some (.Name x np)) none (b₀ :: suite) pos :: hs)) (fun fl s => ∃ g₆ vs' n', h₁.StaysIn g₆ ∧ g₆.Ns L₁ m₁ ∧ St G ⟨g₆, L₂, ns₂⟩ vs' n' s ∧ QQ fl vs' n') Bot s₆) Bot s₅) Bot s₄) E { s₃ with heap := h' } := by
  have S3 := S₃
  obtain ⟨F, X, T, gg, os, nJ, N, J⟩ := S3
  obtain ⟨o₁, es, ep, hL₁, hd₁, _⟩ := K.ns1
  obtain ⟨o₂, es₂, ep₂, hL₂, hd₂, _⟩ := hns₂
  obtain ⟨o₃, es₃, ep₃, hL₃, hd₃, _⟩ := F.ns
  have nf : ∀ {o : Obj} {es ep}, o.data = .dict es ep → ∀ vs, o.data ≠ .fields vs := fun h vs q => by rw [h] at q; cases q
  refine wpAny_leaves_madeW (base := hideAll s₃.heap [L₃, L₂, L₁]) (h := s₃.heap) (outer := [env₂, env₁]) (by show A₂.frames.map _ = _; rw [hfr]; rfl) hf₃ (fun b o q => of_hideAll _ q)
    ⟨hk₃, ⟨L₃, o₃, hf₃, hideAll_none _ (by simp), hL₃, nf hd₃⟩, hk₂, ⟨L₂, o₂, hf₂, hideAll_none _ (by simp), F.keep _ _ hL₂, nf hd₂⟩, hk₁, ⟨L₁, o₁, hf₁, hideAll_none _ (by simp), F.keep _ _ (K.st23 _ _ hL₁), nf hd₁⟩, trivial⟩ hm fun h4 t x1 x2 x3 x4 => ?_
  have u4 := (Heap.UpToSlots.of_keeps hm.keeps).trans x4
  refine wpAny_looks_onW hfr hf₂ x1 fun h5 y1 y2 => ?_
  refine wpAny_landsW y1 fun h6 z1 z2 => ?_
  have u6 := (u4.trans y2).trans z2
  obtain ⟨g₅, st5, nsL5, S₅⟩ := recover K ⟨o₂, es₂, ep₂, hL₂, hd₂, by assumption⟩ S₃ z1.1 u6
  obtain ⟨ob, hob, hobc⟩ := z1.there
  have X5 := S₅.X
  rw [hG.K] at X5
  obtain ⟨nm, q', N', bs, bm, hdct, sn, sub, ab, col, dd, k0, k1, k2, k3, k5, newId, hC, hbase, _⟩ := kts_cls X5 hc
  refine wpAny_handleBy_cons (codeAny_handlers_test ?_) (by intro q; cases q)
  obtain ⟨kx, ex, hdx⟩ := (r g₅).ok _ _ hx
  refine Name_function_global (r g₅).kind kx (loadGlobal_global (mg := G.mg) (by rw [(r g₅).glob]; exact S₅.T.g.keeps S₅.F.keep) (mg_of S₅.X S₅.T.g ex) ?_) hdx
  refine wpAny_excMatches_sub_self (S₅.F.keep _ _ hC) hob hobc hbase (codeAny_handlers_suite ?_)
  refine lands_againW z1 fun h7 w1 w2 => ?_
  obtain ⟨g₆, st6, nsL6, S₆⟩ := recover K ⟨o₂, es₂, ep₂, hL₂, hd₂, by assumption⟩ S₃ w1.1 (u6.trans w2)
  exact wpAny_passesOwnAt (E := Bot) (fun _ _ q => q.elim) (wpAny_mono ((k g₆ st6 nsL6).run _ S₆) (fun fl s ⟨vs', n', S', q⟩ => ⟨g₆, vs', n', st6, nsL6, S', q⟩) fun _ _ q => q)
end
end

section
set_option maxHeartbeats 4000000
open PySem PySem.Spec PySem.Calls PyProof.Rows PySem.W

theorem execs_app (l2 : List Stmt) (env : Env) : ∀ l1 : List Stmt, execs (l1 ++ l2) env = (execs l1 env >>= fun fl => match fl with | .next => execs l2 env | fl => Pure.pure fl)
  | [] => by rw [arm_execs_nil, pure_bind]; rfl
  | s :: r => by
    rw [List.cons_append, arm_execs_cons, arm_execs_cons, bind_assoc]
    congr 1
    funext fl
    cases fl with
    | next => exact execs_app l2 env r
    | cont => rw [pure_bind]
    | brk => rw [pure_bind]
    | ret v => rw [pure_bind]
theorem intsAre_take {ws : List Value} {ks : List Int} (h : IntsAre ws ks) : ∀ j, IntsAre (ws.take j) (ks.take j) := by
  induction h with
  | nil => intro j; rw [List.take_nil, List.take_nil]; exact .nil
  | cons a b _ ih =>
    intro j
    cases j with
    | zero => exact .nil
    | succ j => exact .cons _ _ (ih j)
theorem Wp.deqU {G : Gl} {f : Fk} {A : Around} {vs : Vals} {n : Led} {E : Value → Shared → Prop} {Q : Value → Vals → Led → Prop} {d1 d2 : Addr} {o1 o2 : Obj} {x : Str} {a b : Value} (hu : A.units < 9800) (h1 : (d1, o1) ∈ n) (h2 : (d2, o2) ∈ n) (hd1 : DicO G o1 [(x, a)]) (hd2 : DicO G o2 [(x, b)]) (l1 : (d1 == sysModules) = false) (l2 : (d2 == sysModules) = false) (ha : Alike n a b) (h : Q (.bool true) vs n) :
    Wp G f A (compareOp .Eq (.ref d1) (.ref d2)) vs n Q E := by
  have hu0 : A.units < cLine := Nat.lt_trans hu (by show 9800 < 9900; decide)
  have hu2 : A.in1.units + 64 < cLine := by show A.units + 1 + 64 < 9900; omega
  exact ⟨fun s S => keq_eq (r := true) l1 l2 (hd1.at_ S h1) (hd2.at_ S h2) hu0 (fun _ => ha.hits S hu2) ⟨_, _, S, h⟩⟩
theorem bodyB_last {enc : Nat → List UInt8} (w : Nat) (r : List Nat) : ∃ i x, w :: r = i ++ [x] ∧ (enc x).length ≤ (bodyB enc (w :: r)).length := by
  refine ⟨(w :: r).dropLast, (w :: r).getLast (by simp), (List.dropLast_concat_getLast (by simp)).symm, ?_⟩
  have e : w :: r = (w :: r).dropLast ++ [(w :: r).getLast (by simp)] := (List.dropLast_concat_getLast (by simp)).symm
  generalize (w :: r).getLast (by simp) = x at e
  generalize (w :: r).dropLast = i at e
  rw [e]
  unfold bodyB
  rw [List.map_append, List.flatten_append, List.length_append]
  simp
theorem vint_len3 {x : Nat} (h : x < 2097152) : (vint x).length ≤ 3 := by
  by_cases h1 : x ≤ 127
  · rw [vint_len1 h1]; omega
  · rw [vint_lenS (by omega)]
    by_cases h2 : x / 128 ≤ 127
    · rw [vint_len1 h2]; omega
    · rw [vint_lenS (by omega), vint_len1 (by omega)]; omega
def dLB : Stmt := sAt pTop 48
def nsLB : List Str := ["made", "number", "octets", "values", "body", "table", "read"]
def RLB : List (Str × Slot) := [("made", .loc 0), ("number", .loc 1), ("octets", .loc 2), ("values", .loc 3), ("body", .loc 4), ("table", .loc 5), ("read", .loc 6), ("_law_new", .glo (.ref 245)), ("_law_varint", .glo (.ref 231)), ("len", .bui (.builtin "len")), ("DecodeError", .glo (.ref 37))]
section
variable {G : Gl} {f : Fk} {A : Around} {vs : Vals} {n : Led} {E : Value → Shared → Prop} {Q : Value → Vals → Led → Prop}
theorem law_beyond (hG : Ok G) {env₁ : Env} (hfr : A.frames = some [env₁]) (hf₁ : env₁.frame = some f.L) (hk₁ : env₁.scope.kind ≠ .module) (rm : Rm A 26) {ev sv dv : Value} {nd : Led} {wire num v : Nat} {rr : List Nat} {enc : Nat → List UInt8} {B : Nat → Prop} (M : Mk3 G ev sv dv nd wire enc B)
    (hnd : ∀ p ∈ nd, p ∈ n) (hn2 : num < 1073741824) {am lv lo : Addr} {ws : List Value} {bs : List (List UInt8 × Tok)} {ew eo : Nat} {tn : Tok} (ham : (am, Tup [ev, sv, dv]) ∈ n) (hlv : (lv, Lst ws ew) ∈ n) (hws : IntsAre ws ((v :: rr).map fun x => ((x : Nat) : Int)))
    (hlo : (lo, Lst (bs.map byVal) eo) ∈ n) (hbs : bs.map (·.1) = (v :: rr).map enc) (hB : ∀ x ∈ v :: rr, B x) (hrr : rr.length ≤ 20) (hen : ∀ x ∈ v :: rr, (enc x).length ≤ 1000) (hlast : ∀ i x, v :: rr = i ++ [x] → 1 < (enc x).length) (h : Q (.bool true) vs n) :
    Wp G f A (PySem.call (.ref 327) [.ref am, .int num tn, .ref lo, .ref lv]) vs n Q E := by
  constructor
  intro s S
  have hbl := bodyB_le (v :: rr) hen
  rw [List.length_cons] at hbl
  have hfl : (bs.map (·.1)).flatten = bodyB enc (v :: rr) := by rw [hbs]; rfl
  have hwl : ws.length = rr.length + 1 := by have := hws.length; simpa using this
  have hcut : ∀ done w r', done ++ w :: r' = v :: rr → 1 < (bodyB enc (w :: r')).length := fun done w r' e => by
    obtain ⟨i, x, e2, hle⟩ := bodyB_last (enc := enc) w r'
    have := hlast (done ++ i) x (by rw [← e, e2, List.append_assoc])
    omega
  have hb2 : 1 < (bodyB enc (v :: rr)).length := hcut [] v rr rfl
  have key : ∀ fd, (hdK G.w).lookup 327 = some ⟨.type "function", none, .func fd, #[]⟩ → True := fun _ _ => trivial
  have k1 : ∀ n, KP G n (.ref 231) := fun _ => .k hG (by rfl) ⟨_, _, _, _, rfl⟩
  refine callRaw (ns := nsLB) (binds := [("made", .ref am), ("number", .int num tn), ("octets", .ref lo), ("values", .ref lv)]) S rm.room (FnIs.ofK S (by rw [hG.K]; rfl) (by rw [hG.K]; kernel_rfl)) (by rfl) (BindsTo.of_eq (by rfl)) (fun g₂ L₂ env₂ he₂ hlt₂ st12 ns1 gn2 => ⟨RLB, [some (.ref am), some (.int num tn), some (.ref lo), some (.ref lv), none, none, none], n, ?_, ?_, fun s₂ S₂ => ?_⟩)
  · subst he₂
    refine ⟨by rfl, rfl, rfl, rfl, (by decide +kernel : nsLB.Nodup), ?_⟩
    rw [hG.K]
    unfold RLB nsLB
    exact SlotsOk.all (by walk_at "au_slots")
  · unfold RLB nsLB; walk_at "au_pl"
  have r : ∀ g, Res G ⟨g, L₂, nsLB⟩ env₂ RLB := fun g => by
    subst he₂
    refine ⟨by rfl, rfl, rfl, rfl, (by decide +kernel : nsLB.Nodup), ?_⟩
    rw [hG.K]
    unfold RLB nsLB
    exact SlotsOk.all (by walk_at "au_slots")
  have r2 := r g₂
  unfold RLB at r2
  have rm2 : Rm (A.deeper env₂) 25 := rm.deeper
  have hint : interactive env₂ = false := by subst he₂; rfl
  have hf₂ : env₂.frame = some L₂ := by subst he₂; rfl
  have hk₂ : env₂.scope.kind ≠ .module := by subst he₂; exact fun e => by cases e
  have hfr₂ : (A.deeper env₂).frames = some [env₂, env₁] := by show A.frames.map _ = _; rw [hfr]; rfl
  clear he₂
  generalize A.deeper env₂ = A₂ at rm2 hfr₂ ⊢
  show wpAny _ A₂ (execs ((dBody dLB).take 3 ++ (dBody dLB).drop 3) env₂) _ _ s₂
  rw [execs_app]
  refine wpAny_bind (wpAny_mono ((show Wp G ⟨g₂, L₂, nsLB⟩ A₂ (execs ((dBody dLB).take 3) env₂) _ n (fun fl vs2 n2 => fl = .next ∧ ∃ d od fv m rv nv tb, (d, od) ∈ n2 ∧ DicO G od [] ∧ (d == sysModules) = false ∧ (∀ p ∈ n, p ∈ n2) ∧ (∀ p ∈ n, p.1 ≠ d) ∧ (∀ p ∈ m, p.1 ≠ d) ∧ (∀ p ∈ m, p ∈ n2) ∧ PkD fv (m ++ nd) nv rv "key" ∧ DecV G rv nv enc id B 20 ∧ KP G n2 fv ∧
      vs2 = [some (.ref am), some (.int num tn), some (.ref lo), some (.ref lv), some (.bytes (bodyB enc (v :: rr)).toArray tb), some (.ref d), some fv]) Bot from ?_).run s₂ S₂) (fun fl s₄ ⟨vs4, n4, S₄, e, d, od, fv, m, rv, nv, tb, hd, hdo, hsm, hn4, hnd4, hmd, hm4, P, D, kf, evs⟩ => ?_) fun _ _ x => x.elim)
  · refine Wp.conA ?_
    walk_at "aus"
    refine Wp.gmBy slot_join type_join ?_
    walk_at "aus"
    refine ⟨.bui _, Wp.joinB hlo (by rw [hfl]; omega) fun tb => ?_⟩
    rw [hfl]
    walk_at "aus"
    refine Wp.conA ?_
    refine Wp.dict0 fun d od hd hsm hdo => ?_
    walk_at "aus"
    refine Wp.conA ?_
    walk_at "aus"
    refine Wp.itemT (.tail _ ham) (by decide) (by simp) rfl (by simp) ?_
    walk_at "aus"
    refine Exists.elim M.d fun rv hM => Exists.elim hM fun nv hM => ?_
    have MD := hM.1
    refine ⟨MD.kp _ fun p hp => .tail _ (hnd p hp), MD.run _ _ _ _ num 2 tn _ _ _ _ (fun p hp => .tail _ (hnd p hp)) (rm2.le (by decide)) hn2 (by decide) fun fv m hf F P => ?_⟩
    walk_at "aus"
    refine Wp.nil ?_
    exact ⟨rfl, d, od, fv, m, rv, nv, tb, List.mem_append_right _ (.head _), hdo, hsm, fun p hp => List.mem_append_right _ (.tail _ hp), fun p hp => Nat.ne_of_lt (hd p hp), fun p hp => Nat.ne_of_gt (hf p hp (d, od) (.head _)), fun p hp => List.mem_append_left _ hp, P rfl, hM.2, F.kp _ fun p hp => (List.mem_append.mp hp).elim (fun q => List.mem_append_left _ q) fun q => List.mem_append_right _ (.tail _ (hnd p q)), rfl⟩
  subst e evs
  have hmn : ∀ p ∈ m ++ nd, p ∈ n4 := fun p hp => (List.mem_append.mp hp).elim (hm4 p) fun q => hn4 p (hnd p q)
  have hmd2 : ∀ p ∈ m ++ nd, p.1 ≠ d := fun p hp => (List.mem_append.mp hp).elim (hmd p) fun q => hnd4 p (hnd p q)
  show wpAny _ A₂ (execs ((dBody dLB).drop 3) env₂) _ _ s₄
  refine wpAny_execs_cons (wpAny_mono (wpAny_Try_except (Q := fun fl s => ∃ g₆ vs' n', f.h₀.StaysIn g₆ ∧ g₆.Ns f.L (look f.ns vs) ∧ St G ⟨g₆, L₂, nsLB⟩ vs' n' s ∧ fl = .ret (.bool true) ∧ ∀ p ∈ n, p ∈ n') (E := Bot) ?_) (fun fl s₅ ⟨g₆, vs6, n6, st6, ns6, S₆, e, hn6⟩ => ?_) fun _ _ x => x.elim)
  · refine wpAny_mono ((show Wp G ⟨g₂, L₂, nsLB⟩ A₂ (execs _ env₂) _ n4 (fun _ _ _ => False) _ from ?_).run s₄ S₄) (fun _ _ ⟨_, _, _, x⟩ => x.elim) fun _ _ x => x
    refine Wp.conE ?_ (hi := hint)
    walk_at "aus"
    refine ⟨.bui _, Wp.lenB (by rw [List.size_toArray]; omega) fun tl => ?_⟩
    rw [List.size_toArray]
    walk_at "aus"
    rw [show (((bodyB enc (v :: rr)).length : Nat) : Int) - 1 = (((bodyB enc (v :: rr)).length - 1 : Nat) : Int) by omega]
    have hvv := vint_len3 (x := (bodyB enc (v :: rr)).length - 1) (by omega)
    refine ⟨k1 _, law_varint hG (rm2.le (by decide)) (by omega) fun ty => ?_⟩
    walk_at "aus"
    refine Wp.addB (by rw [List.size_toArray, List.size_toArray]; omega) fun tx => ?_
    rw [List.append_toArray]
    walk_at "aus"
    refine Wp.addB (by rw [List.size_toArray, List.size_toArray, List.length_append]; show _ + 1 ≤ _; omega) fun t2 => ?_
    rw [List.append_toArray]
    walk_at "aus"
    refine ⟨.bui _, Wp.lenB (by rw [List.size_toArray]; omega) fun tl2 => ?_⟩
    rw [List.size_toArray]
    walk_at "aus"
    rw [show (((bodyB enc (v :: rr)).length : Nat) : Int) + 9 = (((bodyB enc (v :: rr)).length + 9 : Nat) : Int) by omega]
    refine ⟨kf, ?_⟩
    rename_i t0 t9 t10
    constructor
    intro s S4
    obtain ⟨fa, c1, c2, c3, c4, dd, o, tk, td, rfl, hc, hm⟩ := P
    have hm4 := fun p hp => hmn p (hm p hp)
    have hmd4 := fun p hp => hmd2 p (hm p hp)
    obtain ⟨doc, pm, cv, ctv, rfl⟩ := hc
    have hfa := hm4 _ (.head _)
    have hdd : (dd, Tup [.int 0 td]) ∈ n4 := hm4 _ (.tail _ (.tail _ (.tail _ (.tail _ (.head _)))))
    generalize hbuf : vint ((bodyB enc (v :: rr)).length - 1) ++ bodyB enc (v :: rr) ++ [0] = buf
    refine callRaw (ns := nsSD2) (binds := [("buffer", .bytes buf.toArray t2), ("pos", .int 0 t0), ("end", .int (((bodyB enc (v :: rr)).length + 9 : Nat) : Int) t10), ("message", .none), ("field_dict", .ref d), ("current_depth", .int 0 td)]) S4 rm2.room (FnIs.ofN S4 hfa) (by rfl) (BindsTo.of_defaults (T := dd) rfl (S4.get hdd) rfl (by rfl) (by kernel_rfl)) (fun g₃ L₃ env₃ he₃ hlt₃ st23 ns2 gn3 => ⟨RSD2 c1 c2 c3 c4, [some (.bytes buf.toArray t2), some (.int 0 t0), some (.int (((bodyB enc (v :: rr)).length + 9 : Nat) : Int) t10), some .none, some (.ref d), some (.int 0 td), none, none, none], n4, ?_, ?_, fun s₃ S₃ => ?_⟩)
    · subst he₃
      refine ⟨by rfl, rfl, rfl, rfl, (by decide +kernel : nsSD2.Nodup), ?_⟩
      rw [hG.K]
      unfold RSD2 nsSD2
      exact SlotsOk.all (by walk_at "au_slots")
    · unfold RSD2 nsSD2; walk_at "au_pl"
    have r3 : Res G ⟨g₃, L₃, nsSD2⟩ env₃ (RSD2 c1 c2 c3 c4) := by
      subst he₃
      refine ⟨by rfl, rfl, rfl, rfl, (by decide +kernel : nsSD2.Nodup), ?_⟩
      rw [hG.K]
      unfold RSD2 nsSD2
      exact SlotsOk.all (by walk_at "au_slots")
    have hint3 : interactive env₃ = false := by subst he₃; rfl
    have hf₃ : env₃.frame = some L₃ := by subst he₃; rfl
    have hk₃ : env₃.scope.kind ≠ .module := by subst he₃; exact fun e => by cases e
    have rm3 : Rm (A₂.deeper env₃) 24 := rm2.deeper
    clear he₃
    have hsv : ∀ p ∈ nv, p ∈ n4 := fun p hp => hm4 p (.tail _ (.tail _ (.tail _ (.tail _ (.tail _ (.tail _ hp))))))
    have hnv : ∀ p ∈ nv, p.1 ≠ d := fun p hp => hmd4 p (.tail _ (.tail _ (.tail _ (.tail _ (.tail _ (.tail _ hp))))))
    refine wpAny_mono ((sd2core hG (Q := fun _ _ _ => False) (k := 20) r3 hint3 (rm3.le (by decide)) D (hm4 _ (.tail _ (.head _))) (hm4 _ (.tail _ (.tail _ (.head _)))) (hm4 _ (.tail _ (.tail _ (.tail _ (.head _))))) (hm4 _ (.tail _ (.tail _ (.tail _ (.tail _ (.tail _ (.head _))))))) hsv
        (hmd4 (c2, _) (.tail _ (.tail _ (.head _)))) (hmd4 (c4, _) (.tail _ (.tail _ (.tail _ (.tail _ (.tail _ (.head _))))))) hnv hd hdo hsm (vals := v :: rr) (x := (bodyB enc (v :: rr)).length - 1) (c := 1) (pre := []) (post := [0]) (e := (bodyB enc (v :: rr)).length + 9) hB (by simp; omega) (by rw [← hbuf, List.length_append, List.length_append]; show _ + 1 ≤ _; omega) (by rw [← hbuf, List.append_assoc]; rfl) (by omega) hcut (by show 0 + _ + _ ≤ _; omega)
        fun l us ep od' t1 t2' o8 hlt hld hd' hi => ?_).run s₃ S₃) (fun _ _ ⟨_, _, _, x⟩ => x.elim) fun _ _ x => x
    unfold RSD2 at r3
    have hul : us.length = rr.length + 1 := by have := hi.length; simpa using this
    have hln : ∀ p ∈ upd n4 d od', p.1 ≠ l := fun p hp => by
      rcases mem_upd hp with ⟨e1, _⟩ | ⟨hp, _⟩
      · rw [e1]; exact hld.symm
      · exact Nat.ne_of_lt (hlt p hp)
    refine Wp.conI1 ?_
    walk_at "aus"
    refine iT (by rw [decide_eq_true_iff]; omega) ?_
    refine Wp.conDel ?_
    walk_at "aus"
    refine Wp.usub ?_
    walk_at "aus"
    refine Wp.neg fun _ => ?_
    refine Wp.delL (.head _) (by decide +kernel) (k := us.length - 1) (by rw [hul]; simp [seqIndex?]; omega) (by omega) ?_
    rw [upd_cons, upd_id hln, List.eraseIdx_length_sub_one]
    refine Wp.raiseOwn hG r3 (by walk_at "au_m") rm3.hh (by kernel_rfl) (by kernel_rfl) fun s h' e tk S9 hmade => ?_
    refine caught hG (h₁ := f.h₀) (L₁ := f.L) (m₁ := look f.ns vs) ⟨S.X, S.T, Heap.get?_none_of_le S.F.above, st12, ns1, gn2, S₂.F.above, st23, gn3⟩ ns2 S9 hfr₂ hf₁ hf₂ hf₃ hk₁ hk₂ hk₃ hmade r (by unfold RLB; walk_at "au_m") (by kernel_rfl) fun g₆ st6 ns6 => ?_
    have r6 := r g₆
    unfold RLB at r6
    have hin : ∀ p ∈ n, p ∈ (l, Lst us.dropLast (ep + 1)) :: upd n4 d od' := fun p hp => .tail _ (mem_upd_ne (a := p.1) (o := p.2) (hn4 p hp) (hnd4 p hp))
    have hd9 : (d, od') ∈ (l, Lst us.dropLast (ep + 1)) :: upd n4 d od' := .tail _ (mem_upd_self hd)
    have hl9 : (l, Lst us.dropLast (ep + 1)) ∈ (l, Lst us.dropLast (ep + 1)) :: upd n4 d od' := .head _
    generalize (l, Lst us.dropLast (ep + 1)) :: upd n4 d od' = n9 at hin hd9 hl9 ⊢
    refine Wp.conR ?_
    walk_at "aus"
    refine Wp.dict1 fun d2 o2 hd2 hsm2 => ?_
    walk_at "aus"
    refine Wp.usub ?_
    walk_at "aus"
    refine Wp.neg fun tneg => ?_
    intro sl hsl
    refine Wp.cutL (lo := none) (hi := some (-1)) (.tail _ (.tail _ (hin _ hlv))) (.head _) .none (.int _ _) (by omega) fun lb hlb => ?_
    refine ⟨.tail _ (.tail _ (.head _)), fun o3 hdo3 => ?_⟩
    have hpk := kmk_upto_neg hws (y := -1) (by decide)
    have hud : IntsAre us.dropLast (((v :: rr).map fun x => ((x : Nat) : Int)).take (((v :: rr).map fun x => ((x : Nat) : Int)).length - (- -1 : Int).toNat)) := by
      rw [List.dropLast_eq_take, hul]
      have := intsAre_take hi (rr.length + 1 - 1)
      simpa using this
    have hne : ∀ p ∈ n9, p.1 ≠ d2 := fun p hp => Nat.ne_of_lt (hd2 p hp)
    have hup : ∀ p ∈ n9, p ∈ upd ((lb, Lst (slicePick ws.toArray none (some (-1)) none).toList) :: (sl, SlcO .none (.int (-1) tneg)) :: (d2, o2) :: n9) d2 o3 := fun p hp => mem_upd_ne (a := p.1) (o := p.2) (.tail _ (.tail _ (.tail _ hp))) (hne p hp)
    refine Wp.deqU (rm2.u |> fun z => by show A₂.units < 9800; omega) (hup _ hd9) (mem_upd_self (.tail _ (.tail _ (.head _)))) hd' hdo3 hsm hsm2 (.inr ⟨l, lb, _, _, _, _, _, rfl, rfl, hup _ hl9, mem_upd_ne (.head _) (Nat.ne_of_gt (hlb (d2, o2) (.tail _ (.head _)))), hud, hpk⟩) ?_
    exact ⟨rfl, fun p hp => hup p (hin p hp)⟩
  · subst e
    exact ⟨vs, n, (S.backTo S₆ st6 ns6).sub hn6, h⟩
end
end

section
set_option maxHeartbeats 4000000
open PySem PySem.Spec PySem.Calls PyProof.Rows PySem.W

section
variable {G : Gl} {f : Fk} {A : Around} {vs : Vals} {n : Led} {E : Value → Shared → Prop} {env : Env}
/-- [elt for x in iter], told behind the look at iter -/
theorem Wp.compx {elt iter : Expr} {x : Str} {px : Pos} {scope : Scope} {cl : List (Str × Addr)} {pos : Pos} {Q : Value → Vals → Led → Prop}
    (hclos : closureFor scope env = Pure.pure cl) (hkind : scope.kind = .function) (hnames : ∀ y ∈ scope.names, y.2 = .local → scope.names.lookup y.1 = some .local)
    (h : Wp G f A (eval iter env) vs n (fun v vs1 n1 => ∃ (item : Nat → Value → Prop) (N : Nat) (src : Led) (ns : List Str) (I : Addr → Nat → List Value → Vals → Led → Prop), N ≤ 1000000 ∧ ItrOf G f A v n1 item N src ∧ CompI G A env scope cl x elt n1 ns item N src I ∧
      (∀ C, (∀ p ∈ n1, p.1 < C) → I C 0 [] (List.replicate ns.length none) (cellLed (C + 1) scope.names ++ n1)) ∧
      (∀ D C ws vs' n', (∀ p ∈ n1, p.1 < D) → I C N ws vs' n' → ws.length = N → ∃ n5, (∀ p ∈ n5, p ∈ (D, Lst ws N) :: n') ∧ Q (.ref D) vs1 n5)) E)
    (hs : ∀ x, foldedSetIterable iter env x = Pure.pure x := by intro _; rfl) :
    Wp G f A (eval (.ListComp elt [⟨.Name x px, iter, [], 0⟩] scope pos) env) vs n Q E := by
  constructor; intro s S
  rw [eval_ListComp]
  refine wpAny_comprehension_free (use := none) rfl hs hclos hkind hnames (wpAny_mono (h.run s S) (fun v s1 ⟨vs1, n1, S1, item, N, src, ns, I, hN, hit, CI, h0, fin⟩ => ?_) fun _ _ x => x)
  refine wpAny_mono ((hit vs1 E (fun itv vs2 n2 => ∃ it o MK, itv = .ref it ∧ vs2 = vs1 ∧ n2 = (it, o) :: n1 ∧ (∀ p ∈ n1, p.1 < it) ∧ Itr G A it MK item N src ∧ MK 0 o) (fun it o MK hl T hm => ⟨it, o, MK, rfl, rfl, rfl, hl, T, hm⟩)).run s1 S1) (fun itv s2 ⟨vs2, n2, S2, it, o, MK, e, e1, e2, hl, T, hm⟩ => ?_) fun _ _ x => x
  subst e e1 e2
  refine compCore (RR := fun acc C => compPost (model G.prog G.w) A E none _ acc C) S2 T hm CI hl hN h0 fun g D C ws vs' n' s' hlD hDC hI hwl S' hfL nsf back => ?_
  obtain ⟨n5, hs5, q⟩ := fin D C ws vs' n' hlD hI hwl
  exact ⟨_, S'.F.ns, fun h' hsb => ⟨_, _, (back h' s'.toks _ (nsf.sameBut hsb (Nat.ne_of_lt hfL)) fun b o h1 _ e => (hsb.2 b h1).trans e).sub hs5, q⟩⟩
/-- y = [elt for x in iter], the stores exchanged, told behind the look at iter -/
theorem Wp.conCx {elt iter : Expr} {x y : Str} {px py : Pos} {scope : Scope} {cl : List (Str × Addr)} {pos spos : Pos} {rest : List Stmt} {Q : Flow → Vals → Led → Prop} {R : List (Str × Slot)} {j : Nat}
    (r : Res G f env R) (hy : (y, Slot.loc j) ∈ R)
    (hsw : swapsWith (.ListComp elt [⟨.Name x px, iter, [], 0⟩] scope pos) (some (.Name y py)) spos.line env = Pure.pure true)
    (hclos : closureFor scope env = Pure.pure cl) (hkind : scope.kind = .function) (hnames : ∀ y ∈ scope.names, y.2 = .local → scope.names.lookup y.1 = some .local)
    (h : Wp G f A (eval iter env) vs n (fun v vs1 n1 => ∃ (item : Nat → Value → Prop) (N : Nat) (src : Led) (ns : List Str) (I : Addr → Nat → List Value → Vals → Led → Prop), N ≤ 1000000 ∧ j < vs1.length ∧ ItrOf G f A v n1 item N src ∧ CompI G A env scope cl x elt n1 ns item N src I ∧
      (∀ C, (∀ p ∈ n1, p.1 < C) → I C 0 [] (List.replicate ns.length none) (cellLed (C + 1) scope.names ++ n1)) ∧
      (∀ D C ws vs' n', (∀ p ∈ n1, p.1 < D) → I C N ws vs' n' → ws.length = N → ∃ n5, (∀ p ∈ n5, p ∈ (D, Lst ws N) :: n') ∧ Wp G f A (execs rest env) (vs1.set j (some (.ref D))) n5 Q E)) E)
    (hs : ∀ x, foldedSetIterable iter env x = Pure.pure x := by intro _; rfl) :
    Wp G f A (execs (.Assign [.Name y py] (.ListComp elt [⟨.Name x px, iter, [], 0⟩] scope pos) spos :: rest) env) vs n Q E := by
  refine Wp.cons ⟨fun s S => ?_⟩
  rw [exec_Assign_Name_used _ _ _ _ hsw]
  refine wpAny_bind (wpAny_standAt (wpAny_bind ?_))
  show wpAny _ A (do let _ ← comprehension (.ListComp elt [⟨.Name x px, iter, [], 0⟩] scope pos) scope env _ (PySem.newList []) false (eval iter env) (some (assign (.Name y py) env))) _ _ s
  refine wpAny_bind (wpAny_comprehension_free (use := some (assign (.Name y py) env)) rfl hs hclos hkind hnames (wpAny_mono (h.run s S) (fun v s1 ⟨vs1, n1, S1, item, N, src, ns, I, hN, hj, hit, CI, h0, fin⟩ => ?_) fun _ _ x => x))
  refine wpAny_mono ((hit vs1 E (fun itv vs2 n2 => ∃ it o MK, itv = .ref it ∧ vs2 = vs1 ∧ n2 = (it, o) :: n1 ∧ (∀ p ∈ n1, p.1 < it) ∧ Itr G A it MK item N src ∧ MK 0 o) (fun it o MK hl T hm => ⟨it, o, MK, rfl, rfl, rfl, hl, T, hm⟩)).run s1 S1) (fun itv s2 ⟨vs2, n2, S2, it, o, MK, e, e1, e2, hl, T, hm⟩ => ?_) fun _ _ x => x
  subst e e1 e2
  refine compCore (RR := fun acc C => compPost (model G.prog G.w) A E (some (assign (.Name y py) env)) _ acc C) S2 T hm CI hl hN h0 fun g D C ws vs' n' s' hlD hDC hI hwl S' hfL nsf back => ?_
  obtain ⟨n5, hs5, q⟩ := fin D C ws vs' n' hlD hI hwl
  obtain ⟨k, hn, _⟩ := r.ok _ _ hy
  have hCL : C ≠ f.L := Nat.ne_of_gt hfL
  refine wpAny_assign_Name (wpAny_storeName_local k (r.loc ▸ nsf) (fun h' hn' hs' => ?_) ?_)
  · rw [r.loc] at hn' hs'
    rw [look_set r.nd hn hj] at hn'
    refine ⟨_, S'.F.ns.sameBut hs' hCL, fun h'' hsb => ?_⟩
    have SF := (back h'' (s'.toks + 1) _ (hn'.sameBut hsb hCL.symm) fun b o h1 h2 e => (hsb.2 b h1).trans ((hs'.2 b h2).trans e)).sub hs5
    exact wpAny_pure (wpAny_pure ⟨_, _, SF, q⟩)
  · rw [r.kind]; rfl

/-! a loop whose turns take a tuple apart -/
theorem letOwned {s : Shared} {it : Addr} {o : Obj} {fs : Array Value} {es : List Expr} {k : Nat} {p : Pos} {v : Value} {Q : Unit → Shared → Prop} (ho : s.heap.get? it = some o) (hc : o.cls = .type "tuple_iterator") (hd : o.data = .fields fs) (hQ : Q () s) :
    wpAny (model G.prog G.w) A (letOwnedTupleGo (.Tuple es k p) (.ref it) v) Q E s := by
  unfold letOwnedTupleGo
  cases v with
  | ref a =>
    refine wpAny_bind (wpAny_load ho ?_)
    rw [hc, hd]
    show wpAny _ A (if (["enumerate", "zip", "dict_itemiterator", "dict_reverseitemiterator", "odict_iterator", "itertools.zip_longest", "itertools.pairwise"].contains "tuple_iterator" && fs[0]? == some (rawInt a)) = true then _ else _) Q E s
    rw [if_neg (by
      intro h
      rw [show (["enumerate", "zip", "dict_itemiterator", "dict_reverseitemiterator", "odict_iterator", "itertools.zip_longest", "itertools.pairwise"].contains "tuple_iterator") = false from by decide, Bool.false_and] at h
      cases h)]
    exact wpAny_pure hQ
  | _ => exact wpAny_pure hQ
def TIt (l : Addr) (i : Nat) (o : Obj) : Prop := o.cls = .type "tuple_iterator" ∧ o.data = .fields #[.ref l, .int i 0]
theorem itr_tupleX {l : Addr} {items : List Value} (hh : A.handled = none) (hm : (l, Tup items) ∈ n) {Q : Value → Vals → Led → Prop}
    (h : ∀ it o, (∀ p ∈ n, p.1 < it) → Itr G A it (TIt l) (fun i v => items[i]? = some v) items.length [(l, Tup items)] → TIt l 0 o → Q (.ref it) vs ((it, o) :: n)) : Wp G f A (pyIter (.ref l)) vs n Q E := by
  constructor; intro s S
  have hl : ∀ {f : Fk} {s : Shared} {vs : Vals} {n : Led}, (l, Tup items) ∈ n → St G f vs n s → s.heap.IsTuple l items.toArray := fun hm S => ⟨_, S.get hm, rfl, _, rfl⟩
  have tmI : ∀ i (o : Obj), TIt l i o → Tm o ∧ Pc o := fun i o ⟨e1, e2⟩ => ⟨⟨by rw [e1]; (intro e; cases e), fun fd e => by rw [e2] at e; cases e⟩, by rw [Pc, e1]; exact ⟨(fun e => by cases e), fun e => by simp at e⟩⟩
  refine wpAny_pyIter_tuple (hl hm S) ⟨_, _, S.push (o := { cls := .type "tuple_iterator", data := .fields #[.ref l, .int 0 0] }) (tmI 0 _ ⟨rfl, rfl⟩).1 rfl s.toks, h _ _ S.lt ⟨?_, ?_, ?_⟩ ⟨rfl, rfl⟩⟩
  · intro f i o vs n hk hi hsrc hne
    constructor; intro s1 S1
    have hi2 : items.toArray[i]? = some items[i] := by simp [hi]
    refine wpAny_pyNext_tuple_item ⟨_, S1.get (.head _), hk.1, hk.2⟩ (hl (.tail _ (hsrc _ (.head _))) S1) hi2 fun h' ⟨o', ho', hc', hd'⟩ hs => ?_
    have tI := tmI _ o' ⟨hc', hd'⟩
    exact ⟨_, _, S1.headU (tmI _ o hk).2 tI.1 hne hs.extBut ho' s1.toks, _, o', rfl, by simp [hi], rfl, rfl, hc', hd'⟩
  · intro f o vs n hk hsrc hne
    constructor; intro s1 S1
    refine wpAny_pyNext_tuple_end hh ⟨_, S1.get (.head _), hk.1, hk.2⟩ (hl (.tail _ (hsrc _ (.head _))) S1) (by simp) fun h' he => ?_
    exact ⟨_, _, S1.fall (tmI _ o hk).2 hne he s1.toks, rfl, rfl, rfl⟩
  · intro f i o vs n E Q hk q
    exact ⟨fun s1 S1 => wpAny_pyIter_tupiter ⟨_, S1.get (.head _), hk.1, hk.2⟩ ⟨_, _, S1, q⟩⟩
variable {rest : List Stmt} {Q : Flow → Vals → Led → Prop}
/-- for x, y in a tuple -/
theorem Wp.conFp {es : List Expr} {k : Nat} {tpos : Pos} {iter : Expr} {body : List Stmt} {pos : Pos} (hh : A.handled = none)
    (h : Wp G f A (eval iter env) vs n (fun v vs1 n1 => ∃ (l : Addr) (items : List Value) (I : Nat → Vals → Led → Prop), v = .ref l ∧ (l, Tup items) ∈ n1 ∧ I 0 vs1 n1 ∧ ForI [(l, Tup items)] n1 I ∧
      (∀ it o i v vs' n', (∀ p ∈ n1, p.1 < it) → (∀ p ∈ n', p.1 < it) → items[i]? = some v → I i vs' n' → Wp G f A (assign (.Tuple es k tpos) env v) vs' ((it, o) :: n') (fun _ vs2 n2 => Wp G f A (execs body env) vs2 n2
        (LoopQ (fun vs3 n3 => ∃ n4, (∀ p ∈ (it, o) :: n4, p ∈ n3) ∧ I (i + 1) vs3 n4) (fun _ _ => False) (fun _ _ _ => False)) Bot) Bot) ∧
      (∀ vs' n', I items.length vs' n' → Wp G f A (execs rest env) vs' n' Q E)) E)
    (hs : ∀ x, foldedSetIterable iter env x = Pure.pure x := by intro _; rfl) :
    Wp G f A (execs (.For (.Tuple es k tpos) iter body [] pos :: rest) env) vs n Q E := by
  refine Wp.cons ⟨fun s S => wpAny_For (wpAny_mono (h.run s S) (fun v s1 ⟨vs1, n1, S1, l, items, I, e0, hm, h0, FI, turn, fin⟩ => ?_) fun _ _ x => x) hs⟩
  subst e0
  refine wpAny_mono ((itr_tupleX (E := E) hh hm (Q := fun itv vs2 n2 => ∃ it o, itv = .ref it ∧ vs2 = vs1 ∧ n2 = (it, o) :: n1 ∧ (∀ p ∈ n1, p.1 < it) ∧ Itr G A it (TIt l) (fun i v => items[i]? = some v) items.length [(l, Tup items)] ∧ TIt l 0 o) (fun it o hl T hm => ⟨it, o, rfl, rfl, rfl, hl, T, hm⟩)).run s1 S1) (fun itv s2 ⟨vs2, n2, S2, it, o0, e, e1, e2, hlt, T, hmk⟩ => ?_) fun _ _ x => x
  subst e e1 e2
  refine codeAny_forLoop_any (fun k s => ∃ i vs n o, k = items.length - i ∧ i ≤ items.length ∧ TIt l i o ∧ St G f vs ((it, o) :: n) s ∧ I i vs n) (fun k s ⟨i, vs1, n2, oi, hk, hi, hm, S1, hI⟩ => ?_) items.length ⟨0, vs2, n1, o0, rfl, Nat.zero_le _, hmk, S2, h0⟩
  have hl : ∀ p ∈ n2, p.1 < it := (FI.sub _ _ _ hI).lt hlt
  have hne : ∀ p ∈ n2, p.1 ≠ it := fun p hp => Nat.ne_of_lt (hl p hp)
  by_cases hi' : i < items.length
  · refine wpAny_mono ((T.nx f i oi vs1 n2 hm hi' (FI.src _ _ _ hI) hne).run s S1) (fun r s2 ⟨vs2, n3, S2, v, o', e, hv, e1, e2, hm'⟩ => ?_) fun _ _ x => x.elim
    subst e e1 e2
    refine letOwned (S2.get (.head _)) hm'.1 hm'.2 ?_
    refine wpAny_mono ((turn it o' i v vs2 n2 hlt hl hv hI).run s2 S2) (fun _ s3 ⟨vs3, n3, S3, q⟩ => ?_) fun _ _ x => x.elim
    refine wpAny_mono (q.run s3 S3) (fun fl s4 ⟨vs4, n4, S4, q4⟩ => ?_) fun _ _ x => x.elim
    cases fl with
    | next => obtain ⟨n5, hs, hI'⟩ := q4; exact ⟨items.length - (i + 1), by omega, i + 1, vs4, n5, o', rfl, hi', hm', S4.sub hs, hI'⟩
    | cont => obtain ⟨n5, hs, hI'⟩ := q4; exact ⟨items.length - (i + 1), by omega, i + 1, vs4, n5, o', rfl, hi', hm', S4.sub hs, hI'⟩
    | brk => exact q4.elim
    | ret v => exact q4.elim
  · have : i = items.length := by omega
    subst this
    refine wpAny_mono ((T.en f oi vs1 n2 hm (FI.src _ _ _ hI) hne).run s S1) (fun r s2 ⟨vs2, n3, S2, e, e1, e2⟩ => ?_) fun _ _ x => x.elim
    subst e e1 e2
    exact wpAny_execs_nil ⟨_, _, S2, fin _ _ hI⟩
/-- two lists of the same truths -/
theorem Wp.eqTT {Q : Value → Vals → Led → Prop} {a b : Addr} {e1 e2 : Nat} (hu : A.units + 64 < cLine) (ha : (a, Lst [.bool true, .bool true] e1) ∈ n) (hb : (b, Lst [.bool true, .bool true] e2) ∈ n) (h : Q (.bool true) vs n) : Wp G f A (compareOp .Eq (.ref a) (.ref b)) vs n Q E :=
  ⟨fun s S => eq_dataH (Reads.list (S.get ha) rfl rfl (.cons (.bool true) (.cons (.bool true) .nil))) (Reads.list (S.get hb) rfl rfl (.cons (.bool true) (.cons (.bool true) .nil))) (by rfl) (by rfl) hu ⟨_, _, S, h⟩⟩
end
end

section
set_option maxHeartbeats 4000000
open PySem PySem.Spec PySem.Calls PyProof.Rows PySem.W

def dLaw : Stmt := sAt pTop 49
def nsLaw : List Str := ["script", "number", "wire", "values", "octets", "made", "fine", "form"]
def RLaw (L : Addr) : List (Str × Slot) := [("script", .loc 0), ("draw", .cel (L + 1)), ("number", .loc 1), ("wire", .loc 2), ("values", .loc 3), ("code", .cel (L + 2)), ("octets", .loc 4), ("made", .loc 5), ("fine", .loc 6), ("form", .loc 7), ("size", .cel (L + 3)), ("_law_draw", .glo (.ref 217)), ("_law_number", .glo (.ref 238)), ("_law_take", .glo (.ref 224)), ("range", .bui (.type "range")), ("_law_makers", .glo (.ref 315)), ("_law_holds", .glo (.ref 320)), ("len", .bui (.builtin "len")), ("_law_beyond", .glo (.ref 327)), ("_StructPackEncoder", .glo (.ref 170)), ("_FixedSizer", .glo (.ref 127)), ("_StructPackDecoder", .glo (.ref 212))]
abbrev envLaw (L fa : Addr) (cd : Value) : Env := envX "law" (dScope dLaw) L fa cd (cellsFrom (L + 1) (dScope dLaw).names [])

theorem octs_len {code v : Nat} (hv : v ≤ 13) : (octs code v).length ≤ 1000 := by
  unfold octs
  split
  · rw [figB_len]; have := (txt_len v hv).2; omega
  · split <;> rw [runB_len] <;> omega
section
variable {G : Gl} {A : Around} {n : Led} {env : Env}
theorem law_turn1 (hG : Ok G) {h₀ : Heap} {L fa : Addr} {cd : Value} (he : env = envLaw L fa cd) (r0 : Res G ⟨h₀, L, nsLaw⟩ env (RLaw L)) (hfr : A.frames = some [env]) (rm : Rm A 30) {wire num i v : Nat} {rr : List Nat} (hw : wire ≤ 5) (hn1 : 1 ≤ num) (hn2 : num < 1073741824) (hi : i ≤ 2) {lv : Addr} {ws : List Value} {ew : Nat} {ti tn tw : Tok}
    (hlv : (lv, Lst ws ew) ∈ n) (hws : IntsAre ws ((v :: rr).map fun x => ((x : Nat) : Int))) (hcd : (L + 2, cellObj (some (.int i ti))) ∈ n) (hB : ∀ x ∈ v :: rr, x ≤ 13) (hrr : rr.length ≤ 20) {o0 o4 o5 o6 o7 : Option Value} :
    Wp G ⟨h₀, L, nsLaw⟩ A (execs (fBody (sAt (dBody dLaw) 4)) env) [o0, some (.int num tn), some (.int wire tw), some (.ref lv), o4, o5, o6, o7] n
      (LoopQ (fun vs3 n3 => (∀ p ∈ n, p ∈ n3) ∧ ∃ o4 o5, vs3 = [o0, some (.int num tn), some (.int wire tw), some (.ref lv), o4, o5, o6, o7]) (fun _ _ => False) (fun _ _ _ => False)) Bot := by
  have r := r0
  unfold RLaw at r
  have hwl : ws.length = rr.length + 1 := by have := hws.length; simpa using this
  have hen : ∀ x ∈ v :: rr, (octs i x).length ≤ 1000 := fun x hx => octs_len (hB x hx)
  have k1 : ∀ n, KP G n (.ref 308) := fun _ => .k hG (by rfl) ⟨_, _, _, _, rfl⟩
  have k2 : ∀ n, KP G n (.ref 315) := fun _ => .k hG (by rfl) ⟨_, _, _, _, rfl⟩
  have k3 : ∀ n, KP G n (.ref 320) := fun _ => .k hG (by rfl) ⟨_, _, _, _, rfl⟩
  have k4 : ∀ n, KP G n (.ref 327) := fun _ => .k hG (by rfl) ⟨_, _, _, _, rfl⟩
  refine Wp.conCx (j := 4) (cl := [("code", L + 2)]) r (by walk_at "au_m") (by subst he; rfl) (by subst he; rfl) (by rfl) (by decide +kernel) ?_
  walk_at "aus"
  refine ⟨fun i v => ws[i]? = some v, ws.length, [(lv, Lst ws ew)], ["value"], fun C j us vs1 n1 => (∃ o, vs1 = [o]) ∧ n1 = n ∧ ∃ bs : List (List UInt8 × Tok), us = bs.map byVal ∧ bs.map (·.1) = ((v :: rr).take j).map (octs i), by omega, by simp, itr_list rm.hh hlv,
    ⟨fun C j us vs1 n1 ⟨_, e, _⟩ p hp => (by subst e; rw [List.mem_singleton.mp hp]; exact hlv), fun C j us vs1 n1 ⟨_, e, _⟩ => (by subst e; exact Sub.rfl'), ?_⟩, ?_, ?_⟩
  · rintro g2 C D it o j x us vs1 n1 hit hid hdc hj hv ⟨⟨o1, rfl⟩, rfl, bs, rfl, hbs⟩ hne
    obtain ⟨hjv, tv, rfl⟩ := nat_at hws hv
    generalize hce : cEnv _ _ C env = ce
    have rc : Res G ⟨g2, C, ["value"]⟩ ce [("value", .loc 0), ("code", .cel (L + 2)), ("_law_octets", .glo (.ref 308))] := by
      subst hce he
      refine ⟨by rfl, rfl, rfl, rfl, (by decide +kernel : (["value"] : List Str).Nodup), ?_⟩
      rw [hG.K]
      exact SlotsOk.all (R := [("value", .loc 0), ("code", .cel (L + 2)), ("_law_octets", .glo (.ref 308))]) (by walk_at "au_slots")
    walk_at "aus"
    refine ⟨k1 _, law_octets hG (rm.le (by decide)) hi (hB _ (List.getElem_mem hjv)) fun tb => ?_⟩
    refine ⟨n1, fun p hp => hp, ⟨_, rfl⟩, rfl, bs ++ [(octs i (v :: rr)[j], tb)], by rw [List.map_append]; rfl, ?_⟩
    rw [List.map_append, hbs, List.take_add_one, List.getElem?_eq_getElem hjv, List.map_append]
    rfl
  · intro C hC
    exact ⟨⟨none, rfl⟩, rfl, [], rfl, rfl⟩
  rintro lo C us vs1 n1 hlo ⟨_, rfl, bs, rfl, hbs⟩ hul
  have hbs2 : bs.map (·.1) = (v :: rr).map (octs i) := by rw [hbs, List.take_of_length_le (by simp; omega)]
  have hbl : bs.length = rr.length + 1 := by have := congrArg List.length hbs2; simpa using this
  refine ⟨(lo, Lst (bs.map byVal) ws.length) :: n1, fun p hp => hp, ?_⟩
  walk_at "aus"
  refine ⟨k2 _, law_makers hG (rm.le (by decide)) hi hw fun am ev sv dv nd M => ?_⟩
  have hmem : ∀ p ∈ (lo, Lst (bs.map byVal) ws.length) :: n1, p ∈ (am, Tup [ev, sv, dv]) :: (nd ++ (lo, Lst (bs.map byVal) ws.length) :: n1) := fun p hp => .tail _ (List.mem_append_right _ hp)
  have hnd : ∀ p ∈ nd, p ∈ (am, Tup [ev, sv, dv]) :: (nd ++ (lo, Lst (bs.map byVal) ws.length) :: n1) := fun p hp => .tail _ (List.mem_append_left _ hp)
  walk_at "aus"
  refine ⟨k3 _, law_holds hG (rm.le (by decide)) M hnd hw hn1 hn2 (.head _) (hmem _ (.tail _ hlv)) hws (hmem _ (.head _)) hbs2 hB hrr hen ?_⟩
  walk_at "aus"
  refine iF rfl ?_
  walk_at "aus"
  refine Wp.usub ?_
  walk_at "aus"
  refine Wp.neg fun _ => ?_
  obtain ⟨⟨bl, tbl⟩, hbl2⟩ : ∃ b, bs[rr.length]? = some b := ⟨_, List.getElem?_eq_getElem (by omega)⟩
  have hlast : ∀ q x, v :: rr = q ++ [x] → octs i x = bl := fun q x e => by
    have e2 : (bs.map (·.1))[rr.length]? = some bl := by rw [List.getElem?_map, hbl2]; rfl
    have hq : q.length = rr.length := by have := congrArg List.length e; simpa using this.symm
    rw [hbs2, e, List.map_append, List.getElem?_append_right (by simp [hq])] at e2
    simpa [hq] using e2
  have hbl3 : bl.length ≤ 1000 := by
    obtain ⟨q, x, e, _⟩ := bodyB_last (enc := octs i) v rr
    rw [← hlast q x e]
    exact hen x (by rw [e]; simp)
  refine Wp.itemLneg (hmem _ (.head _)) (by decide) (by decide) (j := rr.length) (x := .bytes bl.toArray tbl) (by rw [List.length_map, hbl]; simp [seqIndex?]; omega) (by rw [List.getElem?_map, hbl2]; rfl) ?_
  walk_at "aus"
  refine ⟨.bui _, Wp.lenB (by rw [List.size_toArray]; omega) fun _ => ?_⟩
  rw [List.size_toArray]
  walk_at "aus"
  refine iB (fun h1 => ?_) (fun h1 => ?_)
  · walk_at "aus"
    refine ⟨k4 _, law_beyond hG hfr (by subst he; rfl) (by subst he; exact fun e => by cases e) (rm.le (by decide)) M hnd hn2 (.head _) (hmem _ (.tail _ hlv)) hws (hmem _ (.head _)) hbs2 hB hrr hen (fun q x e => by rw [hlast q x e]; omega) ?_⟩
    walk_at "aus"
    refine iF rfl ?_
    refine iF rfl ?_
    walk_at "aus"
    exact ⟨fun p hp => hmem p (.tail _ hp), _, _, rfl⟩
  · refine iF rfl ?_
    walk_at "aus"
    exact ⟨fun p hp => hmem p (.tail _ hp), _, _, rfl⟩
end
end

section
set_option maxHeartbeats 4000000
open PySem PySem.Spec PySem.Calls PyProof.Rows PySem.W
local macro_rules | `(tactic| walk_at "au_sub") => `(tactic| ((repeat (refine sub_cons (by walk_at "au_m") ?_)); intro p hp; (repeat apply List.Mem.tail); first | exact hp | exact absurd hp (by simp)))

theorem upd_sub {n m : Led} {c : Addr} {o : Obj} (h : ∀ p ∈ n, p ∈ m) : ∀ p ∈ upd n c o, p ∈ upd m c o := fun p hp => by
  rcases mem_upd hp with ⟨e, o', hm⟩ | ⟨hp, hne⟩
  · rw [e]; exact mem_upd_self (h _ hm)
  · exact mem_upd_ne (a := p.1) (o := p.2) (h p hp) hne
theorem fix_arr (sz y : Nat) : byteArr ((List.range sz).map fun j => ((y / 256 ^ j % 256 : Nat) : Int)) = (fixB sz y).toArray := by
  unfold byteArr fixB
  rw [List.map_map]
  rfl
theorem shr_and (y k : Nat) : Builtin.bitAnd ((y : Int) / 2 ^ ((8 : Int) * (k : Int)).toNat) 255 = ((y / 256 ^ k % 256 : Nat) : Int) := by
  rw [bitAnd_m8, show ((8 : Int) * (k : Int)).toNat = 8 * k by omega, show (2 : Int) ^ (8 * k) = ((2 ^ (8 * k) : Nat) : Int) from (Int.natCast_pow 2 (8 * k)).symm, Nat.pow_mul]
  push_cast
  rfl
section
variable {G : Gl} {A : Around} {n : Led} {env : Env}
theorem law_turn2 (hG : Ok G) {h₀ : Heap} {L fa : Addr} {cd : Value} (he : env = envLaw L fa cd) (r0 : Res G ⟨h₀, L, nsLaw⟩ env (RLaw L)) (rm : Rm A 30) {wire num sz v : Nat} {rr : List Nat} {x : Str} (hx : FmtOk x sz) (hw : wire ≤ 5) (hn1 : 1 ≤ num) (hn2 : num < 1073741824) {lv lf : Addr} {ws fl : List Value} {ew ef : Nat} {tn tw tx ts : Tok}
    (hlv : (lv, Lst ws ew) ∈ n) (hws : IntsAre ws ((v :: rr).map fun x => ((x : Nat) : Int))) (hcs : (L + 3, cellObj (some (.int sz ts))) ∈ n) (hlf : (lf, Lst fl ef) ∈ n) (hfl : fl.length ≤ 10) (hB : ∀ x ∈ v :: rr, x ≤ 13) (hrr : rr.length ≤ 20) {o0 o4 o5 : Option Value} :
    Wp G ⟨h₀, L, nsLaw⟩ A (execs (fBody (sAt (dBody dLaw) 6)) env) [o0, some (.int num tn), some (.int wire tw), some (.ref lv), o4, o5, some (.ref lf), some (.str x tx)] n
      (LoopQ (fun vs3 n3 => (∀ p ∈ upd n lf (Lst (fl ++ [.bool true]) (ef + 1)), p ∈ n3) ∧ ∃ o4 o5, vs3 = [o0, some (.int num tn), some (.int wire tw), some (.ref lv), o4, o5, some (.ref lf), some (.str x tx)]) (fun _ _ => False) (fun _ _ _ => False)) Bot := by
  have r := r0
  unfold RLaw at r
  have hint : interactive env = false := by subst he; rfl
  have hs8 : 4 ≤ sz ∧ sz ≤ 8 := by rcases hx with ⟨_, e⟩ | ⟨_, e⟩ <;> omega
  have hwl : ws.length = rr.length + 1 := by have := hws.length; simpa using this
  have k1 : ∀ n, KP G n (.ref 170) := fun _ => .k hG (by rfl) ⟨_, _, _, _, rfl⟩
  have k2 : ∀ n, KP G n (.ref 127) := fun _ => .k hG (by rfl) ⟨_, _, _, _, rfl⟩
  have k3 : ∀ n, KP G n (.ref 212) := fun _ => .k hG (by rfl) ⟨_, _, _, _, rfl⟩
  have k4 : ∀ n, KP G n (.ref 320) := fun _ => .k hG (by rfl) ⟨_, _, _, _, rfl⟩
  refine Wp.conCx (j := 4) (cl := [("size", L + 3)]) r (by walk_at "au_m") (by subst he; rfl) (by subst he; rfl) (by rfl) (by decide +kernel) ?_
  walk_at "aus"
  refine ⟨fun i v => ws[i]? = some v, ws.length, [(lv, Lst ws ew)], [], fun C j us vs1 n1 => vs1 = [] ∧ (∃ oc, n1 = (C + 1, cellObj oc) :: n) ∧ ∃ bs : List (List UInt8 × Tok), us = bs.map byVal ∧ bs.map (·.1) = ((v :: rr).take j).map fun v => fixB sz (v * 19), by omega, by simp, itr_list rm.hh hlv,
    ⟨fun C j us vs1 n1 ⟨_, ⟨oc, e⟩, _⟩ p hp => (by subst e; rw [List.mem_singleton.mp hp]; exact .tail _ hlv), fun C j us vs1 n1 ⟨_, ⟨oc, e⟩, _⟩ => ?_, ?_⟩, ?_, ?_⟩
  · subst e
    show Sub _ ((C + 1, cellObj none) :: n)
    intro p hp
    rcases List.mem_cons.mp hp with rfl | hp
    · exact ⟨_, .head _, rfl⟩
    · exact ⟨p, .tail _ hp, rfl⟩
  · rintro g2 C D it o j y us vs1 n1 hit hid hdc hj hv ⟨rfl, ⟨oc, rfl⟩, bs, rfl, hbs⟩ hne
    obtain ⟨hjv, tv, rfl⟩ := nat_at hws hv
    generalize hyv : (v :: rr)[j] = yv
    generalize hce : cEnv _ _ C env = ce
    have rc : Res G ⟨g2, C, []⟩ ce [("value", .cel (C + 1)), ("size", .cel (L + 3)), ("bytes", .bui (.type "bytes")), ("range", .bui (.type "range"))] := by
      subst hce he
      refine ⟨by rfl, rfl, rfl, rfl, (by decide +kernel : ([] : List Str).Nodup), ?_⟩
      rw [hG.K]
      exact SlotsOk.all (R := [("value", .cel (C + 1)), ("size", .cel (L + 3)), ("bytes", .bui (.type "bytes")), ("range", .bui (.type "range"))]) (by walk_at "au_slots")
    refine Wp.stc rc (by walk_at "au_m") (by subst hce he; kernel_rfl) (.tail _ (.tail _ (.head _))) ?_
    have hitC : it ≠ C + 1 := Nat.ne_of_lt (Nat.lt_trans hid (Nat.lt_trans hdc (Nat.lt_succ_self C)))
    have hDC : D ≠ C + 1 := Nat.ne_of_lt (Nat.lt_trans hdc (Nat.lt_succ_self C))
    rw [upd_cons_ne hitC, upd_cons_ne hDC, upd_cons, upd_id fun p hp => Nat.ne_of_lt (Nat.lt_trans (hit p hp) (Nat.lt_trans hid (Nat.lt_trans hdc (Nat.lt_succ_self C))))]
    walk_at "aus"
    refine Wp.compx (cl := [("value", C + 1)]) (by subst hce he; rfl) (by rfl) (by decide +kernel) ?_
    walk_at "aus"
    refine ⟨.typ _, Wp.range fun a u w ha => ?_⟩
    generalize hnR : (it, o) :: (D, Lst (bs.map byVal) j) :: (C + 1, cellObj (some (.int yv tv))) :: n = nR
    have hval : (C + 1, cellObj (some (Value.int yv tv))) ∈ (a, RngO sz u ts w) :: nR := by rw [← hnR]; exact .tail _ (.tail _ (.tail _ (.head _)))
    refine ⟨fun i w => ∃ t, w = Value.int i t, sz, [], ["k"], fun C2 k us2 vs2 n2 => (∃ o, vs2 = [o]) ∧ n2 = (a, RngO sz u ts w) :: nR ∧ IntsAre us2 ((List.range k).map fun j => ((yv * 19 / 256 ^ j % 256 : Nat) : Int)), by omega, itr_range rm.hh (by omega) (.head _),
      ⟨fun _ _ _ _ _ _ p hp => (by cases hp), fun C2 k us2 vs2 n2 ⟨_, e, _⟩ => (by subst e; exact Sub.rfl'), ?_⟩, ?_, ?_⟩
    · rintro g3 C2 D2 it2 o2 k z us2 vs2 n2 hit2 hid2 hdc2 hk ⟨tk, rfl⟩ ⟨⟨o3, rfl⟩, rfl, hu2⟩ hne2
      generalize hce2 : cEnv _ _ C2 ce = ce2
      have rc2 : Res G ⟨g3, C2, ["k"]⟩ ce2 [("k", .loc 0), ("value", .cel (C + 1))] := by
        subst hce2 hce he
        refine ⟨by rfl, rfl, rfl, rfl, (by decide +kernel : (["k"] : List Str).Nodup), ?_⟩
        rw [hG.K]
        exact SlotsOk.all (R := [("k", .loc 0), ("value", .cel (C + 1))]) (by walk_at "au_slots")
      walk_at "aus"
      refine Wp.mul (IntMulOk.of_right (by decide)) fun _ => ?_
      walk_at "aus"
      refine Wp.mul (IntMulOk.of_left (by decide)) fun _ => ?_
      refine Wp.shr (by omega) fun _ => ?_
      walk_at "aus"
      refine ⟨(a, RngO sz u ts w) :: nR, fun p hp => hp, ⟨_, rfl⟩, rfl, ?_⟩
      rw [show (yv : Int) * 19 = ((yv * 19 : Nat) : Int) by push_cast; rfl, shr_and, List.range_succ, List.map_append]
      exact intsAre_snoc hu2 _ _
    · intro C2 hC2
      exact ⟨⟨none, rfl⟩, rfl, .nil⟩
    · rintro D2 C2 us2 vs2 n2 hD2 ⟨_, rfl, hu2⟩ hul2
      refine ⟨(D2, Lst us2 sz) :: (a, RngO sz u ts w) :: nR, fun p hp => hp, ?_⟩
      walk_at "aus"
      refine ⟨.typ _, Wp.mkB rm.hh (.head _) hu2 (fun k hk => ?_) (by omega) fun tb => ?_⟩
      · obtain ⟨q, _, rfl⟩ := List.mem_map.mp hk
        omega
      rw [fix_arr]
      refine ⟨(C + 1, cellObj (some (.int yv tv))) :: n, fun p hp => by rw [← hnR]; exact .tail _ (.tail _ hp), rfl, ⟨_, rfl⟩, bs ++ [(fixB sz (yv * 19), tb)], by rw [List.map_append]; rfl, ?_⟩
      rw [List.map_append, hbs, List.take_add_one, List.getElem?_eq_getElem hjv, List.map_append, hyv]
      rfl
  · intro C hC
    exact ⟨rfl, ⟨none, rfl⟩, [], rfl, rfl⟩
  rintro lo C us vs1 n1 hlo ⟨_, ⟨oc, rfl⟩, bs, rfl, hbs⟩ hul
  have hbs2 : bs.map (·.1) = (v * 19 :: rr.map (· * 19)).map (fixB sz) := by
    rw [hbs, List.take_of_length_le (by simp; omega), List.map_cons, List.map_cons, List.map_map]
    rfl
  refine ⟨(lo, Lst (bs.map byVal) ws.length) :: n, fun p hp => (List.mem_cons.mp hp).elim (fun e => e ▸ .head _) fun hp => .tail _ (.tail _ hp), ?_⟩
  walk_at "aus"
  refine ⟨k1 _, structPackEncoder hG (rm.le (by decide)) hx fun fe cw cf cs te oe hce _ => ?_⟩
  walk_at "aus"
  refine ⟨k2 _, fixedSizer hG (rm.le (by decide)) fun fs cz os hcz _ _ => ?_⟩
  walk_at "aus"
  refine ⟨k3 _, structPackDecoder hG (rm.le (by decide)) hx fun fd dd cw2 cd2 fi ci1 ci2 ci3 td od oi hcd2 hci => ?_⟩
  walk_at "aus"
  refine Wp.newTuple (by simp) fun am ham => ?_
  have I := innerP hG (fi := fi) (tx := tx) (ts := td) hx hci
  have M : Mk3 G (.ref fe) (.ref fs) (.ref fd) [(fd, od), (dd, Tup [.bool false]), (cw2, cellObj (some (.int wire tw))), (cd2, cellObj (some (.ref fi))), (fi, oi), (ci1, cellObj (some (.str x tx))), (ci2, cellObj (some (.ref 85))), (ci3, cellObj (some (.int sz td))), (fs, os), (cz, cellObj (some (.int sz ts))), (fe, oe), (cw, cellObj (some (.int wire tw))), (cf, cellObj (some (.str x tx))), (cs, cellObj (some (.int sz te)))] wire (fixB sz) (fun v => v < 256 ^ sz) :=
    ⟨(specificPEncoder hG hx hw hce).mono (by walk_at "au_sub") (by decide), (specificFSizer hG hcz (fixB_len sz)).mono (by walk_at "au_sub") (by decide), .ref fi, _, (specificDecoder hG hw (fun v => by rw [fixB_len]; omega) hcd2 I (by decide)).mono (by walk_at "au_sub") (by decide), I.sub fun _ z => z⟩
  generalize hnM : (am, Tup [Value.ref fe, Value.ref fs, Value.ref fd]) :: _ = nM
  have hn : ∀ p ∈ n, p ∈ nM := fun p hp => by rw [← hnM]; repeat apply List.Mem.tail
                                              exact hp
  have hlo2 : (lo, Lst (bs.map byVal) ws.length) ∈ nM := by rw [← hnM]; walk_at "au_l"
  have ham2 : (am, Tup [Value.ref fe, Value.ref fs, Value.ref fd]) ∈ nM := by rw [← hnM]; exact .head _
  have hnd : ∀ p ∈ [(fd, od), (dd, Tup [.bool false]), (cw2, cellObj (some (.int wire tw))), (cd2, cellObj (some (.ref fi))), (fi, oi), (ci1, cellObj (some (.str x tx))), (ci2, cellObj (some (.ref 85))), (ci3, cellObj (some (.int sz td))), (fs, os), (cz, cellObj (some (.int sz ts))), (fe, oe), (cw, cellObj (some (.int wire tw))), (cf, cellObj (some (.str x tx))), (cs, cellObj (some (.int sz te)))], p ∈ nM := by rw [← hnM]; walk_at "au_sub"
  clear hnM
  walk_at "au"
  refine Wp.conE ?_ (hi := hint)
  walk_at "aus"
  refine Wp.gm (hn _ hlf) PySem.F.plainAttrs_list slot_list_append type_list_append ?_
  walk_at "aus"
  refine Wp.comp (cl := []) (fun i v => ws[i]? = some v) ws.length [(lv, Lst ws ew)] ["value"] (fun C i us vs1 n1 => (∃ o, vs1 = [o]) ∧ n1 = nM ∧ IntsAre us (((v :: rr).take i).map fun x => ((x * 19 : Nat) : Int))) (by subst he; rfl) (by rfl) (by decide +kernel) (by omega) ?_
  walk_at "aus"
  refine ⟨itr_list rm.hh (hn _ hlv), ⟨fun C i us vs1 n1 ⟨_, e, _⟩ p hp => (by subst e; rw [List.mem_singleton.mp hp]; exact hn _ hlv), fun C i us vs1 n1 ⟨_, e, _⟩ => (by subst e; exact Sub.rfl'), ?_⟩, ?_, ?_⟩
  · rintro g2 C D it o j y us vs1 n1 hit hid hdc hj hv ⟨⟨o1, rfl⟩, rfl, hu⟩ hne
    obtain ⟨hjv, tv, rfl⟩ := nat_at hws hv
    generalize hce : cEnv _ _ C env = ce
    have rc : Res G ⟨g2, C, ["value"]⟩ ce [("value", .loc 0)] := by
      subst hce he
      refine ⟨by rfl, rfl, rfl, rfl, (by decide +kernel : (["value"] : List Str).Nodup), ?_⟩
      rw [hG.K]
      exact SlotsOk.all (R := [("value", .loc 0)]) (by walk_at "au_slots")
    walk_at "aus"
    refine Wp.mul (IntMulOk.of_right (by decide)) fun _ => ?_
    refine ⟨n1, fun p hp => hp, ⟨_, rfl⟩, rfl, ?_⟩
    rw [List.take_add_one, List.getElem?_eq_getElem hjv, List.map_append, show (((v :: rr)[j] : Nat) : Int) * 19 = (((v :: rr)[j] * 19 : Nat) : Int) by push_cast; rfl]
    exact intsAre_snoc hu _ _
  · intro C hC
    exact ⟨⟨none, rfl⟩, rfl, .nil⟩
  rintro lw C us vs1 n1 hlw ⟨_, rfl, hu⟩ hul2
  refine ⟨(lw, Lst us ws.length) :: n1, fun p hp => hp, ?_⟩
  walk_at "aus"
  have hu3 : IntsAre us ((v * 19 :: rr.map (· * 19)).map fun x => ((x : Nat) : Int)) := by
    rw [List.take_of_length_le (by simp; omega)] at hu
    rw [List.map_cons, List.map_map]
    exact hu
  have h256 : 256 ^ 4 ≤ 256 ^ sz := Nat.pow_le_pow_right (by decide) hs8.1
  refine ⟨k4 _, law_holds hG (rm.le (by decide)) M (fun p hp => .tail _ (hnd p hp)) hw hn1 hn2 (.tail _ ham2) (.head _) hu3 (.tail _ hlo2) hbs2 (fun y hy => ?_) (by simpa using hrr) (fun y _ => by rw [fixB_len]; omega) ?_⟩
  · have : y ≤ 247 := by
      rcases List.mem_cons.mp hy with rfl | hy
      · have := hB v (.head _); omega
      · obtain ⟨z, hz, rfl⟩ := List.mem_map.mp hy
        have := hB z (.tail _ hz); omega
    show y < 256 ^ sz
    omega
  walk_at "aus"
  refine ⟨.bui _, Wp.append (.tail _ (hn _ hlf)) (by omega) ⟨rfl, ?_⟩⟩
  walk_at "aus"
  exact ⟨upd_sub fun p hp => .tail _ (hn p hp), _, _, rfl⟩
end
end

section
set_option maxHeartbeats 4000000
open PySem PySem.Spec PySem.Calls PyProof.Rows PySem.W

theorem drawL_mem {n : Led} {D R : Addr} {p : Addr × Obj} (h : p ∈ n) (h1 : p.1 ≠ D) (h2 : p.1 ≠ R) {ws : List Value} {seed : Int} {t : Tok} {e1 e2 : Nat} : p ∈ DrawL n D R ws seed t e1 e2 := mem_upd_ne (a := p.1) (o := p.2) (mem_upd_ne (a := p.1) (o := p.2) h h2) h1
theorem drawL_canon {n N0 : Led} {D R : Addr} {o o' : Obj} (hDR : D ≠ R) (hD : (D, o) ∈ n) (hR : (R, o') ∈ n) (h0 : ∀ p ∈ N0, p ∈ n) (hN : ∀ p ∈ N0, p.1 ≠ D ∧ p.1 ≠ R) {ws : List Value} {seed : Int} {t : Tok} {e1 e2 : Nat} :
    ∀ p ∈ (D, Lst [.ref R, .int seed t] e1) :: (R, Lst ws e2) :: N0, p ∈ DrawL n D R ws seed t e1 e2 := fun p hp => by
  rcases List.mem_cons.mp hp with rfl | hp
  · exact mem_upd_self (mem_upd_ne hD hDR)
  · rcases List.mem_cons.mp hp with rfl | hp
    · exact mem_upd_ne (mem_upd_self hR) hDR.symm
    · exact drawL_mem (h0 p hp) (hN p hp).1 (hN p hp).2
theorem sub2 {a b : Addr} {o o' p p' : Obj} {n : Led} : Sub ((a, o) :: (b, p) :: n) ((a, o') :: (b, p') :: n) := fun q hq => by
  rcases List.mem_cons.mp hq with rfl | hq
  · exact ⟨_, .head _, rfl⟩
  · rcases List.mem_cons.mp hq with rfl | hq
    · exact ⟨_, .tail _ (.head _), rfl⟩
    · exact ⟨q, .tail _ (.tail _ hq), rfl⟩
theorem Sub.cons {x : Addr × Obj} {n m : Led} (h : Sub n m) : Sub (x :: n) (x :: m) := fun q hq => by
  rcases List.mem_cons.mp hq with rfl | hq
  · exact ⟨_, .head _, rfl⟩
  · obtain ⟨z, hz, e⟩ := h q hq
    exact ⟨z, .tail _ hz, e⟩
section
variable {G : Gl} {A : Around} {n : Led} {env : Env}
/-- the draws -/
theorem law_head (hG : Ok G) {h₀ : Heap} {L fa : Addr} {cd : Value} (he : env = envLaw L fa cd) (r0 : Res G ⟨h₀, L, nsLaw⟩ env (RLaw L)) (rm : Rm A 30) {l : Addr} {lo : Obj} {items : List Value} {ks : List Int} {ep : Nat} (hm : (l, lo) ∈ n) (hlc : lo.cls = .type "list") (hld : lo.data = .seq items.toArray ep) (hi : IntsAre items ks) (hl : items.length ≤ 63) (hln : ∀ p ∈ n, p.1 < L)
    {rest : List Stmt} {Q : Flow → Vals → Led → Prop}
    (K : ∀ (num wire v : Nat) (rr : List Nat) (lv : Addr) (ws : List Value) (ew : Nat) tn tw, 1 ≤ num → num < 1073741824 → wire ≤ 5 → rr.length ≤ 20 → (∀ x ∈ v :: rr, x ≤ 13) → IntsAre ws ((v :: rr).map fun x => ((x : Nat) : Int)) → L + 3 < lv →
      Wp G ⟨h₀, L, nsLaw⟩ A (execs rest env) [some (.ref l), some (.int num tn), some (.int wire tw), some (.ref lv), none, none, none, none] ((L + 2, cellObj none) :: (L + 3, cellObj none) :: (lv, Lst ws ew) :: n) Q Bot) :
    Wp G ⟨h₀, L, nsLaw⟩ A (execs (sAt (dBody dLaw) 0 :: sAt (dBody dLaw) 1 :: sAt (dBody dLaw) 2 :: sAt (dBody dLaw) 3 :: rest) env) [some (.ref l), none, none, none, none, none, none, none] ((L + 1, cellObj none) :: (L + 2, cellObj none) :: (L + 3, cellObj none) :: n) Q Bot := by
  have r := r0
  unfold RLaw at r
  have k1 : ∀ n, KP G n (.ref 217) := fun _ => .k hG (by rfl) ⟨_, _, _, _, rfl⟩
  have k2 : ∀ n, KP G n (.ref 238) := fun _ => .k hG (by rfl) ⟨_, _, _, _, rfl⟩
  have k3 : ∀ n, KP G n (.ref 224) := fun _ => .k hG (by rfl) ⟨_, _, _, _, rfl⟩
  refine Wp.conA ?_
  walk_at "aus"
  refine ⟨k1 _, law_draw hG (rm.le (by decide)) (.tail _ (.tail _ (.tail _ hm))) hlc hld hi hl fun D R ws0 ks0 seed0 t0 hDR hlt hi0 hl0 => ?_⟩
  have hD1 := hlt (L + 1, cellObj none) (.head _)
  have hD2 := hlt (L + 2, cellObj none) (.tail _ (.head _))
  have hD3 := hlt (L + 3, cellObj none) (.tail _ (.tail _ (.head _)))
  refine Wp.stc r (by walk_at "au_m") (by subst he; kernel_rfl) (.tail _ (.tail _ (.head _))) ?_
  rw [upd_cons_ne (Nat.ne_of_gt hD1.1), upd_cons_ne (Nat.ne_of_gt hD1.2), upd_cons, upd_cons_ne (by simp : L + 2 ≠ L + 1), upd_cons_ne (by simp : L + 3 ≠ L + 1), upd_id (ne_add hln)]
  have hN0 : ∀ p ∈ (L + 1, cellObj (some (.ref D))) :: (L + 2, cellObj none) :: (L + 3, cellObj none) :: n, p.1 ≠ D ∧ p.1 ≠ R := fun p hp => by
    rcases List.mem_cons.mp hp with rfl | hp
    · exact ⟨Nat.ne_of_lt hD1.1, Nat.ne_of_lt hD1.2⟩
    · have z := hlt p (.tail _ hp)
      exact ⟨Nat.ne_of_lt z.1, Nat.ne_of_lt z.2⟩
  have hNL : ∀ p ∈ (L + 2, cellObj none) :: (L + 3, cellObj none) :: n, p ∈ (L + 1, cellObj (some (.ref D))) :: (L + 2, cellObj none) :: (L + 3, cellObj none) :: n := fun p hp => .tail _ hp
  have hdr : (L + 1, cellObj (some (.ref D))) ∈ (L + 1, cellObj (some (.ref D))) :: (L + 2, cellObj none) :: (L + 3, cellObj none) :: n := .head _
  generalize (L + 1, cellObj (some (.ref D))) :: (L + 2, cellObj none) :: (L + 3, cellObj none) :: n = N0 at hN0 hNL hdr ⊢
  refine Wp.conA ?_
  walk_at "aus"
  refine ⟨k2 _, law_number hG (rm.le (by decide)) hDR (.head _) (.tail _ (.head _)) hi0 (by omega) fun num tn ws1 ks1 seed1 t1 e1 e2 h1 h2 hi1 hl1 => ?_⟩
  refine Wp.drop (drawL_canon hDR (.head _) (.tail _ (.head _)) (fun p hp => .tail _ (.tail _ hp)) hN0) ?_
  walk_at "aus"
  refine Wp.conA ?_
  walk_at "aus"
  refine Wp.newList (by simp) fun a ha => ?_
  have hDa : a ≠ D := Nat.ne_of_gt (ha (D, _) (.head _))
  have hRa : a ≠ R := Nat.ne_of_gt (ha (R, _) (.tail _ (.head _)))
  walk_at "aus"
  refine ⟨k3 _, law_take hG (rm.le (by decide)) hDR (.tail _ (.head _)) (.tail _ (.tail _ (.head _))) hi1 (by omega) (by decide) fun q tq ws2 ks2 seed2 t2 e3 e4 hq0 hq1 hi2 hl2 => ?_⟩
  generalize hit : ([_, _, _, _] : List Value) = menu
  obtain ⟨wire, tw, hm1, hm2⟩ : ∃ (w : Nat) (tw : Tok), menu[q.toNat]? = some (.int w tw) ∧ w ≤ 5 := by
    have : q = 0 ∨ q = 1 ∨ q = 2 ∨ q = 3 := by omega
    subst hit
    rcases this with rfl | rfl | rfl | rfl
    · exact ⟨0, _, rfl, by decide⟩
    · exact ⟨1, _, rfl, by decide⟩
    · exact ⟨2, _, rfl, by decide⟩
    · exact ⟨5, _, rfl, by decide⟩
  refine Wp.itemL (drawL_mem (.head _) hDa hRa) hq0 (by omega) hm1 ?_
  refine Wp.drop (drawL_canon hDR (.tail _ (.head _)) (.tail _ (.tail _ (.head _))) (fun p hp => .tail _ (.tail _ (.tail _ hp))) hN0) ?_
  refine Wp.stl r (by walk_at "au_m") (by simp) ?_
  refine Wp.conCx (j := 3) (cl := [("draw", L + 1)]) r (by walk_at "au_m") (by subst he; rfl) (by subst he; rfl) (by rfl) (by decide +kernel) ?_
  walk_at "aus"
  refine ⟨k3 _, law_take hG (rm.le (by decide)) hDR (.head _) (.tail _ (.head _)) hi2 (by omega) (by decide) fun q2 tq2 ws3 ks3 seed3 t3 e5 e6 hq2 hq3 hi3 hl3 => ?_⟩
  refine Wp.drop (drawL_canon hDR (.head _) (.tail _ (.head _)) (fun p hp => .tail _ (.tail _ hp)) hN0) ?_
  walk_at "aus"
  obtain ⟨qn, rfl⟩ : ∃ m : Nat, q2 = m := ⟨q2.toNat, by omega⟩
  rw [show (1 : Int) + (qn : Int) = ((1 + qn : Nat) : Int) by push_cast; rfl]
  refine ⟨.typ _, Wp.range fun ar u w har => ?_⟩
  have hDr : ar ≠ D := Nat.ne_of_gt (har (D, _) (.head _))
  have hRr : ar ≠ R := Nat.ne_of_gt (har (R, _) (.tail _ (.head _)))
  rename_i trng
  refine ⟨fun i w => ∃ t, w = Value.int i t, 1 + qn, [], ["k"], fun C i us vs1 n1 => (∃ o, vs1 = [o]) ∧ ∃ dws dks seed t e1 e2, n1 = (ar, RngO ((1 + qn : Nat) : Int) u trng w) :: (D, Lst [.ref R, .int seed t] e1) :: (R, Lst dws e2) :: N0 ∧ IntsAre dws dks ∧ dws.length ≤ 63 ∧ ∃ vals : List Nat, IntsAre us (vals.map fun x => ((x : Nat) : Int)) ∧ vals.length = i ∧ ∀ x ∈ vals, x ≤ 13,
    by omega, by simp, itr_range rm.hh (by omega) (.head _), ⟨fun _ _ _ _ _ _ p hp => (by cases hp), fun C i us vs1 n1 ⟨_, dws, dks, seed, t, e1, e2, e, _⟩ => (by subst e; exact Sub.cons sub2), ?_⟩, ?_, ?_⟩
  · rintro g2 C Dc it o i y us vs1 n1 hit2 hid hdc hi4 ⟨ty, rfl⟩ ⟨⟨o1, rfl⟩, dws, dks, seed, t, e7, e8, rfl, hid2, hdl, vals, hu, hvl, hvb⟩ hne
    generalize hce : cEnv _ _ C env = ce
    have rc : Res G ⟨g2, C, ["k"]⟩ ce [("k", .loc 0), ("draw", .cel (L + 1)), ("_law_take", .glo (.ref 224))] := by
      subst hce he
      refine ⟨by rfl, rfl, rfl, rfl, (by decide +kernel : (["k"] : List Str).Nodup), ?_⟩
      rw [hG.K]
      exact SlotsOk.all (R := [("k", .loc 0), ("draw", .cel (L + 1)), ("_law_take", .glo (.ref 224))]) (by walk_at "au_slots")
    have hDi : it ≠ D := Nat.ne_of_gt (hit2 (D, _) (.tail _ (.head _)))
    have hRi : it ≠ R := Nat.ne_of_gt (hit2 (R, _) (.tail _ (.tail _ (.head _))))
    have hDc : Dc ≠ D := Nat.ne_of_gt (Nat.lt_trans (hit2 (D, _) (.tail _ (.head _))) hid)
    have hRc : Dc ≠ R := Nat.ne_of_gt (Nat.lt_trans (hit2 (R, _) (.tail _ (.tail _ (.head _)))) hid)
    walk_at "aus"
    refine ⟨k3 _, law_take hG (rm.le (by decide)) hDR (.tail _ (.tail _ (.tail _ (.head _)))) (.tail _ (.tail _ (.tail _ (.tail _ (.head _))))) hid2 (by omega) (by decide) fun z tz ws4 ks4 seed4 t4 e9 e10 hz0 hz1 hi5 hl5 => ?_⟩
    refine ⟨(ar, RngO ((1 + qn : Nat) : Int) u trng w) :: (D, Lst [.ref R, .int seed4 t4] e9) :: (R, Lst ws4 e10) :: N0, fun p hp => ?_, ⟨_, rfl⟩, ws4, ks4, seed4, t4, e9, e10, rfl, hi5, by omega, vals ++ [z.toNat], ?_, by simp [hvl], fun x hx => ?_⟩
    · rcases List.mem_cons.mp hp with rfl | hp
      · exact drawL_mem (.head _) hDi hRi
      · rcases List.mem_cons.mp hp with rfl | hp
        · exact drawL_mem (.tail _ (.head _)) hDc hRc
        · rcases List.mem_cons.mp hp with rfl | hp
          · exact drawL_mem (.tail _ (.tail _ (.head _))) hDr hRr
          · exact drawL_canon hDR (.tail _ (.tail _ (.tail _ (.head _)))) (.tail _ (.tail _ (.tail _ (.tail _ (.head _))))) (fun p hp => .tail _ (.tail _ (.tail _ (.tail _ (.tail _ hp))))) hN0 p hp
    · rw [List.map_append, show z = ((z.toNat : Nat) : Int) by omega]
      exact intsAre_snoc hu _ _
    · rcases List.mem_append.mp hx with hx | hx
      · exact hvb x hx
      · rw [List.mem_singleton.mp hx]; omega
  · intro C hC
    exact ⟨⟨none, rfl⟩, ws3, ks3, seed3, t3, e5, e6, rfl, hi3, by omega, [], .nil, rfl, fun x hx => by cases hx⟩
  rintro lv C us vs1 n1 hlv ⟨_, dws, dks, seed, t, e7, e8, rfl, hid2, hdl, vals, hu, hvl, hvb⟩ hul
  refine ⟨(L + 2, cellObj none) :: (L + 3, cellObj none) :: (lv, Lst us (1 + qn)) :: n, fun p hp => ?_, ?_⟩
  · rcases List.mem_cons.mp hp with rfl | hp
    · exact .tail _ (.tail _ (.tail _ (.tail _ (hNL _ (.head _)))))
    · rcases List.mem_cons.mp hp with rfl | hp
      · exact .tail _ (.tail _ (.tail _ (.tail _ (hNL _ (.tail _ (.head _))))))
      · rcases List.mem_cons.mp hp with rfl | hp
        · exact .head _
        · exact .tail _ (.tail _ (.tail _ (.tail _ (hNL _ (.tail _ (.tail _ hp))))))
  cases vals with
  | nil => simp at hvl; omega
  | cons v rr =>
    refine K num wire v rr lv us (1 + qn) tn tw h1 (by omega) hm2 (by simp at hvl; omega) hvb hu ?_
    exact hlv (L + 3, cellObj none) (.tail _ (.tail _ (.tail _ (hNL _ (.tail _ (.head _))))))
end
end

section
set_option maxHeartbeats 4000000
open PySem PySem.Spec PySem.Calls PyProof.Rows PySem.W

section
variable {G : Gl} {A : Around} {n : Led} {env : Env}
theorem law_run (hG : Ok G) {h₀ : Heap} {L fa : Addr} {cd : Value} (he : env = envLaw L fa cd) (r0 : Res G ⟨h₀, L, nsLaw⟩ env (RLaw L)) (hfr : A.frames = some [env]) (rm : Rm A 30) {l : Addr} {lo : Obj} {items : List Value} {ks : List Int} {ep : Nat} (hm : (l, lo) ∈ n) (hlc : lo.cls = .type "list") (hld : lo.data = .seq items.toArray ep) (hi : IntsAre items ks) (hl : items.length ≤ 63) (hln : ∀ p ∈ n, p.1 < L) :
    Wp G ⟨h₀, L, nsLaw⟩ A (execs (dBody dLaw) env) [some (.ref l), none, none, none, none, none, none, none] ((L + 1, cellObj none) :: (L + 2, cellObj none) :: (L + 3, cellObj none) :: n) (fun fl _ n' => fl = .ret (.bool true) ∧ ∀ p ∈ n, p ∈ n') Bot := by
  refine law_head hG he r0 rm hm hlc hld hi hl hln (rest := (dBody dLaw).drop 4) fun num wire v rr lv ws ew tn tw h1 h2 hw hrr hB hws hlv => ?_
  have r := r0
  unfold RLaw at r
  have hn2 : ∀ p ∈ (L + 3, cellObj none) :: (lv, Lst ws ew) :: n, p.1 ≠ L + 2 := fun p hp => by
    rcases List.mem_cons.mp hp with rfl | hp
    · exact addr_ne (i := 3) (j := 2) (by decide)
    · rcases List.mem_cons.mp hp with rfl | hp
      · exact Nat.ne_of_gt (Nat.lt_trans (Nat.lt_succ_self _) hlv)
      · exact ne_add hln (by decide) p hp
  have hlv2 : (lv, Lst ws ew) ∈ (L + 3, cellObj none) :: (lv, Lst ws ew) :: n := .tail _ (.head _)
  refine Wp.conFx ?_
  walk_at "aus"
  refine Wp.newTuple (by simp) fun tu htu => ?_
  have htu2 : tu ≠ L + 2 := Nat.ne_of_gt (htu (L + 2, _) (.head _))
  generalize hit : ([_, _, _] : List Value) = menu
  refine ⟨fun i v => menu[i]? = some v, menu.length, [(tu, Tup menu)], fun i vs' n' => (∃ oc, n' = (tu, Tup menu) :: (L + 2, cellObj oc) :: (L + 3, cellObj none) :: (lv, Lst ws ew) :: n) ∧ ∃ o4 o5, vs' = [some (.ref l), some (.int num tn), some (.int wire tw), some (.ref lv), o4, o5, none, none],
    itr_tuple rm.hh (.head _), ⟨⟨none, rfl⟩, none, none, rfl⟩, ⟨fun i vs' n' ⟨⟨oc, e⟩, _⟩ p hp => (by subst e; rw [List.mem_singleton.mp hp]; exact .head _), fun i vs' n' ⟨⟨oc, e⟩, _⟩ => (by subst e; exact sub2)⟩, ?_, ?_⟩
  · rintro it o i w vs' n' hit1 _ hi3 hw2 ⟨⟨oc, rfl⟩, o4, o5, rfl⟩
    obtain ⟨ti, rfl, hi4⟩ : ∃ t, w = Value.int (i : Nat) t ∧ i ≤ 2 := by
      subst hit
      match i, hw2 with
      | 0, h => exact ⟨_, (Option.some.inj h).symm, by decide⟩
      | 1, h => exact ⟨_, (Option.some.inj h).symm, by decide⟩
      | 2, h => exact ⟨_, (Option.some.inj h).symm, by decide⟩
      | i + 3, h => cases h
    have hit2 : it ≠ L + 2 := Nat.ne_of_gt (hit1 (L + 2, cellObj none) (.tail _ (.head _)))
    refine Wp.stc r (by walk_at "au_m") (by subst he; kernel_rfl) (.tail _ (.tail _ (.head _))) ?_
    rw [upd_cons_ne hit2, upd_cons_ne htu2, upd_cons, upd_id hn2]
    refine (law_turn1 hG he r0 hfr rm (n := (it, o) :: (tu, Tup menu) :: (L + 2, cellObj (some (.int i ti))) :: (L + 3, cellObj none) :: (lv, Lst ws ew) :: n) (i := i) (ti := ti) hw h1 h2 hi4 (.tail _ (.tail _ (.tail _ hlv2))) hws (.tail _ (.tail _ (.head _))) hB hrr).monoQ fun fl vs3 n3 q => ?_
    cases fl with
    | next => exact ⟨_, q.1, ⟨_, rfl⟩, q.2⟩
    | cont => exact ⟨_, q.1, ⟨_, rfl⟩, q.2⟩
    | brk => exact q
    | ret v => exact q
  rintro vs' n' ⟨⟨oc, rfl⟩, o4, o5, rfl⟩
  refine Wp.drop (n' := (L + 3, cellObj none) :: (lv, Lst ws ew) :: n) (fun p hp => .tail _ (.tail _ hp)) ?_
  walk_at "aus"
  refine Wp.newList (by simp) fun lf hlf => ?_
  have hlf3 : lf ≠ L + 3 := Nat.ne_of_gt (hlf (L + 3, _) (.head _))
  have hlfn : ∀ p ∈ (lv, Lst ws ew) :: n, p.1 ≠ lf := fun p hp => Nat.ne_of_lt (hlf p (.tail _ hp))
  have hn3 : ∀ p ∈ (lv, Lst ws ew) :: n, p.1 ≠ L + 3 := fun p hp => by
    rcases List.mem_cons.mp hp with rfl | hp
    · exact Nat.ne_of_gt hlv
    · exact ne_add hln (by decide) p hp
  have hlv4 : (lv, Lst ws ew) ∈ (lv, Lst ws ew) :: n := .head _
  have hnn : ∀ p ∈ n, p ∈ (lv, Lst ws ew) :: n := fun p hp => .tail _ hp
  generalize (lv, Lst ws ew) :: n = N4 at hlf hlfn hn3 hlv4 hnn ⊢
  walk_at "au"
  refine Wp.conFp rm.hh ?_
  walk_at "aus"
  refine Wp.newTuple (by simp) fun t1 ht1 => ?_
  walk_at "aus"
  refine Wp.newTuple (by simp) fun t2 ht2 => ?_
  walk_at "aus"
  refine Wp.newTuple (by simp) fun tu2 htu2 => ?_
  have a1 : t1 ≠ L + 3 := Nat.ne_of_gt (ht1 (L + 3, _) (.tail _ (.head _)))
  have a2 : t2 ≠ L + 3 := Nat.ne_of_gt (ht2 (L + 3, _) (.tail _ (.tail _ (.head _))))
  have a3 : tu2 ≠ L + 3 := Nat.ne_of_gt (htu2 (L + 3, _) (.tail _ (.tail _ (.tail _ (.head _)))))
  have b1 : t1 ≠ lf := Nat.ne_of_gt (ht1 (lf, _) (.head _))
  have b2 : t2 ≠ lf := Nat.ne_of_gt (ht2 (lf, _) (.tail _ (.head _)))
  have b3 : tu2 ≠ lf := Nat.ne_of_gt (htu2 (lf, _) (.tail _ (.tail _ (.head _))))
  rename_i x1 y1 x2 y2
  refine ⟨tu2, [.ref t1, .ref t2], fun i vs' n' => (∃ osz ef, n' = (tu2, Tup [.ref t1, .ref t2]) :: (t2, Tup [.str "<Q" x2, .int 8 y2]) :: (t1, Tup [.str "<I" x1, .int 4 y1]) :: (lf, Lst (List.replicate i (.bool true)) ef) :: (L + 3, cellObj osz) :: N4) ∧ ∃ o4 o5 o7, vs' = [some (.ref l), some (.int num tn), some (.int wire tw), some (.ref lv), o4, o5, some (.ref lf), o7],
    rfl, .head _, ⟨⟨none, 0, rfl⟩, _, _, _, rfl⟩, ⟨fun i vs' n' ⟨⟨osz, ef, e⟩, _⟩ p hp => (by subst e; rw [List.mem_singleton.mp hp]; exact .head _), fun i vs' n' ⟨⟨osz, ef, e⟩, _⟩ => (by subst e; exact Sub.cons (Sub.cons (Sub.cons sub2)))⟩, ?_, ?_⟩
  · rintro it o i w vs' n' hit1 _ hw2 ⟨⟨osz, ef, rfl⟩, o4, o5, o7, rfl⟩
    have a4 : it ≠ L + 3 := Nat.ne_of_gt (hit1 (L + 3, cellObj none) (.tail _ (.tail _ (.tail _ (.tail _ (.head _))))))
    have b4 : it ≠ lf := Nat.ne_of_gt (hit1 (lf, Lst []) (.tail _ (.tail _ (.tail _ (.head _)))))
    obtain ⟨ta, x, sz, tx, ts, rfl, hta, hx, hi2⟩ : ∃ (ta : Addr) (x : Str) (sz : Nat) (tx ts : Tok), w = Value.ref ta ∧ (ta, Tup [.str x tx, .int sz ts]) ∈ (it, o) :: (tu2, Tup [.ref t1, .ref t2]) :: (t2, Tup [.str "<Q" x2, .int 8 y2]) :: (t1, Tup [.str "<I" x1, .int 4 y1]) :: (lf, Lst (List.replicate i (.bool true)) ef) :: (L + 3, cellObj osz) :: N4 ∧ FmtOk x sz ∧ i < 2 := by
      match i, hw2 with
      | 0, h => exact ⟨t1, "<I", 4, x1, y1, (Option.some.inj h).symm, .tail _ (.tail _ (.tail _ (.head _))), .inl ⟨rfl, rfl⟩, by decide⟩
      | 1, h => exact ⟨t2, "<Q", 8, x2, y2, (Option.some.inj h).symm, .tail _ (.tail _ (.head _)), .inr ⟨rfl, rfl⟩, by decide⟩
      | i + 2, h => cases h
    refine Wp.asgT rm.hh hta (Wp.aio ?_)
    refine Wp.stl r (by walk_at "au_m") (by simp) ?_
    refine Wp.aio ?_
    refine Wp.stc r (by walk_at "au_m") (by subst he; kernel_rfl) (.tail _ (.tail _ (.tail _ (.tail _ (.tail _ (.head _)))))) ?_
    rw [upd_cons_ne a4, upd_cons_ne a3, upd_cons_ne a2, upd_cons_ne a1, upd_cons_ne hlf3, upd_cons, upd_id hn3]
    refine Wp.aio0 ?_
    refine (law_turn2 hG he r0 rm (n := (it, o) :: (tu2, Tup [.ref t1, .ref t2]) :: (t2, Tup [.str "<Q" x2, .int 8 y2]) :: (t1, Tup [.str "<I" x1, .int 4 y1]) :: (lf, Lst (List.replicate i (.bool true)) ef) :: (L + 3, cellObj (some (.int sz ts))) :: N4) (tx := tx) hx hw h1 h2 (.tail _ (.tail _ (.tail _ (.tail _ (.tail _ (.tail _ hlv4)))))) hws (.tail _ (.tail _ (.tail _ (.tail _ (.tail _ (.head _)))))) (.tail _ (.tail _ (.tail _ (.tail _ (.head _))))) (by simp; omega) hB hrr).monoQ fun fl vs3 n3 q => ?_
    have fin : ((∀ p ∈ upd ((it, o) :: (tu2, Tup [.ref t1, .ref t2]) :: (t2, Tup [.str "<Q" x2, .int 8 y2]) :: (t1, Tup [.str "<I" x1, .int 4 y1]) :: (lf, Lst (List.replicate i (.bool true)) ef) :: (L + 3, cellObj (some (.int sz ts))) :: N4) lf (Lst (List.replicate i (.bool true) ++ [.bool true]) (ef + 1)), p ∈ n3) ∧ ∃ o4 o5, vs3 = [some (.ref l), some (.int num tn), some (.int wire tw), some (.ref lv), o4, o5, some (.ref lf), some (.str x tx)]) →
        ∃ n4, (∀ p ∈ (it, o) :: n4, p ∈ n3) ∧ (∃ osz ef, n4 = (tu2, Tup [.ref t1, .ref t2]) :: (t2, Tup [.str "<Q" x2, .int 8 y2]) :: (t1, Tup [.str "<I" x1, .int 4 y1]) :: (lf, Lst (List.replicate (i + 1) (.bool true)) ef) :: (L + 3, cellObj osz) :: N4) ∧ ∃ o4 o5 o7, vs3 = [some (.ref l), some (.int num tn), some (.int wire tw), some (.ref lv), o4, o5, some (.ref lf), o7] := by
      rintro ⟨hs, o4', o5', e⟩
      rw [upd_cons_ne b4, upd_cons_ne b3, upd_cons_ne b2, upd_cons_ne b1, upd_cons, upd_cons_ne hlf3.symm, upd_id hlfn, ← List.replicate_succ'] at hs
      exact ⟨_, hs, ⟨_, _, rfl⟩, o4', o5', _, e⟩
    cases fl with
    | next => exact fin q
    | cont => exact fin q
    | brk => exact q
    | ret v => exact q
  · rintro vs' n' ⟨⟨osz, ef, rfl⟩, o4, o5, o7, rfl⟩
    walk_at "aus"
    refine Wp.newList (by simp) fun lt hlt => ?_
    have hu : A.units + 64 < cLine := by have := rm.u; show _ < 9900; omega
    refine Wp.eqTT hu (.tail _ (.tail _ (.tail _ (.tail _ (.head _))))) (.head _) ⟨rfl, fun p hp => ?_⟩
    exact .tail _ (.tail _ (.tail _ (.tail _ (.tail _ (.tail _ (hnn p hp))))))
end
end

section
set_option maxHeartbeats 4000000
open PySem PySem.Spec PySem.Calls PyProof.Rows PySem.W

theorem hideL_get {h : Heap} {l : Addr} {its : Array Value} (hl : h.IsList l its) {b : Addr} {o : Obj} (e : h.get? b = some o) (hc : o.cls ≠ .type "list" ∨ ∀ es n, o.data ≠ .seq es n) : (hideAll h [l]).get? b = some o := hideAll_get _ e fun q => by
  obtain rfl := List.mem_singleton.mp q
  obtain ⟨o', ho', hc', n, hd'⟩ := hl
  rw [e] at ho'
  cases ho'
  rcases hc with hc | hc
  · exact hc hc'
  · exact hc _ _ hd'
theorem hideL_ns {h : Heap} {l a : Addr} {its : Array Value} {m : Str → Option Value} (hl : h.IsList l its) (x : h.Ns a m) : (hideAll h [l]).Ns a m :=
  let ⟨o, es, ep, e, hd, r⟩ := x; ⟨o, es, ep, hideL_get hl e (.inr fun _ _ q => by rw [hd] at q; cases q), hd, r⟩
theorem hideL_top {h : Heap} {l : Addr} {its : Array Value} {loose : List Str} {mean : ExcName → Option Value} {mg mb : Str → Option Value} (hl : h.IsList l its) (T : Top topProg loose mean mg mb h) : Top topProg loose mean mg mb (hideAll h [l]) where
  g := hideL_ns hl T.g
  b := hideL_ns hl T.b
  nolimit := let ⟨mc, a, r⟩ := T.nolimit; ⟨mc, hideL_ns hl a, r⟩
  nodigits := let ⟨mc, a, r⟩ := T.nodigits; ⟨mc, hideL_ns hl a, r⟩
  fn := fun d hd => absurd (show d ∈ ([] : List DefRec) from hd) List.not_mem_nil
  own := fun o ho => absurd (show o ∈ ([] : List OwnSpec) from ho) List.not_mem_nil
  const := fun x d e => by cases (show (none : Option PyData) = some d from e)
  free := T.free
  builtins := T.builtins
  tab := fun d hd => absurd (show d ∈ ([] : List DefRec) from hd) List.not_mem_nil
  bmain := let ⟨bm, ob, a1, a2, a3, a4, r⟩ := T.bmain; ⟨bm, ob, a1, a2, hideL_get hl a3 (.inl (by rw [a4]; simp)), a4, r⟩
  seer := fun e => absurd (show false = true from e) Bool.false_ne_true
def noLs (K : Frag) : Bool := K.all fun p => p.2.cls != .type "list"
theorem lookup_mem' {K : Frag} {a : Addr} {o : Obj} (h : K.lookup a = some o) : (a, o) ∈ K := by
  induction K with
  | nil => cases h
  | cons p K ih =>
    obtain ⟨b, q⟩ := p
    rw [List.lookup_cons] at h
    cases hab : a == b with
    | true =>
      rw [hab] at h
      cases h
      rw [beq_iff_eq.mp hab]; exact .head _
    | false =>
      rw [hab] at h
      exact .tail _ (ih h)
theorem hideL_K {K : Frag} {h : Heap} {l : Addr} {its : Array Value} (hl : h.IsList l its) (X : K.In h) (hK : noLs K = true) : K.In (hideAll h [l]) := fun a o e => by
  refine hideL_get hl (X a o e) (.inl fun q => ?_)
  have := List.all_eq_true.mp hK _ (lookup_mem' e)
  simp only [bne_iff_ne, ne_eq] at this
  exact this q
theorem codeO_of_K {K : Frag} {c P : Addr} (e : codeHdIn K c P = true) : ∃ oc, K.lookup c = some oc ∧ CodeO oc c P := by
  unfold codeHdIn at e
  split at e
  · rename_i vs _ hk
    simp only [Bool.and_eq_true] at e
    obtain ⟨⟨⟨⟨⟨e1, e2⟩, e3⟩, e4⟩, e5⟩, e6⟩ := e
    have hne : c ≠ P := fun q => by rw [q] at e6; simp at e6
    split at e1
    · rename_i P' h11
      have hP : P' = P := beq_iff_eq.mp e1
      subst hP
      split at e2
      · rename_i f tf h18
        split at e3
        · rename_i fl tg h7
          split at e4
          · rename_i b h9
            split at e5
            · rename_i n tt h10
              exact ⟨_, hk, vs, f, tf, fl, tg, b, n, tt, rfl, rfl, h11, by rw [Array.getD_eq_getD_getElem?, h11]; rfl, h18, h7, h9, h10, hne⟩
            · cases e5
          · cases e4
        · cases e3
      · cases e2
    · cases e1
  · cases e
def auTabs : List (Addr × Addr) := [(204, 200), (162, 158), (155, 151), (119, 115), (112, 108), (183, 179), (197, 193), (211, 207), (141, 137), (169, 165), (126, 122)]
def auCodes : List Addr := [112, 119, 126, 141, 155, 162, 169, 183, 197, 204, 211]
theorem auTabs_hd (w : World) : ∀ q ∈ auTabs, codeHdIn (hdK w) q.1 q.2 = true := by
  unfold auTabs
  repeat (refine List.forall_mem_cons.mpr ⟨by kernel_rfl, ?_⟩)
  exact fun q hq => by cases hq
theorem auCodes_tab : ∀ c ∈ auCodes, ∃ P, (c, P) ∈ auTabs := by
  unfold auCodes auTabs
  repeat (refine List.forall_mem_cons.mpr ⟨⟨_, by walk_at "au_m"⟩, ?_⟩)
  exact fun q hq => by cases hq
theorem auTabs_code : ∀ q ∈ auTabs, q.1 ∈ auCodes := by decide
theorem grownAll_of {h : Heap} : ∀ {tabs : List (Addr × Addr)}, (∀ q ∈ tabs, GrownAt q.2 h) → GrownAll tabs h
  | [], _ => trivial
  | _ :: _, k => ⟨k _ (.head _), grownAll_of fun q hq => k q (.tail _ hq)⟩
section
variable {prog : Program} {w : World} {s₁ : Shared} {loose : List Str} {mean : ExcName → Option Value} {mg mb : Str → Option Value}
theorem law_enter (hT : TabsAt auTabs s₁.heap) (X : (hdK w).In (ghostOf s₁.heap auTabs)) (T : Top topProg loose mean mg mb (ghostOf s₁.heap auTabs)) (hg : s₁.gens = #[]) {l : Addr} {ws : List Value} {ks : List Int} (hl : (ghostOf s₁.heap auTabs).IsList l ws.toArray) (hi : IntsAre ws ks) (hlen : ws.length ≤ 63)
    {fa : Addr} {o : Obj} {pm cd doc : Value} (ho : s₁.heap.get? fa = some o) (hd : o.data = .func (docDef "law" (dPar dLaw) (dBody dLaw) (dScope dLaw) pm cd doc)) (hcd : s₁.heap.CodeRec cd "law") {R : Result → Shared → Prop}
    (hR : ∀ s₃, (∀ b o, (ghostOf s₁.heap auTabs).get? b = some o → s₃.heap.get? b = some o) → s₃.gens = #[] → s₃.os = s₁.os → GrownAll auTabs s₃.heap → R (.ok (.ret (.bool true))) s₃) :
    codeAny (model prog w) callerA (.call (.ref fa) ⟨[.ref l], []⟩) R s₁ := by
  obtain ⟨lo, hlo, hlc, ep, hld⟩ := id hl
  let G : Gl := ⟨prog, w, hdK w, topProg, loose, mean, mg, mb, s₁.os, auCodes, auQual⟩
  have hG : Ok G := ⟨rfl, rfl, rfl⟩
  have st : ∀ b ob, (hideAll (ghostOf s₁.heap auTabs) [l]).get? b = some ob → s₁.heap.get? b = some ob := fun b ob e => of_hideAll _ (of_hideAll _ e)
  have hlo1 : s₁.heap.get? l = some lo := of_hideAll _ hlo
  have X0 : G.K.In (hideAll (ghostOf s₁.heap auTabs) [l]) := hideL_K hl X (by kernel_rfl)
  have T0 := hideL_top hl T
  have hL : l < s₁.heap.objs.size := Heap.lt_size hlo1
  have J : JL G [(l, lo)] (tabNews auTabs) := by
    refine ⟨⟨fun c => c ∈ auCodes, ⟨fun c hc => ?_, fun c hc => hc, fun f oc od fd sl hm => ?_⟩⟩, fun p hp => ?_, fun p hp => ?_⟩
    · obtain ⟨P, hP⟩ := auCodes_tab c hc
      obtain ⟨oc, hk, CO⟩ := codeO_of_K (auTabs_hd w _ hP)
      exact ⟨oc, P, #[], .inr hk, CO, List.mem_map.mpr ⟨_, hP, rfl⟩, trivial, fun pos cv h => by cases h⟩
    · rw [← (Prod.mk.inj (List.mem_singleton.mp hm)).2] at hld
      cases hld
    · obtain ⟨q, _, rfl⟩ := List.mem_map.mp hp
      exact .inl rfl
    · rw [List.mem_singleton.mp hp]
      show lo.cls ≠ .none
      rw [hlc]; intro q; cases q
  refine codeAny_call_function (body := dBody dLaw) (by decide) ho hd (by rfl) (by rfl) rfl hcd ((BindsTo.of_eq (binds := [("script", .ref l)]) (by rfl)) _ _ _ _ ?_)
  unfold newFunctionEnv
  simp only [Option.isSome_none, Bool.false_eq_true, if_false]
  refine wpAny_bind (wpAny_alloc ?_)
  refine wpAny_bind (wpAny_layCells _ (fun name kind cells => by cases hkc : kind == NameKind.cell <;> simp) _ _ _ _ ?_)
  rw [show ({ s₁ with heap := s₁.heap.push { cls := .type "frame", data := .dict #[] } } : Shared).heap.objs.size = s₁.heap.objs.size + 1 from Heap.size_push ..]
  have hz : (s₁.heap.push { cls := .type "frame", data := .dict #[] }).objs.size = s₁.heap.objs.size + 1 := Heap.size_push ..
  have keep : ∀ b ob, s₁.heap.get? b = some ob → (pushCells (s₁.heap.push { cls := .type "frame", data := .dict #[] }) (dScope dLaw).names).get? b = some ob := fun b ob e => pushCells_keeps _ _ _ _ (Heap.get?_push_of_some _ e)
  have hsz : (hideAll (ghostOf s₁.heap auTabs) [l]).objs.size = s₁.heap.objs.size := (hideAll_size _ _).trans (hideAll_size _ _)
  have S' : St G ⟨hideAll (ghostOf s₁.heap auTabs) [l], s₁.heap.objs.size, nsLaw⟩ (List.replicate nsLaw.length none) (cellLed (s₁.heap.objs.size + 1) (dScope dLaw).names ++ [(l, lo)]) { s₁ with heap := pushCells (s₁.heap.push { cls := .type "frame", data := .dict #[] }) (dScope dLaw).names } := by
    refine ⟨⟨?_, fun b ob e => keep b ob (st b ob e), Nat.le_of_eq hsz⟩, X0, T0, hg, rfl, tabNews auTabs, fun p hp => ?_, J.app (cellLed_noFn _ _)⟩
    · show Heap.Ns _ _ (look nsLaw (List.replicate nsLaw.length none))
      rw [look_none]
      exact (Heap.Ns.new s₁.heap (.type "frame")).keeps (pushCells_keeps _ _)
    · rw [List.append_assoc] at hp
      rcases List.mem_append.mp hp with hp | hp
      · have z := pushCells_led (dScope dLaw).names (s₁.heap.push { cls := .type "frame", data := .dict #[] }) p (by rw [hz]; exact hp)
        rw [hz] at z
        exact ⟨z.1, Nat.ne_of_gt z.2, Heap.get?_none_of_le (by rw [hsz]; omega)⟩
      · rcases List.mem_append.mp hp with hp | hp
        · rw [List.mem_singleton.mp hp]
          exact ⟨keep _ _ hlo1, Nat.ne_of_lt hL, hideAll_none _ (.head _)⟩
        · obtain ⟨q, hq, rfl⟩ := List.mem_map.mp hp
          have hg2 := (hT q hq).2
          refine ⟨keep _ _ hg2, Nat.ne_of_lt (Heap.lt_size hg2), ?_⟩
          have : (ghostOf s₁.heap auTabs).get? q.2 = none := hideAll_none _ (List.mem_map_of_mem hq)
          cases e : (hideAll (ghostOf s₁.heap auTabs) [l]).get? q.2 with
          | none => rfl
          | some ob => rw [of_hideAll _ e] at this; cases this
  have r0 : Res G ⟨hideAll (ghostOf s₁.heap auTabs) [l], s₁.heap.objs.size, nsLaw⟩ (envLaw s₁.heap.objs.size fa cd) (RLaw s₁.heap.objs.size) := by
    refine ⟨by rfl, rfl, rfl, rfl, (by decide +kernel : nsLaw.Nodup), ?_⟩
    show ∀ x sl, _ → SlotOk (hdK w) _ _ x sl
    unfold RLaw nsLaw
    exact SlotsOk.all (by walk_at "au_slots")
  generalize s₁.heap.objs.size = L at S' r0 hL ⊢
  have P : Pl ⟨hideAll (ghostOf s₁.heap auTabs) [l], L, nsLaw⟩ (envLaw L fa cd) (RLaw L) [("script", .ref l)] (List.replicate nsLaw.length none) (cellLed (L + 1) (dScope dLaw).names ++ [(l, lo)]) [some (.ref l), none, none, none, none, none, none, none] ((L + 1, cellObj none) :: (L + 2, cellObj none) :: (L + 3, cellObj none) :: [(l, lo)]) := by
    unfold RLaw nsLaw; walk_at "au_pl"
  refine wpAny_bind (wpAny_mono ((Wp.binds (A := callerA.in1) (E := fun e s' => R (.error e) s') r0 _ (fun _ _ _ => rfl) P (Q := fun _ v m => v = _ ∧ m = _) ⟨rfl, rfl⟩).run _ S') (fun _ s₂ ⟨v₂, n₂, S₂, e1, e2⟩ => ?_) fun _ _ x => x)
  subst e1 e2
  refine wpAny_pure ⟨S₂.T.nolimit.keeps S₂.F.keep, codeAny_func (wpAny_mono ((law_run hG rfl r0 (A := callerA.deeper (envLaw L fa cd)) (by rfl) ⟨rfl, by show 1 + claimMargin + 1 + 30 < 900; decide, by show 4 + 3 + 12 * 30 < 9800; decide⟩ (.head _) hlc hld hi hlen (fun p hp => by rw [List.mem_singleton.mp hp]; exact hL)).run s₂ S₂) (fun fl s₃ ⟨v₃, n₃, S₃, e, hn⟩ => ?_) fun _ _ x => x.elim)⟩
  subst e
  refine hR s₃ (fun b ob e => ?_) S₃.g S₃.o (grownAll_of fun q hq => ?_)
  · by_cases hb : b = l
    · subst hb
      rw [hlo] at e
      cases e
      exact S₃.get (hn _ (.head _))
    · exact S₃.F.keep _ _ (hideAll_get _ e (by simpa using hb))
  · obtain ⟨F, X3, _, _, _, nJ, N, ⟨S0, J3⟩, _⟩ := S₃
    obtain ⟨oc, P, ps, Hc, CO, mP, _⟩ := J3.step q.1 (J3.top _ (auTabs_code q hq))
    obtain ⟨ock, hk, CO2⟩ := codeO_of_K (auTabs_hd w _ hq)
    have e1 := Hc.obj F X3 N (fun p hp => List.mem_append_right _ hp)
    have e2 := F.keep _ _ (X3 _ _ hk)
    rw [e1] at e2
    cases e2
    obtain ⟨vs1, _, _, _, _, _, _, _, _, d1, a1, _⟩ := CO
    obtain ⟨vs2, _, _, _, _, _, _, _, _, d2, a2, _⟩ := CO2
    rw [d1] at d2
    cases d2
    rw [a1] at a2
    cases a2
    exact ⟨ps, (N _ (List.mem_append_right _ mP)).1⟩
end
end

section
open PySem PySem.W PyProof.Rows
set_option maxHeartbeats 0 in
theorem walk : PySem.Challenge.rw_au6045_01.Holds := Au.hd (by
  w_strict (
  k_fill
  intro w s₀ s₁ mg mb G Y fa o pm cd doc dV kV ho hd hcd hD hmg hg args vals as hpre hlay hrd hwl hlo
  have KX := km_in_of Y
  km_tabs Y
  have X := (Ground.X G).1
  have V := (Ground.X G).2
  refine Ground.open G ?_
  intro T B D TE TW
  try (refine guard_noD D (by decide +kernel) ?_; clear D)
  km_lay T hmg ho hd cd
  clear hmg
  wrow_args hpre hlay hrd hwl hlo
  all_goals (
    first | refine callC_kw (enter_call ?_) | refine enter_call ?_
    w_top on
    kn_posts
    have he := Dflts.none hD rfl
    subst he
    have he := Dflts.noKw hD
    subst he
    clear hD
    have hd' := fd_plain hd
    clear hd
    rename Heap.IsList _ _ _ => hL
    rename IntsAre _ _ => hI
    have hl63 := hI.length
    refine Au.law_enter (pm := pm) (doc := doc) hT9 (ghost_K hT9 KX (by kernel_rfl)) (ghost_top hT9 T) hg (ghost_list hT9 hL) hI (by omega) ho (hd'.trans (by kernel_rfl)) hcd fun s₃ hk h1 h2 h3 => ⟨⟨.inl ⟨_, .bool true, [], rfl, fun _ => rfl, .bool true, (by first | exact postW_of (X := true) rfl rfl rfl | exact postW_of (by wrow_shape) (by wtm_val) (by first | rfl | exact same_self _ | law_fin) | kernel_rfl), unshared_nil⟩, hk, h2, h1⟩, h3⟩)))
end
end Au

theorem PySem.Challenge.cw_au6045_01_holds : PySem.Challenge.rw_au6045_01.Holds :=
  Au.walk
